import JvmDerived
import JvmDerived.Pilot.@@N@@Statement
import JvmDerived.Pilot.@@N@@Code
set_option linter.unusedVariables false
set_option linter.unusedSimpArgs false
namespace Jvm.Pilot.@@N@@
open Jvm Jvm.ClassFile Sem Op Lib Jvm.Free Jvm.Stand Jvm.LawKit Jvm.RoadKit Bundle Jvm.Pilot.@@N@@.Jvm.D
/-- what is left to show at a frame of the walk: the run from there ends as the contract says -/
def own_G (p : Program) (e : Env) (below : List Frame) (s : State) (Q : Option Value → Heap → List Loc → Prop) (ce sl : Nat) (T : State) (g : JFrame) : Prop :=
  ∃ s₂ o, Steps p.tables e below (T.setTop g) s₂ ∧ s₂.status = .running ∧ Ended s₂ below o ∧ ∃ v L, o = .returned v ∧ Q v s₂.heap L ∧ FrameEnd s o s₂ L ce sl
theorem own_w {p : Program} {e : Env} {below : List Frame} {s : State} {Q : Option Value → Heap → List Loc → Prop} {ce sl : Nat} {T T' : State} {g g' : JFrame}
    (st : ∀ target, Steps p.tables e below (T'.setTop g') target → Steps p.tables e below (T.setTop g) target) (k : own_G p e below s Q ce sl T' g') : own_G p e below s Q ce sl T g := by
  obtain ⟨u, o, a, r⟩ := k
  exact ⟨u, o, st u a, r⟩
theorem own_t {p : Program} {e : Env} {below : List Frame} {s : State} {Q : Option Value → Heap → List Loc → Prop} {ce sl : Nat} {T T' : State} {g g' : JFrame}
    (st : Steps p.tables e below (T.setTop g) (T'.setTop g')) (k : own_G p e below s Q ce sl T' g') : own_G p e below s Q ce sl T g := own_w (fun _ k => st.trans k) k
theorem own_sta {Z : State} {h h' : Heap} {C n d : String} {v : Value} {a : Addr} (F : Sta Z h C n d v) (K : Keep h h' [a]) (na : ∀ cell : Cell, h[a]? = some cell → cell.vm.isStatics = false) : Sta Z h' C n d v := by
  obtain ⟨cf, i, k, f, st, cell, h1, h2, h3, h4, h5, h6, h7⟩ := F
  refine ⟨cf, i, k, f, st, cell, h1, h2, h3, h4, K.2.1 st cell h5 (fun q => ?_), h6, h7⟩
  have e : st = a := List.mem_singleton.mp q
  subst e
  rw [na _ h5] at h6; cases h6
theorem own_nb {P : Prop} [Decidable P] : narrow .boolean (.int (if P then (1 : Int32) else 0)) = .int (if P then (1 : Int32) else 0) := by split <;> rfl
theorem own_ite0 {P : Prop} [Decidable P] : ((if P then (1 : Int32) else 0) = 0) = ¬ P := by by_cases h : P <;> simp [h]
def own_Ar (Z : State) (h : Heap) (a : Addr) (ty : FieldType) (xs : List Int32) : Prop := ∃ c : Cell, Arr Z h a c ty ∧ c.slots = (xs.map Value.int).toArray
section Arrays
variable {Z : State} {h h' : Heap} {a b : Addr} {ty : FieldType} {xs : List Int32} {c : Cell} {i : Nat} {j x y v : Int32} {sl : Nat} {u : Value} {ws : List Addr}
theorem own_Ar_lt (V : own_Ar Z h a ty xs) : a < h.size := by obtain ⟨c, A, -⟩ := V; exact A.lt
theorem own_Ar_ext (V : own_Ar Z h a ty xs) (E : Ext h h') : own_Ar Z h' a ty xs := by obtain ⟨c, A, r⟩ := V; exact ⟨c, A.ext E, r⟩
theorem own_Ar_other (V : own_Ar Z h b ty xs) (W : Wr h h' a sl u) (q : b ≠ a) : own_Ar Z h' b ty xs := by obtain ⟨c, A, r⟩ := V; exact ⟨c, A.other W q, r⟩
theorem own_Ar_keep (V : own_Ar Z h a ty xs) (K : Keep h h' ws) (q : a ∉ ws) : own_Ar Z h' a ty xs := by obtain ⟨c, A, r⟩ := V; exact ⟨c, ⟨K.2.1 a c A.1 q, A.2⟩, r⟩
theorem own_Ar_new {cA : ClassId} {n : Int32} {k : Nat} (A : Arr Z h a (newA cA ty n) ty) (hd : defaultValue ty = .int 0) (hn : n.toNatClampNeg = k) : own_Ar Z h a ty (List.replicate k 0) := by
  refine ⟨_, A, ?_⟩
  show Array.replicate n.toNatClampNeg (defaultValue ty) = _
  rw [hd, hn]; simp
theorem own_ix (hj : j.toInt = (i : Int)) : j.toNatClampNeg = i := by show j.toInt.toNat = i; rw [hj]; rfl
theorem own_Ar_set (V : own_Ar Z h a ty xs) (W : Wr h h' a j.toNatClampNeg (.int y)) (hj : j.toInt = (i : Int)) (hv : y = v) : own_Ar Z h' a ty (xs.set i v) := by
  obtain ⟨c, A, hs⟩ := V
  subst hv
  refine ⟨_, A.same W, ?_⟩
  show c.slots.setIfInBounds _ _ = _
  rw [hs, own_ix hj]; simp [List.map_set]
theorem own_Ar_in (hs : c.slots = (xs.map Value.int).toArray) (hj : j.toInt = (i : Int)) (hi : i < xs.length) : ¬ (j < 0 ∨ c.slots.size ≤ j.toNatClampNeg) := by
  rw [hs, own_ix hj, Int32.lt_iff_toInt_lt, hj, show (0 : Int32).toInt = 0 from rfl]
  simp; omega
theorem own_Ar_at (hs : c.slots = (xs.map Value.int).toArray) (hj : j.toInt = (i : Int)) (hx : xs[i]? = some x) : c.slots[j.toNatClampNeg]? = some (.int x) := by
  rw [hs, own_ix hj]; simp [hx]
theorem own_fitc (A : Arr Z h a c ty) (hs : c.slots = (xs.map Value.int).toArray) (hf : ∀ x ∈ xs, fits ty (.int x) = true) : FitC Z c := fitC_of A fun i hi v hv => by
  rw [hs] at hv
  simp only [List.getElem?_toArray, List.getElem?_map, Option.map_eq_some_iff] at hv
  obtain ⟨x, hx, rfl⟩ := hv
  exact hf x (List.mem_of_getElem? hx)
theorem own_get_lt (hx : xs[i]? = some x) : i < xs.length := (List.getElem?_eq_some_iff.mp hx).1
end Arrays
theorem own_rem {x y : Int32} (d : Nat) (hy : y.toInt = d) (hd : 0 < d) (hx : 0 ≤ x.toInt) : (x - (x / y) * y).toInt = x.toInt % d := by
  have q := (c_idiv x y d hy (by intro h; rw [h] at hy; have : (-1 : Int32).toInt = -1 := by decide
                                 omega)).1 hx
  have m := c_imul (x / y) y
  have s := c_isub x (x / y * y)
  rw [q, hy] at m
  have e := Int.mul_ediv_add_emod x.toInt d
  have r0 := Int.emod_nonneg x.toInt (show (d : Int) ≠ 0 by omega)
  have r1 := Int.emod_lt_of_pos x.toInt (show (0 : Int) < d by omega)
  have p0 : 0 ≤ x.toInt / d := Int.ediv_nonneg hx (by omega)
  have p1 : 0 ≤ (d : Int) * (x.toInt / d) := Int.mul_nonneg (by omega) p0
  rw [Int.mul_comm (x.toInt / d) d] at m
  have l1 := x.toInt_lt; have l2 := (x / y * y).toInt_lt; have l3 := (x / y * y).le_toInt; have l4 := (x - x / y * y).toInt_lt; have l5 := (x - x / y * y).le_toInt
  have hy2 := y.toInt_lt
  generalize (d : Int) * (x.toInt / d) = P at *
  generalize x.toInt % (d : Int) = r at *
  omega
def own_i2c (x : Int32) : Int32 := x.toUInt32.toUInt16.toUInt32.toInt32
theorem own_i2c_small {x : Int32} (h0 : 0 ≤ x.toInt) (h1 : x.toInt < 65536) : own_i2c x = x := by
  have h := c_i2c x
  apply Int32.toInt_inj.mp
  show (x.toUInt32.toUInt16.toUInt32.toInt32).toInt = _
  omega
theorem own_i2c_rng (x : Int32) : 0 ≤ (own_i2c x).toInt ∧ (own_i2c x).toInt < 65536 := (c_i2c x).2
theorem own_i2c2 (x : Int32) : own_i2c (own_i2c x) = own_i2c x := own_i2c_small (own_i2c_rng x).1 (own_i2c_rng x).2
def own_letter (x : Int32) : Int32 := if (x &&& (65535 : Int32)) = 10 then own_i2c ((x &&& (65535 : Int32)) + 32) else if (x &&& (65535 : Int32)) = 13 then own_i2c ((x &&& (65535 : Int32)) + 32) else own_i2c (x &&& (65535 : Int32))
def own_lines (k : Int32) : Int32 := if k = 0 then 0 else if 3 < k then 2 else 1
abbrev own_ends (c n : Int32) : Prop := c = 10 ∨ (c = 13 ∧ ¬ n = 10)
def own_br (k : Int32) : List Int32 := if k = 1 then [10] else if k = 2 then [13] else if k = 3 then [13, 10] else if k = 4 then [10, 13] else if k = 5 then [13, 13] else if k = 6 then [10, 10] else if k = 7 then [13, 13, 10] else []
def own_adv : Int32 → Nat → Int32
  | n, 0 => n
  | n, m + 1 => own_adv (n + 1) m
def own_nx (n k : Int32) : Int32 := own_adv (n + 1) (own_br k).length
def own_e (c n : Int32) : Int32 := if own_ends c n then 1 else 0
def own_at (w : List Int32) (i : Nat) : Int32 := if i < w.length then own_e (w.getD i 0) (if i + 1 < w.length then w.getD (i + 1) 0 else -1) else 0
theorem own_n1 {n : Int32} {a : Nat} (h : n.toInt = (a : Int)) (ha : a < 1000) : (n + 1).toInt = ((a + 1 : Nat) : Int) := by
  have := c_iadd n 1
  have e : (1 : Int32).toInt = 1 := by decide
  have l1 := (n + 1).toInt_lt; have l2 := (n + 1).le_toInt
  omega
theorem own_adv_int : ∀ (m : Nat) {n : Int32} {a : Nat}, n.toInt = (a : Int) → a + m < 900 → (own_adv n m).toInt = ((a + m : Nat) : Int)
  | 0, n, a, h, _ => h
  | m + 1, n, a, h, q => by
    have := own_adv_int m (own_n1 h (by omega)) (by omega)
    rw [show own_adv n (m + 1) = own_adv (n + 1) m from rfl, this]; omega
theorem own_br_len (k : Int32) : (own_br k).length ≤ 3 := by
  unfold own_br
  repeat' split
  all_goals simp
theorem own_nx_int {n : Int32} {a : Nat} (k : Int32) (h : n.toInt = (a : Int)) (ha : a < 100) : (own_nx n k).toInt = ((a + (1 + (own_br k).length) : Nat) : Int) := by
  have := own_br_len k
  rw [own_nx, own_adv_int _ (own_n1 h (by omega)) (by omega)]; omega
theorem own_letter_ok (x : Int32) : own_i2c (own_letter x) = own_letter x ∧ ¬ own_letter x = 10 ∧ ¬ own_letter x = 13 := by
  have h := c_mask x 65535 16 (by decide) (by decide)
  have e10 : (10 : Int32).toInt = 10 := by decide
  have e13 : (13 : Int32).toInt = 13 := by decide
  have e32 : (32 : Int32).toInt = 32 := by decide
  unfold own_letter
  split
  · rename_i q
    rw [q]; decide
  · split
    · rename_i q
      rw [q]; decide
    · rename_i q1 q2
      rw [own_i2c2, own_i2c_small (by omega) (by omega)]
      exact ⟨rfl, q1, q2⟩
theorem own_d6_0 : decode prog_4_method_2_code 0 = .ok (.iload_n 0, 1) := by decide +kernel
theorem own_d6_1 : decode prog_4_method_2_code 1 = .ok (.bipush 10, 2) := by decide +kernel
theorem own_d6_3 : decode prog_4_method_2_code 3 = .ok (.if_icmp .eq 15, 3) := by decide +kernel
theorem own_d6_18 : decode prog_4_method_2_code 18 = .ok (.iconst 1, 1) := by decide +kernel
theorem own_d6_19 : decode prog_4_method_2_code 19 = .ok (.goto 4, 3) := by decide +kernel
theorem own_d6_23 : decode prog_4_method_2_code 23 = .ok (.ireturn, 1) := by decide +kernel
theorem own_d6_6 : decode prog_4_method_2_code 6 = .ok (.iload_n 0, 1) := by decide +kernel
theorem own_d6_7 : decode prog_4_method_2_code 7 = .ok (.bipush 13, 2) := by decide +kernel
theorem own_d6_9 : decode prog_4_method_2_code 9 = .ok (.if_icmp .ne 13, 3) := by decide +kernel
theorem own_d6_12 : decode prog_4_method_2_code 12 = .ok (.iload_n 1, 1) := by decide +kernel
theorem own_d6_13 : decode prog_4_method_2_code 13 = .ok (.bipush 10, 2) := by decide +kernel
theorem own_d6_15 : decode prog_4_method_2_code 15 = .ok (.if_icmp .eq 7, 3) := by decide +kernel
theorem own_d6_22 : decode prog_4_method_2_code 22 = .ok (.iconst 0, 1) := by decide +kernel
theorem own_pn_com_example_holdfast_holdfast_LineBreaks : plainName "com/example/holdfast/holdfast/LineBreaks" = true := by first | (simp [plainName, overriddenIn]; done) | decide +kernel
theorem own_rm6_ef (m : MethodId) (c' : Int32) (n' : Int32) : entryFrame m #[(.int c'), (.int n')] 2 = mkF m 0 #[.val (.int c'), .val (.int n')] [] := by first | (simp [entryFrame, mkF, argsToLocals, Value.category]; done) | rfl
def own_Q6 (Z : State) (c' : Int32) (n' : Int32) (h0 : Heap) (n0 : Nat) (v_ : Option Value) (h : Heap) (L_ : List Loc) : Prop := v_ = some (.int (own_e c' n')) ∧ Fr n0 L_ ∧ (h = h0)
set_option maxRecDepth 65536 in
set_option maxHeartbeats 40000000 in
theorem own_rm6 (l : Launch) (Z : State) (a0 : Array Value) (hw : ∀ d ∈ tables_1, d.before a0 Z = true) (ws : List Jvm.Cond) (c' : Int32) (n' : Int32) (h0 : Heap) (n0 : Nat) (Z0 : n0 ≤ h0.size)  :
    MetFree l (⟨"com/example/holdfast/holdfast/LineBreaks", "ends", "(II)Z"⟩ : MethodName) (head1 (Jvm.Cond.code (⟨"com/example/holdfast/holdfast/LineBreaks", "ends", "(II)Z"⟩ : MethodName) prog_4_method_2_code 2 (some .boolean) :: ws) ({ frames := 0, cells := 0, slots := 0, locals := 0 } : Room)) (fun a_ U_ => a_ = #[(.int c'), (.int n')] ∧ Z.Warmed39 U_.vm ∧ U_.heap = h0) (fun _ _ _ _ _ => True) (fun _ U_ o_ V_ => ∃ v_ L_, o_ = .returned v_ ∧ own_Q6 Z c' n' h0 n0 v_ V_.heap L_ ∧ FrameEnd U_ o_ V_ L_ ({ frames := 0, cells := 0, slots := 0, locals := 0 } : Room).cells ({ frames := 0, cells := 0, slots := 0, locals := 0 } : Room).slots) := by
  refine MetFree.of_bodySF (plainFor_of_name own_pn_com_example_holdfast_holdfast_LineBreaks) hisR ?_
  intro p e s m args below meth c s₁ Bd hml0 hP hK
  obtain ⟨rfl, hZ, hh⟩ := hP
  have hx := Bd.exec
  have hby := Bd.bytes
  have hml : c.maxLocals = 2 := hml0
  have hown : s.vm.findClass "com/example/holdfast/holdfast/LineBreaks" = some m.cls := findClass_of_methodNamed Bd.named
  have hnm := (name_of_methodNamed Bd.named Bd.method).1
  have X0 : Stand p l e ({ frames := 0, cells := 0, slots := 0, locals := 0 } : Room) s m #[(.int c'), (.int n')] below meth c s₁ [] 0 0 := Stand.of_body Bd
  have e0 : s₁.heap = h0 := by rw [← hh, Bd.state]; rfl
  have N0 := Fr.nil n0
  show own_G p e below s (own_Q6 Z c' n' h0 n0) ({ frames := 0, cells := 0, slots := 0, locals := 0 } : Room).cells ({ frames := 0, cells := 0, slots := 0, locals := 0 } : Room).slots s₁ (entryFrame m #[(.int c'), (.int n')] 2)
  rw [own_rm6_ef]
  refine own_w (T' := s₁) (g' := (mkF m 1 #[.val (.int c'), .val (.int n')] [(.int c')])) (fun _ k_ => XS.iloadN X0.here hx rfl (hb hby own_d6_0) rfl k_) ?_
  refine own_w (T' := s₁) (g' := (mkF m 3 #[.val (.int c'), .val (.int n')] [(.int (10 : Int32)), (.int c')])) (fun _ k_ => XS.bipush X0.here hx rfl (hb hby own_d6_1) k_) ?_
  by_cases hc3 : c' = (10 : Int32)
  · refine own_w (T' := s₁) (g' := (mkF m 18 #[.val (.int c'), .val (.int n')] [])) (fun _ k_ => XS.icmpYes X0.here hx rfl (pc0 := 3) (pc' := 18) rfl (hb hby own_d6_3) rfl (teq hc3).1 (by decide) (by decide) k_) ?_
    refine own_w (T' := s₁) (g' := (mkF m 19 #[.val (.int c'), .val (.int n')] [(.int (1 : Int32))])) (fun _ k_ => XS.iconst X0.here hx rfl (hb hby own_d6_18) k_) ?_
    refine own_w (T' := s₁) (g' := (mkF m 23 #[.val (.int c'), .val (.int n')] [(.int (1 : Int32))])) (fun _ k_ => XS.goto X0.here hx rfl (pc0 := 19) (pc' := 23) rfl (hb hby own_d6_19) (by decide) (by decide) k_) ?_
    obtain ⟨fs, hr, hrun, hended, hW, hsame⟩ := X0.leave (v := some (.int (1 : Int32))) (fun h => by rw [Bd.returns] at h; cases h)
    exact ⟨_, _, retOut X0 hx Bd.returns rfl (Or.inl ⟨rfl, Or.inr (Or.inl rfl), _, rfl⟩) (hb hby own_d6_23) hr, hrun, hended, _, _, rfl, (by show own_Q6 Z c' n' h0 n0 _ s₁.heap _; rw [e0]; exact ⟨(by simp [own_e, own_ends, hc3]), N0, rfl⟩), ⟨_, rfl⟩, hW, hsame.mono (by decide) (by decide)⟩
  · refine own_w (T' := s₁) (g' := (mkF m 6 #[.val (.int c'), .val (.int n')] [])) (fun _ k_ => XS.icmpNo X0.here hx rfl (hb hby own_d6_3) rfl (feq hc3).1 k_) ?_
    refine own_w (T' := s₁) (g' := (mkF m 7 #[.val (.int c'), .val (.int n')] [(.int c')])) (fun _ k_ => XS.iloadN X0.here hx rfl (hb hby own_d6_6) rfl k_) ?_
    refine own_w (T' := s₁) (g' := (mkF m 9 #[.val (.int c'), .val (.int n')] [(.int (13 : Int32)), (.int c')])) (fun _ k_ => XS.bipush X0.here hx rfl (hb hby own_d6_7) k_) ?_
    by_cases hc9 : c' = (13 : Int32)
    · refine own_w (T' := s₁) (g' := (mkF m 12 #[.val (.int c'), .val (.int n')] [])) (fun _ k_ => XS.icmpNo X0.here hx rfl (hb hby own_d6_9) rfl (teq hc9).2 k_) ?_
      refine own_w (T' := s₁) (g' := (mkF m 13 #[.val (.int c'), .val (.int n')] [(.int n')])) (fun _ k_ => XS.iloadN X0.here hx rfl (hb hby own_d6_12) rfl k_) ?_
      refine own_w (T' := s₁) (g' := (mkF m 15 #[.val (.int c'), .val (.int n')] [(.int (10 : Int32)), (.int n')])) (fun _ k_ => XS.bipush X0.here hx rfl (hb hby own_d6_13) k_) ?_
      by_cases hc15 : n' = (10 : Int32)
      · refine own_w (T' := s₁) (g' := (mkF m 22 #[.val (.int c'), .val (.int n')] [])) (fun _ k_ => XS.icmpYes X0.here hx rfl (pc0 := 15) (pc' := 22) rfl (hb hby own_d6_15) rfl (teq hc15).1 (by decide) (by decide) k_) ?_
        refine own_w (T' := s₁) (g' := (mkF m 23 #[.val (.int c'), .val (.int n')] [(.int (0 : Int32))])) (fun _ k_ => XS.iconst X0.here hx rfl (hb hby own_d6_22) k_) ?_
        obtain ⟨fs, hr, hrun, hended, hW, hsame⟩ := X0.leave (v := some (.int (0 : Int32))) (fun h => by rw [Bd.returns] at h; cases h)
        exact ⟨_, _, retOut X0 hx Bd.returns rfl (Or.inl ⟨rfl, Or.inr (Or.inl rfl), _, rfl⟩) (hb hby own_d6_23) hr, hrun, hended, _, _, rfl, (by show own_Q6 Z c' n' h0 n0 _ s₁.heap _; rw [e0]; exact ⟨(by simp [own_e, own_ends, hc3, hc9, hc15]), N0, rfl⟩), ⟨_, rfl⟩, hW, hsame.mono (by decide) (by decide)⟩
      · refine own_w (T' := s₁) (g' := (mkF m 18 #[.val (.int c'), .val (.int n')] [])) (fun _ k_ => XS.icmpNo X0.here hx rfl (hb hby own_d6_15) rfl (feq hc15).1 k_) ?_
        refine own_w (T' := s₁) (g' := (mkF m 19 #[.val (.int c'), .val (.int n')] [(.int (1 : Int32))])) (fun _ k_ => XS.iconst X0.here hx rfl (hb hby own_d6_18) k_) ?_
        refine own_w (T' := s₁) (g' := (mkF m 23 #[.val (.int c'), .val (.int n')] [(.int (1 : Int32))])) (fun _ k_ => XS.goto X0.here hx rfl (pc0 := 19) (pc' := 23) rfl (hb hby own_d6_19) (by decide) (by decide) k_) ?_
        obtain ⟨fs, hr, hrun, hended, hW, hsame⟩ := X0.leave (v := some (.int (1 : Int32))) (fun h => by rw [Bd.returns] at h; cases h)
        exact ⟨_, _, retOut X0 hx Bd.returns rfl (Or.inl ⟨rfl, Or.inr (Or.inl rfl), _, rfl⟩) (hb hby own_d6_23) hr, hrun, hended, _, _, rfl, (by show own_Q6 Z c' n' h0 n0 _ s₁.heap _; rw [e0]; exact ⟨(by simp [own_e, own_ends, hc3, hc9, hc15]), N0, rfl⟩), ⟨_, rfl⟩, hW, hsame.mono (by decide) (by decide)⟩
    · refine own_w (T' := s₁) (g' := (mkF m 22 #[.val (.int c'), .val (.int n')] [])) (fun _ k_ => XS.icmpYes X0.here hx rfl (pc0 := 9) (pc' := 22) rfl (hb hby own_d6_9) rfl (feq hc9).2 (by decide) (by decide) k_) ?_
      refine own_w (T' := s₁) (g' := (mkF m 23 #[.val (.int c'), .val (.int n')] [(.int (0 : Int32))])) (fun _ k_ => XS.iconst X0.here hx rfl (hb hby own_d6_22) k_) ?_
      obtain ⟨fs, hr, hrun, hended, hW, hsame⟩ := X0.leave (v := some (.int (0 : Int32))) (fun h => by rw [Bd.returns] at h; cases h)
      exact ⟨_, _, retOut X0 hx Bd.returns rfl (Or.inl ⟨rfl, Or.inr (Or.inl rfl), _, rfl⟩) (hb hby own_d6_23) hr, hrun, hended, _, _, rfl, (by show own_Q6 Z c' n' h0 n0 _ s₁.heap _; rw [e0]; exact ⟨(by simp [own_e, own_ends, hc3, hc9]), N0, rfl⟩), ⟨_, rfl⟩, hW, hsame.mono (by decide) (by decide)⟩
theorem own_d1_0 : decode method_3_code 0 = .ok (.iload_n 0, 1) := by decide +kernel
theorem own_d1_1 : decode method_3_code 1 = .ok (.ldc 31, 2) := by decide +kernel
theorem own_d1_3 : decode method_3_code 3 = .ok (.iand, 1) := by decide +kernel
theorem own_d1_4 : decode method_3_code 4 = .ok (.istore_n 1, 1) := by decide +kernel
theorem own_d1_5 : decode method_3_code 5 = .ok (.iload_n 1, 1) := by decide +kernel
theorem own_d1_6 : decode method_3_code 6 = .ok (.bipush 10, 2) := by decide +kernel
theorem own_d1_8 : decode method_3_code 8 = .ok (.if_icmp .eq 9, 3) := by decide +kernel
theorem own_d1_17 : decode method_3_code 17 = .ok (.iload_n 1, 1) := by decide +kernel
theorem own_d1_18 : decode method_3_code 18 = .ok (.bipush 32, 2) := by decide +kernel
theorem own_d1_20 : decode method_3_code 20 = .ok (.iadd, 1) := by decide +kernel
theorem own_d1_21 : decode method_3_code 21 = .ok (.istore_n 1, 1) := by decide +kernel
theorem own_d1_22 : decode method_3_code 22 = .ok (.iload_n 1, 1) := by decide +kernel
theorem own_d1_23 : decode method_3_code 23 = .ok (.i2c, 1) := by decide +kernel
theorem own_d1_24 : decode method_3_code 24 = .ok (.ireturn, 1) := by decide +kernel
theorem own_d1_11 : decode method_3_code 11 = .ok (.iload_n 1, 1) := by decide +kernel
theorem own_d1_12 : decode method_3_code 12 = .ok (.bipush 13, 2) := by decide +kernel
theorem own_d1_14 : decode method_3_code 14 = .ok (.if_icmp .ne 8, 3) := by decide +kernel
theorem own_pn_com_example_holdfast_holdfast_LineBreaksEndsPinLaw : plainName "com/example/holdfast/holdfast/LineBreaksEndsPinLaw" = true := by first | (simp [plainName, overriddenIn]; done) | decide +kernel
theorem own_rm1_ef (m : MethodId) (x' : Int32) : entryFrame m #[(.int x')] 2 = mkF m 0 #[.val (.int x'), .unset] [] := by first | (simp [entryFrame, mkF, argsToLocals, Value.category]; done) | rfl
def own_Q1 (Z : State) (x' : Int32) (h0 : Heap) (n0 : Nat) (v_ : Option Value) (h : Heap) (L_ : List Loc) : Prop := v_ = some (.int (own_letter x')) ∧ Fr n0 L_ ∧ (h = h0)
set_option maxRecDepth 65536 in
set_option maxHeartbeats 40000000 in
theorem own_rm1 (l : Launch) (Z : State) (a0 : Array Value) (hw : ∀ d ∈ tables_1, d.before a0 Z = true) (ws : List Jvm.Cond) (x' : Int32) (h0 : Heap) (n0 : Nat) (Z0 : n0 ≤ h0.size)  :
    MetFree l (⟨"com/example/holdfast/holdfast/LineBreaksEndsPinLaw", "letter", "(I)C"⟩ : MethodName) (head1 (Jvm.Cond.code (⟨"com/example/holdfast/holdfast/LineBreaksEndsPinLaw", "letter", "(I)C"⟩ : MethodName) method_3_code 2 (some .char) :: ws) ({ frames := 0, cells := 0, slots := 0, locals := 0 } : Room)) (fun a_ U_ => a_ = #[(.int x')] ∧ Z.Warmed39 U_.vm ∧ U_.heap = h0) (fun _ _ _ _ _ => True) (fun _ U_ o_ V_ => ∃ v_ L_, o_ = .returned v_ ∧ own_Q1 Z x' h0 n0 v_ V_.heap L_ ∧ FrameEnd U_ o_ V_ L_ ({ frames := 0, cells := 0, slots := 0, locals := 0 } : Room).cells ({ frames := 0, cells := 0, slots := 0, locals := 0 } : Room).slots) := by
  refine MetFree.of_bodySF (plainFor_of_name own_pn_com_example_holdfast_holdfast_LineBreaksEndsPinLaw) hisR ?_
  intro p e s m args below meth c s₁ Bd hml0 hP hK
  obtain ⟨rfl, hZ, hh⟩ := hP
  have hx := Bd.exec
  have hby := Bd.bytes
  have hml : c.maxLocals = 2 := hml0
  have hown : s.vm.findClass "com/example/holdfast/holdfast/LineBreaksEndsPinLaw" = some m.cls := findClass_of_methodNamed Bd.named
  have hnm := (name_of_methodNamed Bd.named Bd.method).1
  have X0 : Stand p l e ({ frames := 0, cells := 0, slots := 0, locals := 0 } : Room) s m #[(.int x')] below meth c s₁ [] 0 0 := Stand.of_body Bd
  have e0 : s₁.heap = h0 := by rw [← hh, Bd.state]; rfl
  have N0 := Fr.nil n0
  show own_G p e below s (own_Q1 Z x' h0 n0) ({ frames := 0, cells := 0, slots := 0, locals := 0 } : Room).cells ({ frames := 0, cells := 0, slots := 0, locals := 0 } : Room).slots s₁ (entryFrame m #[(.int x')] 2)
  rw [own_rm1_ef]
  refine own_w (T' := s₁) (g' := (mkF m 1 #[.val (.int x'), .unset] [(.int x')])) (fun _ k_ => XS.iloadN X0.here hx rfl (hb hby own_d1_0) rfl k_) ?_
  refine own_w (T' := s₁) (g' := (mkF m 3 #[.val (.int x'), .unset] [(.int (65535 : Int32)), (.int x')])) (X0.ldcInt hx hown (mvT hZ (hw _ (List.mem_of_getElem? (i := 5) rfl))) (g := (mkF m 1 #[.val (.int x'), .unset] [(.int x')])) rfl (hb hby own_d1_1)) ?_
  refine own_w (T' := s₁) (g' := (mkF m 4 #[.val (.int x'), .unset] [(.int (x' &&& (65535 : Int32)))])) (fun _ k_ => XS.iand X0.here hx rfl (hb hby own_d1_3) rfl k_) ?_
  refine own_w (T' := s₁) (g' := (mkF m 5 #[.val (.int x'), .val (.int (x' &&& (65535 : Int32)))] [])) (fun _ k_ => XS.istoreN X0.here hx rfl (hb hby own_d1_4) rfl (l' := #[.val (.int x'), .val (.int (x' &&& (65535 : Int32)))]) rfl k_) ?_
  refine own_w (T' := s₁) (g' := (mkF m 6 #[.val (.int x'), .val (.int (x' &&& (65535 : Int32)))] [(.int (x' &&& (65535 : Int32)))])) (fun _ k_ => XS.iloadN X0.here hx rfl (hb hby own_d1_5) rfl k_) ?_
  refine own_w (T' := s₁) (g' := (mkF m 8 #[.val (.int x'), .val (.int (x' &&& (65535 : Int32)))] [(.int (10 : Int32)), (.int (x' &&& (65535 : Int32)))])) (fun _ k_ => XS.bipush X0.here hx rfl (hb hby own_d1_6) k_) ?_
  by_cases hc8 : (x' &&& (65535 : Int32)) = (10 : Int32)
  · refine own_w (T' := s₁) (g' := (mkF m 17 #[.val (.int x'), .val (.int (x' &&& (65535 : Int32)))] [])) (fun _ k_ => XS.icmpYes X0.here hx rfl (pc0 := 8) (pc' := 17) rfl (hb hby own_d1_8) rfl (teq hc8).1 (by decide) (by decide) k_) ?_
    refine own_w (T' := s₁) (g' := (mkF m 18 #[.val (.int x'), .val (.int (x' &&& (65535 : Int32)))] [(.int (x' &&& (65535 : Int32)))])) (fun _ k_ => XS.iloadN X0.here hx rfl (hb hby own_d1_17) rfl k_) ?_
    refine own_w (T' := s₁) (g' := (mkF m 20 #[.val (.int x'), .val (.int (x' &&& (65535 : Int32)))] [(.int (32 : Int32)), (.int (x' &&& (65535 : Int32)))])) (fun _ k_ => XS.bipush X0.here hx rfl (hb hby own_d1_18) k_) ?_
    refine own_w (T' := s₁) (g' := (mkF m 21 #[.val (.int x'), .val (.int (x' &&& (65535 : Int32)))] [(.int ((x' &&& (65535 : Int32)) + (32 : Int32)))])) (fun _ k_ => XS.iadd X0.here hx rfl (hb hby own_d1_20) rfl k_) ?_
    refine own_w (T' := s₁) (g' := (mkF m 22 #[.val (.int x'), .val (.int ((x' &&& (65535 : Int32)) + (32 : Int32)))] [])) (fun _ k_ => XS.istoreN X0.here hx rfl (hb hby own_d1_21) rfl (l' := #[.val (.int x'), .val (.int ((x' &&& (65535 : Int32)) + (32 : Int32)))]) rfl k_) ?_
    refine own_w (T' := s₁) (g' := (mkF m 23 #[.val (.int x'), .val (.int ((x' &&& (65535 : Int32)) + (32 : Int32)))] [(.int ((x' &&& (65535 : Int32)) + (32 : Int32)))])) (fun _ k_ => XS.iloadN X0.here hx rfl (hb hby own_d1_22) rfl k_) ?_
    refine own_w (T' := s₁) (g' := (mkF m 24 #[.val (.int x'), .val (.int ((x' &&& (65535 : Int32)) + (32 : Int32)))] [(.int (((x' &&& (65535 : Int32)) + (32 : Int32)).toUInt32.toUInt16.toUInt32.toInt32))])) (fun _ k_ => XS.i2c X0.here hx rfl (hb hby own_d1_23) rfl k_) ?_
    obtain ⟨fs, hr, hrun, hended, hW, hsame⟩ := X0.leave (v := some (.int (((x' &&& (65535 : Int32)) + (32 : Int32)).toUInt32.toUInt16.toUInt32.toInt32))) (fun h => by rw [Bd.returns] at h; cases h)
    exact ⟨_, _, retOut X0 hx Bd.returns (show narrow .char (.int (((x' &&& (65535 : Int32)) + (32 : Int32)).toUInt32.toUInt16.toUInt32.toInt32)) = (.int (((x' &&& (65535 : Int32)) + (32 : Int32)).toUInt32.toUInt16.toUInt32.toInt32)) from congrArg Value.int (own_i2c2 _)) (Or.inl ⟨rfl, Or.inr (Or.inr (Or.inr (Or.inl rfl))), _, rfl⟩) (hb hby own_d1_24) hr, hrun, hended, _, _, rfl, (by show own_Q1 Z x' h0 n0 _ s₁.heap _; rw [e0]; exact ⟨(by simp only [own_letter, hc8, if_true, if_false]; rfl), N0, rfl⟩), ⟨_, rfl⟩, hW, hsame.mono (by decide) (by decide)⟩
  · refine own_w (T' := s₁) (g' := (mkF m 11 #[.val (.int x'), .val (.int (x' &&& (65535 : Int32)))] [])) (fun _ k_ => XS.icmpNo X0.here hx rfl (hb hby own_d1_8) rfl (feq hc8).1 k_) ?_
    refine own_w (T' := s₁) (g' := (mkF m 12 #[.val (.int x'), .val (.int (x' &&& (65535 : Int32)))] [(.int (x' &&& (65535 : Int32)))])) (fun _ k_ => XS.iloadN X0.here hx rfl (hb hby own_d1_11) rfl k_) ?_
    refine own_w (T' := s₁) (g' := (mkF m 14 #[.val (.int x'), .val (.int (x' &&& (65535 : Int32)))] [(.int (13 : Int32)), (.int (x' &&& (65535 : Int32)))])) (fun _ k_ => XS.bipush X0.here hx rfl (hb hby own_d1_12) k_) ?_
    by_cases hc14 : (x' &&& (65535 : Int32)) = (13 : Int32)
    · refine own_w (T' := s₁) (g' := (mkF m 17 #[.val (.int x'), .val (.int (x' &&& (65535 : Int32)))] [])) (fun _ k_ => XS.icmpNo X0.here hx rfl (hb hby own_d1_14) rfl (teq hc14).2 k_) ?_
      refine own_w (T' := s₁) (g' := (mkF m 18 #[.val (.int x'), .val (.int (x' &&& (65535 : Int32)))] [(.int (x' &&& (65535 : Int32)))])) (fun _ k_ => XS.iloadN X0.here hx rfl (hb hby own_d1_17) rfl k_) ?_
      refine own_w (T' := s₁) (g' := (mkF m 20 #[.val (.int x'), .val (.int (x' &&& (65535 : Int32)))] [(.int (32 : Int32)), (.int (x' &&& (65535 : Int32)))])) (fun _ k_ => XS.bipush X0.here hx rfl (hb hby own_d1_18) k_) ?_
      refine own_w (T' := s₁) (g' := (mkF m 21 #[.val (.int x'), .val (.int (x' &&& (65535 : Int32)))] [(.int ((x' &&& (65535 : Int32)) + (32 : Int32)))])) (fun _ k_ => XS.iadd X0.here hx rfl (hb hby own_d1_20) rfl k_) ?_
      refine own_w (T' := s₁) (g' := (mkF m 22 #[.val (.int x'), .val (.int ((x' &&& (65535 : Int32)) + (32 : Int32)))] [])) (fun _ k_ => XS.istoreN X0.here hx rfl (hb hby own_d1_21) rfl (l' := #[.val (.int x'), .val (.int ((x' &&& (65535 : Int32)) + (32 : Int32)))]) rfl k_) ?_
      refine own_w (T' := s₁) (g' := (mkF m 23 #[.val (.int x'), .val (.int ((x' &&& (65535 : Int32)) + (32 : Int32)))] [(.int ((x' &&& (65535 : Int32)) + (32 : Int32)))])) (fun _ k_ => XS.iloadN X0.here hx rfl (hb hby own_d1_22) rfl k_) ?_
      refine own_w (T' := s₁) (g' := (mkF m 24 #[.val (.int x'), .val (.int ((x' &&& (65535 : Int32)) + (32 : Int32)))] [(.int (((x' &&& (65535 : Int32)) + (32 : Int32)).toUInt32.toUInt16.toUInt32.toInt32))])) (fun _ k_ => XS.i2c X0.here hx rfl (hb hby own_d1_23) rfl k_) ?_
      obtain ⟨fs, hr, hrun, hended, hW, hsame⟩ := X0.leave (v := some (.int (((x' &&& (65535 : Int32)) + (32 : Int32)).toUInt32.toUInt16.toUInt32.toInt32))) (fun h => by rw [Bd.returns] at h; cases h)
      exact ⟨_, _, retOut X0 hx Bd.returns (show narrow .char (.int (((x' &&& (65535 : Int32)) + (32 : Int32)).toUInt32.toUInt16.toUInt32.toInt32)) = (.int (((x' &&& (65535 : Int32)) + (32 : Int32)).toUInt32.toUInt16.toUInt32.toInt32)) from congrArg Value.int (own_i2c2 _)) (Or.inl ⟨rfl, Or.inr (Or.inr (Or.inr (Or.inl rfl))), _, rfl⟩) (hb hby own_d1_24) hr, hrun, hended, _, _, rfl, (by show own_Q1 Z x' h0 n0 _ s₁.heap _; rw [e0]; exact ⟨(by simp only [own_letter, hc8, hc14, if_true, if_false]; rfl), N0, rfl⟩), ⟨_, rfl⟩, hW, hsame.mono (by decide) (by decide)⟩
    · refine own_w (T' := s₁) (g' := (mkF m 22 #[.val (.int x'), .val (.int (x' &&& (65535 : Int32)))] [])) (fun _ k_ => XS.icmpYes X0.here hx rfl (pc0 := 14) (pc' := 22) rfl (hb hby own_d1_14) rfl (feq hc14).2 (by decide) (by decide) k_) ?_
      refine own_w (T' := s₁) (g' := (mkF m 23 #[.val (.int x'), .val (.int (x' &&& (65535 : Int32)))] [(.int (x' &&& (65535 : Int32)))])) (fun _ k_ => XS.iloadN X0.here hx rfl (hb hby own_d1_22) rfl k_) ?_
      refine own_w (T' := s₁) (g' := (mkF m 24 #[.val (.int x'), .val (.int (x' &&& (65535 : Int32)))] [(.int ((x' &&& (65535 : Int32)).toUInt32.toUInt16.toUInt32.toInt32))])) (fun _ k_ => XS.i2c X0.here hx rfl (hb hby own_d1_23) rfl k_) ?_
      obtain ⟨fs, hr, hrun, hended, hW, hsame⟩ := X0.leave (v := some (.int ((x' &&& (65535 : Int32)).toUInt32.toUInt16.toUInt32.toInt32))) (fun h => by rw [Bd.returns] at h; cases h)
      exact ⟨_, _, retOut X0 hx Bd.returns (show narrow .char (.int ((x' &&& (65535 : Int32)).toUInt32.toUInt16.toUInt32.toInt32)) = (.int ((x' &&& (65535 : Int32)).toUInt32.toUInt16.toUInt32.toInt32)) from congrArg Value.int (own_i2c2 _)) (Or.inl ⟨rfl, Or.inr (Or.inr (Or.inr (Or.inl rfl))), _, rfl⟩) (hb hby own_d1_24) hr, hrun, hended, _, _, rfl, (by show own_Q1 Z x' h0 n0 _ s₁.heap _; rw [e0]; exact ⟨(by simp only [own_letter, hc8, hc14, if_true, if_false]; rfl), N0, rfl⟩), ⟨_, rfl⟩, hW, hsame.mono (by decide) (by decide)⟩
theorem own_d4_0 : decode method_4_code 0 = .ok (.iload_n 0, 1) := by decide +kernel
theorem own_d4_1 : decode method_4_code 1 = .ok (.ifCond .ne 5, 3) := by decide +kernel
theorem own_d4_4 : decode method_4_code 4 = .ok (.iconst 0, 1) := by decide +kernel
theorem own_d4_5 : decode method_4_code 5 = .ok (.ireturn, 1) := by decide +kernel
theorem own_d4_6 : decode method_4_code 6 = .ok (.iload_n 0, 1) := by decide +kernel
theorem own_d4_7 : decode method_4_code 7 = .ok (.iconst 3, 1) := by decide +kernel
theorem own_d4_8 : decode method_4_code 8 = .ok (.if_icmp .gt 5, 3) := by decide +kernel
theorem own_d4_13 : decode method_4_code 13 = .ok (.iconst 2, 1) := by decide +kernel
theorem own_d4_14 : decode method_4_code 14 = .ok (.ireturn, 1) := by decide +kernel
theorem own_d4_11 : decode method_4_code 11 = .ok (.iconst 1, 1) := by decide +kernel
theorem own_d4_12 : decode method_4_code 12 = .ok (.ireturn, 1) := by decide +kernel
theorem own_rm4_ef (m : MethodId) (k : Int32) : entryFrame m #[(.int k)] 1 = mkF m 0 #[.val (.int k)] [] := by first | (simp [entryFrame, mkF, argsToLocals, Value.category]; done) | rfl
def own_Q4 (Z : State) (k : Int32) (h0 : Heap) (n0 : Nat) (v_ : Option Value) (h : Heap) (L_ : List Loc) : Prop := v_ = some (.int (own_lines k)) ∧ Fr n0 L_ ∧ (h = h0)
set_option maxRecDepth 65536 in
set_option maxHeartbeats 40000000 in
theorem own_rm4 (l : Launch) (Z : State) (a0 : Array Value) (hw : ∀ d ∈ tables_1, d.before a0 Z = true) (ws : List Jvm.Cond) (k : Int32) (h0 : Heap) (n0 : Nat) (Z0 : n0 ≤ h0.size)  :
    MetFree l (⟨"com/example/holdfast/holdfast/LineBreaksEndsPinLaw", "lines", "(I)I"⟩ : MethodName) (head1 (Jvm.Cond.code (⟨"com/example/holdfast/holdfast/LineBreaksEndsPinLaw", "lines", "(I)I"⟩ : MethodName) method_4_code 1 (some .int) :: ws) ({ frames := 0, cells := 0, slots := 0, locals := 0 } : Room)) (fun a_ U_ => a_ = #[(.int k)] ∧ Z.Warmed39 U_.vm ∧ U_.heap = h0) (fun _ _ _ _ _ => True) (fun _ U_ o_ V_ => ∃ v_ L_, o_ = .returned v_ ∧ own_Q4 Z k h0 n0 v_ V_.heap L_ ∧ FrameEnd U_ o_ V_ L_ ({ frames := 0, cells := 0, slots := 0, locals := 0 } : Room).cells ({ frames := 0, cells := 0, slots := 0, locals := 0 } : Room).slots) := by
  refine MetFree.of_bodySF (plainFor_of_name own_pn_com_example_holdfast_holdfast_LineBreaksEndsPinLaw) hisR ?_
  intro p e s m args below meth c s₁ Bd hml0 hP hK
  obtain ⟨rfl, hZ, hh⟩ := hP
  have hx := Bd.exec
  have hby := Bd.bytes
  have hml : c.maxLocals = 1 := hml0
  have hown : s.vm.findClass "com/example/holdfast/holdfast/LineBreaksEndsPinLaw" = some m.cls := findClass_of_methodNamed Bd.named
  have hnm := (name_of_methodNamed Bd.named Bd.method).1
  have X0 : Stand p l e ({ frames := 0, cells := 0, slots := 0, locals := 0 } : Room) s m #[(.int k)] below meth c s₁ [] 0 0 := Stand.of_body Bd
  have e0 : s₁.heap = h0 := by rw [← hh, Bd.state]; rfl
  have N0 := Fr.nil n0
  show own_G p e below s (own_Q4 Z k h0 n0) ({ frames := 0, cells := 0, slots := 0, locals := 0 } : Room).cells ({ frames := 0, cells := 0, slots := 0, locals := 0 } : Room).slots s₁ (entryFrame m #[(.int k)] 1)
  rw [own_rm4_ef]
  refine own_w (T' := s₁) (g' := (mkF m 1 #[.val (.int k)] [(.int k)])) (fun _ k_ => XS.iloadN X0.here hx rfl (hb hby own_d4_0) rfl k_) ?_
  by_cases hc1 : k = (0 : Int32)
  · refine own_w (T' := s₁) (g' := (mkF m 4 #[.val (.int k)] [])) (fun _ k_ => XS.ifNo X0.here hx rfl (hb hby own_d4_1) rfl ((if0 _ _).trans (teq hc1).2) k_) ?_
    refine own_w (T' := s₁) (g' := (mkF m 5 #[.val (.int k)] [(.int (0 : Int32))])) (fun _ k_ => XS.iconst X0.here hx rfl (hb hby own_d4_4) k_) ?_
    obtain ⟨fs, hr, hrun, hended, hW, hsame⟩ := X0.leave (v := some (.int (0 : Int32))) (fun h => by rw [Bd.returns] at h; cases h)
    exact ⟨_, _, retOut X0 hx Bd.returns rfl (Or.inl ⟨rfl, Or.inl rfl, _, rfl⟩) (hb hby own_d4_5) hr, hrun, hended, _, _, rfl, (by show own_Q4 Z k h0 n0 _ s₁.heap _; rw [e0]; exact ⟨(by simp [own_lines, hc1]), N0, rfl⟩), ⟨_, rfl⟩, hW, hsame.mono (by decide) (by decide)⟩
  · refine own_w (T' := s₁) (g' := (mkF m 6 #[.val (.int k)] [])) (fun _ k_ => XS.ifYes X0.here hx rfl (pc0 := 1) (pc' := 6) rfl (hb hby own_d4_1) rfl ((if0 _ _).trans (feq hc1).2) (by decide) (by decide) k_) ?_
    refine own_w (T' := s₁) (g' := (mkF m 7 #[.val (.int k)] [(.int k)])) (fun _ k_ => XS.iloadN X0.here hx rfl (hb hby own_d4_6) rfl k_) ?_
    refine own_w (T' := s₁) (g' := (mkF m 8 #[.val (.int k)] [(.int (3 : Int32)), (.int k)])) (fun _ k_ => XS.iconst X0.here hx rfl (hb hby own_d4_7) k_) ?_
    by_cases hc8 : (3 : Int32) < k
    · refine own_w (T' := s₁) (g' := (mkF m 13 #[.val (.int k)] [])) (fun _ k_ => XS.icmpYes X0.here hx rfl (pc0 := 8) (pc' := 13) rfl (hb hby own_d4_8) rfl (tlt hc8).2.2.1 (by decide) (by decide) k_) ?_
      refine own_w (T' := s₁) (g' := (mkF m 14 #[.val (.int k)] [(.int (2 : Int32))])) (fun _ k_ => XS.iconst X0.here hx rfl (hb hby own_d4_13) k_) ?_
      obtain ⟨fs, hr, hrun, hended, hW, hsame⟩ := X0.leave (v := some (.int (2 : Int32))) (fun h => by rw [Bd.returns] at h; cases h)
      exact ⟨_, _, retOut X0 hx Bd.returns rfl (Or.inl ⟨rfl, Or.inl rfl, _, rfl⟩) (hb hby own_d4_14) hr, hrun, hended, _, _, rfl, (by show own_Q4 Z k h0 n0 _ s₁.heap _; rw [e0]; exact ⟨(by simp [own_lines, hc1, hc8]), N0, rfl⟩), ⟨_, rfl⟩, hW, hsame.mono (by decide) (by decide)⟩
    · refine own_w (T' := s₁) (g' := (mkF m 11 #[.val (.int k)] [])) (fun _ k_ => XS.icmpNo X0.here hx rfl (hb hby own_d4_8) rfl (flt hc8).2.2.1 k_) ?_
      refine own_w (T' := s₁) (g' := (mkF m 12 #[.val (.int k)] [(.int (1 : Int32))])) (fun _ k_ => XS.iconst X0.here hx rfl (hb hby own_d4_11) k_) ?_
      obtain ⟨fs, hr, hrun, hended, hW, hsame⟩ := X0.leave (v := some (.int (1 : Int32))) (fun h => by rw [Bd.returns] at h; cases h)
      exact ⟨_, _, retOut X0 hx Bd.returns rfl (Or.inl ⟨rfl, Or.inl rfl, _, rfl⟩) (hb hby own_d4_12) hr, hrun, hended, _, _, rfl, (by show own_Q4 Z k h0 n0 _ s₁.heap _; rw [e0]; exact ⟨(by simp [own_lines, hc1, hc8]), N0, rfl⟩), ⟨_, rfl⟩, hW, hsame.mono (by decide) (by decide)⟩
theorem own_app {w zs : List Int32} {ch : Int32} (hz : 0 < zs.length) : (w ++ zs).set w.length ch = (w ++ [ch]) ++ zs.tail := by
  cases zs with
  | nil => cases hz
  | cons z r => simp
theorem own_d3_0 : decode method_5_code 0 = .ok (.aload_n 0, 1) := by decide +kernel
theorem own_d3_1 : decode method_5_code 1 = .ok (.iload_n 1, 1) := by decide +kernel
theorem own_d3_2 : decode method_5_code 2 = .ok (.iload_n 2, 1) := by decide +kernel
theorem own_d3_3 : decode method_5_code 3 = .ok (.castore, 1) := by decide +kernel
theorem own_d3_4 : decode method_5_code 4 = .ok (.iload_n 1, 1) := by decide +kernel
theorem own_d3_5 : decode method_5_code 5 = .ok (.iconst 1, 1) := by decide +kernel
theorem own_d3_6 : decode method_5_code 6 = .ok (.iadd, 1) := by decide +kernel
theorem own_d3_7 : decode method_5_code 7 = .ok (.ireturn, 1) := by decide +kernel
theorem own_rm3_ef (m : MethodId) (t : Addr) (n' : Int32) (ch : Int32) : entryFrame m #[(.ref t), (.int n'), (.int ch)] 3 = mkF m 0 #[.val (.ref t), .val (.int n'), .val (.int ch)] [] := by first | (simp [entryFrame, mkF, argsToLocals, Value.category]; done) | rfl
def own_Q3 (Z : State) (t : Addr) (n' : Int32) (ch : Int32) (w : List Int32) (zs : List Int32) (h0 : Heap) (n0 : Nat) (v_ : Option Value) (h : Heap) (L_ : List Loc) : Prop := v_ = some (.int (n' + (1 : Int32))) ∧ Fr n0 L_ ∧ (Keep h0 h [t]) ∧ (own_Ar Z h t .char ((w ++ [ch]) ++ zs.tail))
set_option maxRecDepth 65536 in
set_option maxHeartbeats 40000000 in
theorem own_rm3 (l : Launch) (Z : State) (a0 : Array Value) (hw : ∀ d ∈ tables_1, d.before a0 Z = true) (ws : List Jvm.Cond) (t : Addr) (n' : Int32) (ch : Int32) (w : List Int32) (zs : List Int32) (h0 : Heap) (n0 : Nat) (Z0 : n0 ≤ h0.size) (V : own_Ar Z h0 t .char (w ++ zs)) (hn : n'.toInt = (w.length : Int)) (g_t : n0 ≤ t) (hz : 0 < zs.length) (hc : own_i2c ch = ch) :
    MetFree l (⟨"com/example/holdfast/holdfast/LineBreaksEndsPinLaw", "add", "([CIC)I"⟩ : MethodName) (head1 (Jvm.Cond.code (⟨"com/example/holdfast/holdfast/LineBreaksEndsPinLaw", "add", "([CIC)I"⟩ : MethodName) method_5_code 3 (some .int) :: ws) ({ frames := 0, cells := 0, slots := 0, locals := 0 } : Room)) (fun a_ U_ => a_ = #[(.ref t), (.int n'), (.int ch)] ∧ Z.Warmed39 U_.vm ∧ U_.heap = h0) (fun _ _ _ _ _ => True) (fun _ U_ o_ V_ => ∃ v_ L_, o_ = .returned v_ ∧ own_Q3 Z t n' ch w zs h0 n0 v_ V_.heap L_ ∧ FrameEnd U_ o_ V_ L_ ({ frames := 0, cells := 0, slots := 0, locals := 0 } : Room).cells ({ frames := 0, cells := 0, slots := 0, locals := 0 } : Room).slots) := by
  refine MetFree.of_bodySF (plainFor_of_name own_pn_com_example_holdfast_holdfast_LineBreaksEndsPinLaw) hisR ?_
  intro p e s m args below meth c s₁ Bd hml0 hP hK
  obtain ⟨rfl, hZ, hh⟩ := hP
  have hx := Bd.exec
  have hby := Bd.bytes
  have hml : c.maxLocals = 3 := hml0
  have hown : s.vm.findClass "com/example/holdfast/holdfast/LineBreaksEndsPinLaw" = some m.cls := findClass_of_methodNamed Bd.named
  have hnm := (name_of_methodNamed Bd.named Bd.method).1
  have X0 : Stand p l e ({ frames := 0, cells := 0, slots := 0, locals := 0 } : Room) s m #[(.ref t), (.int n'), (.int ch)] below meth c s₁ [] 0 0 := Stand.of_body Bd
  have e0 : s₁.heap = h0 := by rw [← hh, Bd.state]; rfl
  have N0 := Fr.nil n0
  show own_G p e below s (own_Q3 Z t n' ch w zs h0 n0) ({ frames := 0, cells := 0, slots := 0, locals := 0 } : Room).cells ({ frames := 0, cells := 0, slots := 0, locals := 0 } : Room).slots s₁ (entryFrame m #[(.ref t), (.int n'), (.int ch)] 3)
  rw [own_rm3_ef]
  refine own_w (T' := s₁) (g' := (mkF m 1 #[.val (.ref t), .val (.int n'), .val (.int ch)] [(.ref t)])) (fun _ k_ => XS.aloadN X0.here hx rfl (hb hby own_d3_0) rfl rfl k_) ?_
  refine own_w (T' := s₁) (g' := (mkF m 2 #[.val (.ref t), .val (.int n'), .val (.int ch)] [(.int n'), (.ref t)])) (fun _ k_ => XS.iloadN X0.here hx rfl (hb hby own_d3_1) rfl k_) ?_
  refine own_w (T' := s₁) (g' := (mkF m 3 #[.val (.ref t), .val (.int n'), .val (.int ch)] [(.int ch), (.int n'), (.ref t)])) (fun _ k_ => XS.iloadN X0.here hx rfl (hb hby own_d3_2) rfl k_) ?_
  obtain ⟨cl1, Ar1, hs1⟩ := id V
  obtain ⟨T1, h1, X1, e1, W1, st1⟩ := stC X0 hx hZ e0 Ar1 (j := n') (own_Ar_in (i := w.length) hs1 hn (by first | (simp <;> omega) | omega)) (g := (mkF m 3 #[.val (.ref t), .val (.int n'), .val (.int ch)] [(.int ch), (.int n'), (.ref t)])) rfl rfl (hb hby own_d3_3)
  have V1 := own_Ar_set (i := w.length) (v := ch) V W1 hn hc
  have N1 := Fr.snoc X1 N0 g_t
  have Z1 : n0 ≤ h1.size := Nat.le_trans Z0 (Keep.of_wr W1).1
  refine own_w (T' := T1) (g' := (mkF m 4 #[.val (.ref t), .val (.int n'), .val (.int ch)] [])) st1 ?_
  refine own_w (T' := T1) (g' := (mkF m 5 #[.val (.ref t), .val (.int n'), .val (.int ch)] [(.int n')])) (fun _ k_ => XS.iloadN X1.here hx rfl (hb hby own_d3_4) rfl k_) ?_
  refine own_w (T' := T1) (g' := (mkF m 6 #[.val (.ref t), .val (.int n'), .val (.int ch)] [(.int (1 : Int32)), (.int n')])) (fun _ k_ => XS.iconst X1.here hx rfl (hb hby own_d3_5) k_) ?_
  refine own_w (T' := T1) (g' := (mkF m 7 #[.val (.ref t), .val (.int n'), .val (.int ch)] [(.int (n' + (1 : Int32)))])) (fun _ k_ => XS.iadd X1.here hx rfl (hb hby own_d3_6) rfl k_) ?_
  obtain ⟨fs, hr, hrun, hended, hW, hsame⟩ := X1.leave (v := some (.int (n' + (1 : Int32)))) (fun h => by rw [Bd.returns] at h; cases h)
  exact ⟨_, _, retOut X1 hx Bd.returns rfl (Or.inl ⟨rfl, Or.inl rfl, _, rfl⟩) (hb hby own_d3_7) hr, hrun, hended, _, _, rfl, (by show own_Q3 Z t n' ch w zs h0 n0 _ T1.heap _; rw [e1]; exact ⟨rfl, N1, Keep.of_wr W1, (own_app hz) ▸ V1⟩), ⟨_, rfl⟩, hW, hsame.mono (by decide) (by decide)⟩
theorem own_d2_0 : decode method_6_code 0 = .ok (.aload_n 0, 1) := by decide +kernel
theorem own_d2_1 : decode method_6_code 1 = .ok (.iload_n 1, 1) := by decide +kernel
theorem own_d2_2 : decode method_6_code 2 = .ok (.iload_n 2, 1) := by decide +kernel
theorem own_d2_3 : decode method_6_code 3 = .ok (.invokestatic 32, 3) := by decide +kernel
theorem own_pd0 : parseMethodDescriptor "([CIC)I" = some ⟨[(.array .char), .int, .char], some .int⟩ := by decide +kernel
theorem own_d2_6 : decode method_6_code 6 = .ok (.istore 4, 2) := by decide +kernel
theorem own_d2_8 : decode method_6_code 8 = .ok (.iload_n 3, 1) := by decide +kernel
theorem own_d2_9 : decode method_6_code 9 = .ok (.iconst 1, 1) := by decide +kernel
theorem own_d2_10 : decode method_6_code 10 = .ok (.if_icmp .ne 16, 3) := by decide +kernel
theorem own_d2_13 : decode method_6_code 13 = .ok (.aload_n 0, 1) := by decide +kernel
theorem own_d2_14 : decode method_6_code 14 = .ok (.iload 4, 2) := by decide +kernel
theorem own_d2_16 : decode method_6_code 16 = .ok (.bipush 10, 2) := by decide +kernel
theorem own_d2_18 : decode method_6_code 18 = .ok (.invokestatic 32, 3) := by decide +kernel
theorem own_d2_21 : decode method_6_code 21 = .ok (.istore 4, 2) := by decide +kernel
theorem own_d2_23 : decode method_6_code 23 = .ok (.goto 170, 3) := by decide +kernel
theorem own_d2_193 : decode method_6_code 193 = .ok (.iload 4, 2) := by decide +kernel
theorem own_d2_195 : decode method_6_code 195 = .ok (.ireturn, 1) := by decide +kernel
theorem own_d2_26 : decode method_6_code 26 = .ok (.iload_n 3, 1) := by decide +kernel
theorem own_d2_27 : decode method_6_code 27 = .ok (.iconst 2, 1) := by decide +kernel
theorem own_d2_28 : decode method_6_code 28 = .ok (.if_icmp .ne 16, 3) := by decide +kernel
theorem own_d2_31 : decode method_6_code 31 = .ok (.aload_n 0, 1) := by decide +kernel
theorem own_d2_32 : decode method_6_code 32 = .ok (.iload 4, 2) := by decide +kernel
theorem own_d2_34 : decode method_6_code 34 = .ok (.bipush 13, 2) := by decide +kernel
theorem own_d2_36 : decode method_6_code 36 = .ok (.invokestatic 32, 3) := by decide +kernel
theorem own_d2_39 : decode method_6_code 39 = .ok (.istore 4, 2) := by decide +kernel
theorem own_d2_41 : decode method_6_code 41 = .ok (.goto 152, 3) := by decide +kernel
theorem own_d2_44 : decode method_6_code 44 = .ok (.iload_n 3, 1) := by decide +kernel
theorem own_d2_45 : decode method_6_code 45 = .ok (.iconst 3, 1) := by decide +kernel
theorem own_d2_46 : decode method_6_code 46 = .ok (.if_icmp .ne 26, 3) := by decide +kernel
theorem own_d2_49 : decode method_6_code 49 = .ok (.aload_n 0, 1) := by decide +kernel
theorem own_d2_50 : decode method_6_code 50 = .ok (.iload 4, 2) := by decide +kernel
theorem own_d2_52 : decode method_6_code 52 = .ok (.bipush 13, 2) := by decide +kernel
theorem own_d2_54 : decode method_6_code 54 = .ok (.invokestatic 32, 3) := by decide +kernel
theorem own_d2_57 : decode method_6_code 57 = .ok (.istore 4, 2) := by decide +kernel
theorem own_d2_59 : decode method_6_code 59 = .ok (.aload_n 0, 1) := by decide +kernel
theorem own_d2_60 : decode method_6_code 60 = .ok (.iload 4, 2) := by decide +kernel
theorem own_d2_62 : decode method_6_code 62 = .ok (.bipush 10, 2) := by decide +kernel
theorem own_d2_64 : decode method_6_code 64 = .ok (.invokestatic 32, 3) := by decide +kernel
theorem own_d2_67 : decode method_6_code 67 = .ok (.istore 4, 2) := by decide +kernel
theorem own_d2_69 : decode method_6_code 69 = .ok (.goto 124, 3) := by decide +kernel
theorem own_d2_72 : decode method_6_code 72 = .ok (.iload_n 3, 1) := by decide +kernel
theorem own_d2_73 : decode method_6_code 73 = .ok (.iconst 4, 1) := by decide +kernel
theorem own_d2_74 : decode method_6_code 74 = .ok (.if_icmp .ne 26, 3) := by decide +kernel
theorem own_d2_77 : decode method_6_code 77 = .ok (.aload_n 0, 1) := by decide +kernel
theorem own_d2_78 : decode method_6_code 78 = .ok (.iload 4, 2) := by decide +kernel
theorem own_d2_80 : decode method_6_code 80 = .ok (.bipush 10, 2) := by decide +kernel
theorem own_d2_82 : decode method_6_code 82 = .ok (.invokestatic 32, 3) := by decide +kernel
theorem own_d2_85 : decode method_6_code 85 = .ok (.istore 4, 2) := by decide +kernel
theorem own_d2_87 : decode method_6_code 87 = .ok (.aload_n 0, 1) := by decide +kernel
theorem own_d2_88 : decode method_6_code 88 = .ok (.iload 4, 2) := by decide +kernel
theorem own_d2_90 : decode method_6_code 90 = .ok (.bipush 13, 2) := by decide +kernel
theorem own_d2_92 : decode method_6_code 92 = .ok (.invokestatic 32, 3) := by decide +kernel
theorem own_d2_95 : decode method_6_code 95 = .ok (.istore 4, 2) := by decide +kernel
theorem own_d2_97 : decode method_6_code 97 = .ok (.goto 96, 3) := by decide +kernel
theorem own_d2_100 : decode method_6_code 100 = .ok (.iload_n 3, 1) := by decide +kernel
theorem own_d2_101 : decode method_6_code 101 = .ok (.iconst 5, 1) := by decide +kernel
theorem own_d2_102 : decode method_6_code 102 = .ok (.if_icmp .ne 26, 3) := by decide +kernel
theorem own_d2_105 : decode method_6_code 105 = .ok (.aload_n 0, 1) := by decide +kernel
theorem own_d2_106 : decode method_6_code 106 = .ok (.iload 4, 2) := by decide +kernel
theorem own_d2_108 : decode method_6_code 108 = .ok (.bipush 13, 2) := by decide +kernel
theorem own_d2_110 : decode method_6_code 110 = .ok (.invokestatic 32, 3) := by decide +kernel
theorem own_d2_113 : decode method_6_code 113 = .ok (.istore 4, 2) := by decide +kernel
theorem own_d2_115 : decode method_6_code 115 = .ok (.aload_n 0, 1) := by decide +kernel
theorem own_d2_116 : decode method_6_code 116 = .ok (.iload 4, 2) := by decide +kernel
theorem own_d2_118 : decode method_6_code 118 = .ok (.bipush 13, 2) := by decide +kernel
theorem own_d2_120 : decode method_6_code 120 = .ok (.invokestatic 32, 3) := by decide +kernel
theorem own_d2_123 : decode method_6_code 123 = .ok (.istore 4, 2) := by decide +kernel
theorem own_d2_125 : decode method_6_code 125 = .ok (.goto 68, 3) := by decide +kernel
theorem own_d2_128 : decode method_6_code 128 = .ok (.iload_n 3, 1) := by decide +kernel
theorem own_d2_129 : decode method_6_code 129 = .ok (.bipush 6, 2) := by decide +kernel
theorem own_d2_131 : decode method_6_code 131 = .ok (.if_icmp .ne 26, 3) := by decide +kernel
theorem own_d2_134 : decode method_6_code 134 = .ok (.aload_n 0, 1) := by decide +kernel
theorem own_d2_135 : decode method_6_code 135 = .ok (.iload 4, 2) := by decide +kernel
theorem own_d2_137 : decode method_6_code 137 = .ok (.bipush 10, 2) := by decide +kernel
theorem own_d2_139 : decode method_6_code 139 = .ok (.invokestatic 32, 3) := by decide +kernel
theorem own_d2_142 : decode method_6_code 142 = .ok (.istore 4, 2) := by decide +kernel
theorem own_d2_144 : decode method_6_code 144 = .ok (.aload_n 0, 1) := by decide +kernel
theorem own_d2_145 : decode method_6_code 145 = .ok (.iload 4, 2) := by decide +kernel
theorem own_d2_147 : decode method_6_code 147 = .ok (.bipush 10, 2) := by decide +kernel
theorem own_d2_149 : decode method_6_code 149 = .ok (.invokestatic 32, 3) := by decide +kernel
theorem own_d2_152 : decode method_6_code 152 = .ok (.istore 4, 2) := by decide +kernel
theorem own_d2_154 : decode method_6_code 154 = .ok (.goto 39, 3) := by decide +kernel
theorem own_d2_157 : decode method_6_code 157 = .ok (.iload_n 3, 1) := by decide +kernel
theorem own_d2_158 : decode method_6_code 158 = .ok (.bipush 7, 2) := by decide +kernel
theorem own_d2_160 : decode method_6_code 160 = .ok (.if_icmp .ne 33, 3) := by decide +kernel
theorem own_d2_163 : decode method_6_code 163 = .ok (.aload_n 0, 1) := by decide +kernel
theorem own_d2_164 : decode method_6_code 164 = .ok (.iload 4, 2) := by decide +kernel
theorem own_d2_166 : decode method_6_code 166 = .ok (.bipush 13, 2) := by decide +kernel
theorem own_d2_168 : decode method_6_code 168 = .ok (.invokestatic 32, 3) := by decide +kernel
theorem own_d2_171 : decode method_6_code 171 = .ok (.istore 4, 2) := by decide +kernel
theorem own_d2_173 : decode method_6_code 173 = .ok (.aload_n 0, 1) := by decide +kernel
theorem own_d2_174 : decode method_6_code 174 = .ok (.iload 4, 2) := by decide +kernel
theorem own_d2_176 : decode method_6_code 176 = .ok (.bipush 13, 2) := by decide +kernel
theorem own_d2_178 : decode method_6_code 178 = .ok (.invokestatic 32, 3) := by decide +kernel
theorem own_d2_181 : decode method_6_code 181 = .ok (.istore 4, 2) := by decide +kernel
theorem own_d2_183 : decode method_6_code 183 = .ok (.aload_n 0, 1) := by decide +kernel
theorem own_d2_184 : decode method_6_code 184 = .ok (.iload 4, 2) := by decide +kernel
theorem own_d2_186 : decode method_6_code 186 = .ok (.bipush 10, 2) := by decide +kernel
theorem own_d2_188 : decode method_6_code 188 = .ok (.invokestatic 32, 3) := by decide +kernel
theorem own_d2_191 : decode method_6_code 191 = .ok (.istore 4, 2) := by decide +kernel
theorem own_rm2_ef (m : MethodId) (t : Addr) (n' : Int32) (l' : Int32) (k : Int32) : entryFrame m #[(.ref t), (.int n'), (.int l'), (.int k)] 5 = mkF m 0 #[.val (.ref t), .val (.int n'), .val (.int l'), .val (.int k), .unset] [] := by first | (simp [entryFrame, mkF, argsToLocals, Value.category]; done) | rfl
def own_Q2 (Z : State) (t : Addr) (n' : Int32) (l' : Int32) (k : Int32) (w : List Int32) (zs : List Int32) (h0 : Heap) (n0 : Nat) (v_ : Option Value) (h : Heap) (L_ : List Loc) : Prop := v_ = some (.int (own_nx n' k)) ∧ Fr n0 L_ ∧ (Keep h0 h [t]) ∧ (own_Ar Z h t .char ((w ++ (l' :: own_br k)) ++ zs.drop (1 + (own_br k).length)))
set_option maxRecDepth 65536 in
set_option maxHeartbeats 40000000 in
theorem own_rm2 (l : Launch) (Z : State) (a0 : Array Value) (hw : ∀ d ∈ tables_1, d.before a0 Z = true) (ws : List Jvm.Cond) (t : Addr) (n' : Int32) (l' : Int32) (k : Int32) (w : List Int32) (zs : List Int32) (h0 : Heap) (n0 : Nat) (Z0 : n0 ≤ h0.size) (V : own_Ar Z h0 t .char (w ++ zs)) (hn : n'.toInt = (w.length : Int)) (g_t : n0 ≤ t) (hz : 3 < zs.length) (hw' : w.length < 100) (hc : own_i2c l' = l') :
    MetFree l (⟨"com/example/holdfast/holdfast/LineBreaksEndsPinLaw", "put", "([CICI)I"⟩ : MethodName) (head1 (Jvm.Cond.code (⟨"com/example/holdfast/holdfast/LineBreaksEndsPinLaw", "put", "([CICI)I"⟩ : MethodName) method_6_code 5 (some .int) :: ws) ({ frames := 1, cells := 0, slots := 0, locals := 14 } : Room)) (fun a_ U_ => a_ = #[(.ref t), (.int n'), (.int l'), (.int k)] ∧ Z.Warmed39 U_.vm ∧ U_.heap = h0) (fun _ _ _ _ _ => True) (fun _ U_ o_ V_ => ∃ v_ L_, o_ = .returned v_ ∧ own_Q2 Z t n' l' k w zs h0 n0 v_ V_.heap L_ ∧ FrameEnd U_ o_ V_ L_ ({ frames := 1, cells := 0, slots := 0, locals := 14 } : Room).cells ({ frames := 1, cells := 0, slots := 0, locals := 14 } : Room).slots) := by
  refine MetFree.of_bodySF (plainFor_of_name own_pn_com_example_holdfast_holdfast_LineBreaksEndsPinLaw) hisR ?_
  intro p e s m args below meth c s₁ Bd hml0 hP hK
  obtain ⟨rfl, hZ, hh⟩ := hP
  have hx := Bd.exec
  have hby := Bd.bytes
  have hml : c.maxLocals = 5 := hml0
  have hown : s.vm.findClass "com/example/holdfast/holdfast/LineBreaksEndsPinLaw" = some m.cls := findClass_of_methodNamed Bd.named
  have hnm := (name_of_methodNamed Bd.named Bd.method).1
  have X0 : Stand p l e ({ frames := 1, cells := 0, slots := 0, locals := 14 } : Room) s m #[(.ref t), (.int n'), (.int l'), (.int k)] below meth c s₁ [] 0 0 := Stand.of_body Bd
  have e0 : s₁.heap = h0 := by rw [← hh, Bd.state]; rfl
  have N0 := Fr.nil n0
  show own_G p e below s (own_Q2 Z t n' l' k w zs h0 n0) ({ frames := 1, cells := 0, slots := 0, locals := 14 } : Room).cells ({ frames := 1, cells := 0, slots := 0, locals := 14 } : Room).slots s₁ (entryFrame m #[(.ref t), (.int n'), (.int l'), (.int k)] 5)
  rw [own_rm2_ef]
  refine own_w (T' := s₁) (g' := (mkF m 1 #[.val (.ref t), .val (.int n'), .val (.int l'), .val (.int k), .unset] [(.ref t)])) (fun _ k_ => XS.aloadN X0.here hx rfl (hb hby own_d2_0) rfl rfl k_) ?_
  refine own_w (T' := s₁) (g' := (mkF m 2 #[.val (.ref t), .val (.int n'), .val (.int l'), .val (.int k), .unset] [(.int n'), (.ref t)])) (fun _ k_ => XS.iloadN X0.here hx rfl (hb hby own_d2_1) rfl k_) ?_
  refine own_w (T' := s₁) (g' := (mkF m 3 #[.val (.ref t), .val (.int n'), .val (.int l'), .val (.int k), .unset] [(.int l'), (.int n'), (.ref t)])) (fun _ k_ => XS.iloadN X0.here hx rfl (hb hby own_d2_2) rfl k_) ?_
  obtain ⟨_, _, ⟨T1, L1, k1, n1⟩, -, X1, ⟨Lc1, hQ1, l1, y1, z1⟩, st1⟩ := Jvm.LawKit.callS X0 hx (y := (⟨"com/example/holdfast/holdfast/LineBreaksEndsPinLaw", "add", "([CIC)I"⟩ : MethodName)) hown (mvT hZ (hw _ (List.mem_of_getElem? (i := 9) rfl))) (mvT hZ (hw _ (List.mem_of_getElem? (i := 10) rfl))) (mvT hZ (hw _ (List.mem_of_getElem? (i := 3) rfl))) (mvT hZ (hw _ (List.mem_of_getElem? (i := 11) rfl))) (by decide) (backOf (W := 0) (own_rm3 l Z a0 hw [] t n' l' (w) (zs) h0 n0 Z0 V hn g_t (by first | (simp <;> omega) | omega) hc) hZ (hw _ (List.mem_of_getElem? (i := 11) rfl)) (hw _ (List.mem_of_getElem? (i := 3) rfl)) (by decide) (by decide)) (g := (mkF m 3 #[.val (.ref t), .val (.int n'), .val (.int l'), .val (.int k), .unset] [(.int l'), (.int n'), (.ref t)])) rfl (by rw [hml]; rfl) (argsL := [(.ref t), (.int n'), (.int l')]) (rest := []) (lenOf own_pd0 rfl) rfl (by show 2 * 0 + _ ≤ _; exact Nat.le_of_eq rfl) (hb hby own_d2_3) (fun _ _ => ⟨rfl, e0, (by decide : 0 + 0 ≤ _), (by decide : 0 + 0 ≤ _)⟩)
  dsimp only [Pt.U, Pt.locs, Pt.cells, Pt.slots] at X1 l1 y1 z1 st1 hQ1
  subst l1 y1 z1
  obtain ⟨h1, e1⟩ : ∃ h, T1.heap = h := ⟨_, rfl⟩
  rw [e1] at hQ1
  obtain ⟨rfl, N1q, K1, V1⟩ := hQ1
  have N1 := Fr.app N0 N1q
  refine own_w (T' := T1) (g' := (mkF m 6 #[.val (.ref t), .val (.int n'), .val (.int l'), .val (.int k), .unset] [(.int (n' + (1 : Int32)))])) st1 ?_
  have Z1 : n0 ≤ h1.size := Nat.le_trans Z0 K1.1
  have hn1 : (n' + (1 : Int32)).toInt = (((w ++ [l']).length : Nat) : Int) := by rw [own_n1 hn (by first | (simp <;> omega) | omega)]; simp <;> omega
  have KK1 := K1
  refine own_w (T' := T1) (g' := (mkF m 8 #[.val (.ref t), .val (.int n'), .val (.int l'), .val (.int k), .val (.int (n' + (1 : Int32)))] [])) (fun _ k_ => XS.istore X1.here hx rfl (hb hby own_d2_6) rfl (l' := #[.val (.ref t), .val (.int n'), .val (.int l'), .val (.int k), .val (.int (n' + (1 : Int32)))]) rfl k_) ?_
  refine own_w (T' := T1) (g' := (mkF m 9 #[.val (.ref t), .val (.int n'), .val (.int l'), .val (.int k), .val (.int (n' + (1 : Int32)))] [(.int k)])) (fun _ k_ => XS.iloadN X1.here hx rfl (hb hby own_d2_8) rfl k_) ?_
  refine own_w (T' := T1) (g' := (mkF m 10 #[.val (.ref t), .val (.int n'), .val (.int l'), .val (.int k), .val (.int (n' + (1 : Int32)))] [(.int (1 : Int32)), (.int k)])) (fun _ k_ => XS.iconst X1.here hx rfl (hb hby own_d2_9) k_) ?_
  by_cases hc10 : k = (1 : Int32)
  · refine own_w (T' := T1) (g' := (mkF m 13 #[.val (.ref t), .val (.int n'), .val (.int l'), .val (.int k), .val (.int (n' + (1 : Int32)))] [])) (fun _ k_ => XS.icmpNo X1.here hx rfl (hb hby own_d2_10) rfl (teq hc10).2 k_) ?_
    refine own_w (T' := T1) (g' := (mkF m 14 #[.val (.ref t), .val (.int n'), .val (.int l'), .val (.int k), .val (.int (n' + (1 : Int32)))] [(.ref t)])) (fun _ k_ => XS.aloadN X1.here hx rfl (hb hby own_d2_13) rfl rfl k_) ?_
    refine own_w (T' := T1) (g' := (mkF m 16 #[.val (.ref t), .val (.int n'), .val (.int l'), .val (.int k), .val (.int (n' + (1 : Int32)))] [(.int (n' + (1 : Int32))), (.ref t)])) (fun _ k_ => XS.iload X1.here hx rfl (hb hby own_d2_14) rfl k_) ?_
    refine own_w (T' := T1) (g' := (mkF m 18 #[.val (.ref t), .val (.int n'), .val (.int l'), .val (.int k), .val (.int (n' + (1 : Int32)))] [(.int (10 : Int32)), (.int (n' + (1 : Int32))), (.ref t)])) (fun _ k_ => XS.bipush X1.here hx rfl (hb hby own_d2_16) k_) ?_
    obtain ⟨_, _, ⟨T2, L2, k2, n2⟩, -, X2, ⟨Lc2, hQ2, l2, y2, z2⟩, st2⟩ := Jvm.LawKit.callS X1 hx (y := (⟨"com/example/holdfast/holdfast/LineBreaksEndsPinLaw", "add", "([CIC)I"⟩ : MethodName)) hown (mvT hZ (hw _ (List.mem_of_getElem? (i := 9) rfl))) (mvT hZ (hw _ (List.mem_of_getElem? (i := 10) rfl))) (mvT hZ (hw _ (List.mem_of_getElem? (i := 3) rfl))) (mvT hZ (hw _ (List.mem_of_getElem? (i := 11) rfl))) (by decide) (backOf (W := 0) (own_rm3 l Z a0 hw [] t (n' + (1 : Int32)) (10 : Int32) ((w ++ [l'])) ((zs).tail) h1 n0 Z1 V1 hn1 g_t (by first | (simp <;> omega) | omega) (by decide)) hZ (hw _ (List.mem_of_getElem? (i := 11) rfl)) (hw _ (List.mem_of_getElem? (i := 3) rfl)) (by decide) (by decide)) (g := (mkF m 18 #[.val (.ref t), .val (.int n'), .val (.int l'), .val (.int k), .val (.int (n' + (1 : Int32)))] [(.int (10 : Int32)), (.int (n' + (1 : Int32))), (.ref t)])) rfl (by rw [hml]; rfl) (argsL := [(.ref t), (.int (n' + (1 : Int32))), (.int (10 : Int32))]) (rest := []) (lenOf own_pd0 rfl) rfl (by show 2 * 0 + _ ≤ _; exact Nat.le_of_eq rfl) (hb hby own_d2_18) (fun _ _ => ⟨rfl, e1, (by decide : 0 + 0 ≤ _), (by decide : 0 + 0 ≤ _)⟩)
    dsimp only [Pt.U, Pt.locs, Pt.cells, Pt.slots] at X2 l2 y2 z2 st2 hQ2
    subst l2 y2 z2
    obtain ⟨h2, e2⟩ : ∃ h, T2.heap = h := ⟨_, rfl⟩
    rw [e2] at hQ2
    obtain ⟨rfl, N2q, K2, V2⟩ := hQ2
    have N2 := Fr.app N1 N2q
    refine own_w (T' := T2) (g' := (mkF m 21 #[.val (.ref t), .val (.int n'), .val (.int l'), .val (.int k), .val (.int (n' + (1 : Int32)))] [(.int ((n' + (1 : Int32)) + (1 : Int32)))])) st2 ?_
    have Z2 : n0 ≤ h2.size := Nat.le_trans Z1 K2.1
    have hn2 : ((n' + (1 : Int32)) + (1 : Int32)).toInt = ((((w ++ [l']) ++ [(10 : Int32)]).length : Nat) : Int) := by rw [own_n1 hn1 (by first | (simp <;> omega) | omega)]; simp <;> omega
    have KK2 := KK1.trans K2 (fun x hx => Or.inl hx)
    refine own_w (T' := T2) (g' := (mkF m 23 #[.val (.ref t), .val (.int n'), .val (.int l'), .val (.int k), .val (.int ((n' + (1 : Int32)) + (1 : Int32)))] [])) (fun _ k_ => XS.istore X2.here hx rfl (hb hby own_d2_21) rfl (l' := #[.val (.ref t), .val (.int n'), .val (.int l'), .val (.int k), .val (.int ((n' + (1 : Int32)) + (1 : Int32)))]) rfl k_) ?_
    refine own_w (T' := T2) (g' := (mkF m 193 #[.val (.ref t), .val (.int n'), .val (.int l'), .val (.int k), .val (.int ((n' + (1 : Int32)) + (1 : Int32)))] [])) (fun _ k_ => XS.goto X2.here hx rfl (pc0 := 23) (pc' := 193) rfl (hb hby own_d2_23) (by decide) (by decide) k_) ?_
    refine own_w (T' := T2) (g' := (mkF m 195 #[.val (.ref t), .val (.int n'), .val (.int l'), .val (.int k), .val (.int ((n' + (1 : Int32)) + (1 : Int32)))] [(.int ((n' + (1 : Int32)) + (1 : Int32)))])) (fun _ k_ => XS.iload X2.here hx rfl (hb hby own_d2_193) rfl k_) ?_
    have hbr : own_br k = [10] := by simp [own_br, hc10]
    obtain ⟨fs, hr, hrun, hended, hW, hsame⟩ := X2.leave (v := some (.int ((n' + (1 : Int32)) + (1 : Int32)))) (fun h => by rw [Bd.returns] at h; cases h)
    exact ⟨_, _, retOut X2 hx Bd.returns rfl (Or.inl ⟨rfl, Or.inl rfl, _, rfl⟩) (hb hby own_d2_195) hr, hrun, hended, _, _, rfl, (by show own_Q2 Z t n' l' k w zs h0 n0 _ T2.heap _; rw [e2]; exact ⟨(by simp only [own_nx, hbr]; rfl), N2, KK2, (by have q := V2; simp only [hbr]; simpa [← List.drop_one, List.drop_drop] using q)⟩), ⟨_, rfl⟩, hW, hsame.mono (by decide) (by decide)⟩
  · refine own_w (T' := T1) (g' := (mkF m 26 #[.val (.ref t), .val (.int n'), .val (.int l'), .val (.int k), .val (.int (n' + (1 : Int32)))] [])) (fun _ k_ => XS.icmpYes X1.here hx rfl (pc0 := 10) (pc' := 26) rfl (hb hby own_d2_10) rfl (feq hc10).2 (by decide) (by decide) k_) ?_
    refine own_w (T' := T1) (g' := (mkF m 27 #[.val (.ref t), .val (.int n'), .val (.int l'), .val (.int k), .val (.int (n' + (1 : Int32)))] [(.int k)])) (fun _ k_ => XS.iloadN X1.here hx rfl (hb hby own_d2_26) rfl k_) ?_
    refine own_w (T' := T1) (g' := (mkF m 28 #[.val (.ref t), .val (.int n'), .val (.int l'), .val (.int k), .val (.int (n' + (1 : Int32)))] [(.int (2 : Int32)), (.int k)])) (fun _ k_ => XS.iconst X1.here hx rfl (hb hby own_d2_27) k_) ?_
    by_cases hc28 : k = (2 : Int32)
    · refine own_w (T' := T1) (g' := (mkF m 31 #[.val (.ref t), .val (.int n'), .val (.int l'), .val (.int k), .val (.int (n' + (1 : Int32)))] [])) (fun _ k_ => XS.icmpNo X1.here hx rfl (hb hby own_d2_28) rfl (teq hc28).2 k_) ?_
      refine own_w (T' := T1) (g' := (mkF m 32 #[.val (.ref t), .val (.int n'), .val (.int l'), .val (.int k), .val (.int (n' + (1 : Int32)))] [(.ref t)])) (fun _ k_ => XS.aloadN X1.here hx rfl (hb hby own_d2_31) rfl rfl k_) ?_
      refine own_w (T' := T1) (g' := (mkF m 34 #[.val (.ref t), .val (.int n'), .val (.int l'), .val (.int k), .val (.int (n' + (1 : Int32)))] [(.int (n' + (1 : Int32))), (.ref t)])) (fun _ k_ => XS.iload X1.here hx rfl (hb hby own_d2_32) rfl k_) ?_
      refine own_w (T' := T1) (g' := (mkF m 36 #[.val (.ref t), .val (.int n'), .val (.int l'), .val (.int k), .val (.int (n' + (1 : Int32)))] [(.int (13 : Int32)), (.int (n' + (1 : Int32))), (.ref t)])) (fun _ k_ => XS.bipush X1.here hx rfl (hb hby own_d2_34) k_) ?_
      obtain ⟨_, _, ⟨T3, L3, k3, n3⟩, -, X3, ⟨Lc3, hQ3, l3, y3, z3⟩, st3⟩ := Jvm.LawKit.callS X1 hx (y := (⟨"com/example/holdfast/holdfast/LineBreaksEndsPinLaw", "add", "([CIC)I"⟩ : MethodName)) hown (mvT hZ (hw _ (List.mem_of_getElem? (i := 9) rfl))) (mvT hZ (hw _ (List.mem_of_getElem? (i := 10) rfl))) (mvT hZ (hw _ (List.mem_of_getElem? (i := 3) rfl))) (mvT hZ (hw _ (List.mem_of_getElem? (i := 11) rfl))) (by decide) (backOf (W := 0) (own_rm3 l Z a0 hw [] t (n' + (1 : Int32)) (13 : Int32) ((w ++ [l'])) ((zs).tail) h1 n0 Z1 V1 hn1 g_t (by first | (simp <;> omega) | omega) (by decide)) hZ (hw _ (List.mem_of_getElem? (i := 11) rfl)) (hw _ (List.mem_of_getElem? (i := 3) rfl)) (by decide) (by decide)) (g := (mkF m 36 #[.val (.ref t), .val (.int n'), .val (.int l'), .val (.int k), .val (.int (n' + (1 : Int32)))] [(.int (13 : Int32)), (.int (n' + (1 : Int32))), (.ref t)])) rfl (by rw [hml]; rfl) (argsL := [(.ref t), (.int (n' + (1 : Int32))), (.int (13 : Int32))]) (rest := []) (lenOf own_pd0 rfl) rfl (by show 2 * 0 + _ ≤ _; exact Nat.le_of_eq rfl) (hb hby own_d2_36) (fun _ _ => ⟨rfl, e1, (by decide : 0 + 0 ≤ _), (by decide : 0 + 0 ≤ _)⟩)
      dsimp only [Pt.U, Pt.locs, Pt.cells, Pt.slots] at X3 l3 y3 z3 st3 hQ3
      subst l3 y3 z3
      obtain ⟨h3, e3⟩ : ∃ h, T3.heap = h := ⟨_, rfl⟩
      rw [e3] at hQ3
      obtain ⟨rfl, N3q, K3, V3⟩ := hQ3
      have N3 := Fr.app N1 N3q
      refine own_w (T' := T3) (g' := (mkF m 39 #[.val (.ref t), .val (.int n'), .val (.int l'), .val (.int k), .val (.int (n' + (1 : Int32)))] [(.int ((n' + (1 : Int32)) + (1 : Int32)))])) st3 ?_
      have Z3 : n0 ≤ h3.size := Nat.le_trans Z1 K3.1
      have hn3 : ((n' + (1 : Int32)) + (1 : Int32)).toInt = ((((w ++ [l']) ++ [(13 : Int32)]).length : Nat) : Int) := by rw [own_n1 hn1 (by first | (simp <;> omega) | omega)]; simp <;> omega
      have KK3 := KK1.trans K3 (fun x hx => Or.inl hx)
      refine own_w (T' := T3) (g' := (mkF m 41 #[.val (.ref t), .val (.int n'), .val (.int l'), .val (.int k), .val (.int ((n' + (1 : Int32)) + (1 : Int32)))] [])) (fun _ k_ => XS.istore X3.here hx rfl (hb hby own_d2_39) rfl (l' := #[.val (.ref t), .val (.int n'), .val (.int l'), .val (.int k), .val (.int ((n' + (1 : Int32)) + (1 : Int32)))]) rfl k_) ?_
      refine own_w (T' := T3) (g' := (mkF m 193 #[.val (.ref t), .val (.int n'), .val (.int l'), .val (.int k), .val (.int ((n' + (1 : Int32)) + (1 : Int32)))] [])) (fun _ k_ => XS.goto X3.here hx rfl (pc0 := 41) (pc' := 193) rfl (hb hby own_d2_41) (by decide) (by decide) k_) ?_
      refine own_w (T' := T3) (g' := (mkF m 195 #[.val (.ref t), .val (.int n'), .val (.int l'), .val (.int k), .val (.int ((n' + (1 : Int32)) + (1 : Int32)))] [(.int ((n' + (1 : Int32)) + (1 : Int32)))])) (fun _ k_ => XS.iload X3.here hx rfl (hb hby own_d2_193) rfl k_) ?_
      have hbr : own_br k = [13] := by simp [own_br, hc10, hc28]
      obtain ⟨fs, hr, hrun, hended, hW, hsame⟩ := X3.leave (v := some (.int ((n' + (1 : Int32)) + (1 : Int32)))) (fun h => by rw [Bd.returns] at h; cases h)
      exact ⟨_, _, retOut X3 hx Bd.returns rfl (Or.inl ⟨rfl, Or.inl rfl, _, rfl⟩) (hb hby own_d2_195) hr, hrun, hended, _, _, rfl, (by show own_Q2 Z t n' l' k w zs h0 n0 _ T3.heap _; rw [e3]; exact ⟨(by simp only [own_nx, hbr]; rfl), N3, KK3, (by have q := V3; simp only [hbr]; simpa [← List.drop_one, List.drop_drop] using q)⟩), ⟨_, rfl⟩, hW, hsame.mono (by decide) (by decide)⟩
    · refine own_w (T' := T1) (g' := (mkF m 44 #[.val (.ref t), .val (.int n'), .val (.int l'), .val (.int k), .val (.int (n' + (1 : Int32)))] [])) (fun _ k_ => XS.icmpYes X1.here hx rfl (pc0 := 28) (pc' := 44) rfl (hb hby own_d2_28) rfl (feq hc28).2 (by decide) (by decide) k_) ?_
      refine own_w (T' := T1) (g' := (mkF m 45 #[.val (.ref t), .val (.int n'), .val (.int l'), .val (.int k), .val (.int (n' + (1 : Int32)))] [(.int k)])) (fun _ k_ => XS.iloadN X1.here hx rfl (hb hby own_d2_44) rfl k_) ?_
      refine own_w (T' := T1) (g' := (mkF m 46 #[.val (.ref t), .val (.int n'), .val (.int l'), .val (.int k), .val (.int (n' + (1 : Int32)))] [(.int (3 : Int32)), (.int k)])) (fun _ k_ => XS.iconst X1.here hx rfl (hb hby own_d2_45) k_) ?_
      by_cases hc46 : k = (3 : Int32)
      · refine own_w (T' := T1) (g' := (mkF m 49 #[.val (.ref t), .val (.int n'), .val (.int l'), .val (.int k), .val (.int (n' + (1 : Int32)))] [])) (fun _ k_ => XS.icmpNo X1.here hx rfl (hb hby own_d2_46) rfl (teq hc46).2 k_) ?_
        refine own_w (T' := T1) (g' := (mkF m 50 #[.val (.ref t), .val (.int n'), .val (.int l'), .val (.int k), .val (.int (n' + (1 : Int32)))] [(.ref t)])) (fun _ k_ => XS.aloadN X1.here hx rfl (hb hby own_d2_49) rfl rfl k_) ?_
        refine own_w (T' := T1) (g' := (mkF m 52 #[.val (.ref t), .val (.int n'), .val (.int l'), .val (.int k), .val (.int (n' + (1 : Int32)))] [(.int (n' + (1 : Int32))), (.ref t)])) (fun _ k_ => XS.iload X1.here hx rfl (hb hby own_d2_50) rfl k_) ?_
        refine own_w (T' := T1) (g' := (mkF m 54 #[.val (.ref t), .val (.int n'), .val (.int l'), .val (.int k), .val (.int (n' + (1 : Int32)))] [(.int (13 : Int32)), (.int (n' + (1 : Int32))), (.ref t)])) (fun _ k_ => XS.bipush X1.here hx rfl (hb hby own_d2_52) k_) ?_
        obtain ⟨_, _, ⟨T4, L4, k4, n4⟩, -, X4, ⟨Lc4, hQ4, l4, y4, z4⟩, st4⟩ := Jvm.LawKit.callS X1 hx (y := (⟨"com/example/holdfast/holdfast/LineBreaksEndsPinLaw", "add", "([CIC)I"⟩ : MethodName)) hown (mvT hZ (hw _ (List.mem_of_getElem? (i := 9) rfl))) (mvT hZ (hw _ (List.mem_of_getElem? (i := 10) rfl))) (mvT hZ (hw _ (List.mem_of_getElem? (i := 3) rfl))) (mvT hZ (hw _ (List.mem_of_getElem? (i := 11) rfl))) (by decide) (backOf (W := 0) (own_rm3 l Z a0 hw [] t (n' + (1 : Int32)) (13 : Int32) ((w ++ [l'])) ((zs).tail) h1 n0 Z1 V1 hn1 g_t (by first | (simp <;> omega) | omega) (by decide)) hZ (hw _ (List.mem_of_getElem? (i := 11) rfl)) (hw _ (List.mem_of_getElem? (i := 3) rfl)) (by decide) (by decide)) (g := (mkF m 54 #[.val (.ref t), .val (.int n'), .val (.int l'), .val (.int k), .val (.int (n' + (1 : Int32)))] [(.int (13 : Int32)), (.int (n' + (1 : Int32))), (.ref t)])) rfl (by rw [hml]; rfl) (argsL := [(.ref t), (.int (n' + (1 : Int32))), (.int (13 : Int32))]) (rest := []) (lenOf own_pd0 rfl) rfl (by show 2 * 0 + _ ≤ _; exact Nat.le_of_eq rfl) (hb hby own_d2_54) (fun _ _ => ⟨rfl, e1, (by decide : 0 + 0 ≤ _), (by decide : 0 + 0 ≤ _)⟩)
        dsimp only [Pt.U, Pt.locs, Pt.cells, Pt.slots] at X4 l4 y4 z4 st4 hQ4
        subst l4 y4 z4
        obtain ⟨h4, e4⟩ : ∃ h, T4.heap = h := ⟨_, rfl⟩
        rw [e4] at hQ4
        obtain ⟨rfl, N4q, K4, V4⟩ := hQ4
        have N4 := Fr.app N1 N4q
        refine own_w (T' := T4) (g' := (mkF m 57 #[.val (.ref t), .val (.int n'), .val (.int l'), .val (.int k), .val (.int (n' + (1 : Int32)))] [(.int ((n' + (1 : Int32)) + (1 : Int32)))])) st4 ?_
        have Z4 : n0 ≤ h4.size := Nat.le_trans Z1 K4.1
        have hn4 : ((n' + (1 : Int32)) + (1 : Int32)).toInt = ((((w ++ [l']) ++ [(13 : Int32)]).length : Nat) : Int) := by rw [own_n1 hn1 (by first | (simp <;> omega) | omega)]; simp <;> omega
        have KK4 := KK1.trans K4 (fun x hx => Or.inl hx)
        refine own_w (T' := T4) (g' := (mkF m 59 #[.val (.ref t), .val (.int n'), .val (.int l'), .val (.int k), .val (.int ((n' + (1 : Int32)) + (1 : Int32)))] [])) (fun _ k_ => XS.istore X4.here hx rfl (hb hby own_d2_57) rfl (l' := #[.val (.ref t), .val (.int n'), .val (.int l'), .val (.int k), .val (.int ((n' + (1 : Int32)) + (1 : Int32)))]) rfl k_) ?_
        refine own_w (T' := T4) (g' := (mkF m 60 #[.val (.ref t), .val (.int n'), .val (.int l'), .val (.int k), .val (.int ((n' + (1 : Int32)) + (1 : Int32)))] [(.ref t)])) (fun _ k_ => XS.aloadN X4.here hx rfl (hb hby own_d2_59) rfl rfl k_) ?_
        refine own_w (T' := T4) (g' := (mkF m 62 #[.val (.ref t), .val (.int n'), .val (.int l'), .val (.int k), .val (.int ((n' + (1 : Int32)) + (1 : Int32)))] [(.int ((n' + (1 : Int32)) + (1 : Int32))), (.ref t)])) (fun _ k_ => XS.iload X4.here hx rfl (hb hby own_d2_60) rfl k_) ?_
        refine own_w (T' := T4) (g' := (mkF m 64 #[.val (.ref t), .val (.int n'), .val (.int l'), .val (.int k), .val (.int ((n' + (1 : Int32)) + (1 : Int32)))] [(.int (10 : Int32)), (.int ((n' + (1 : Int32)) + (1 : Int32))), (.ref t)])) (fun _ k_ => XS.bipush X4.here hx rfl (hb hby own_d2_62) k_) ?_
        obtain ⟨_, _, ⟨T5, L5, k5, n5⟩, -, X5, ⟨Lc5, hQ5, l5, y5, z5⟩, st5⟩ := Jvm.LawKit.callS X4 hx (y := (⟨"com/example/holdfast/holdfast/LineBreaksEndsPinLaw", "add", "([CIC)I"⟩ : MethodName)) hown (mvT hZ (hw _ (List.mem_of_getElem? (i := 9) rfl))) (mvT hZ (hw _ (List.mem_of_getElem? (i := 10) rfl))) (mvT hZ (hw _ (List.mem_of_getElem? (i := 3) rfl))) (mvT hZ (hw _ (List.mem_of_getElem? (i := 11) rfl))) (by decide) (backOf (W := 0) (own_rm3 l Z a0 hw [] t ((n' + (1 : Int32)) + (1 : Int32)) (10 : Int32) (((w ++ [l']) ++ [(13 : Int32)])) (((zs).tail).tail) h4 n0 Z4 V4 hn4 g_t (by first | (simp <;> omega) | omega) (by decide)) hZ (hw _ (List.mem_of_getElem? (i := 11) rfl)) (hw _ (List.mem_of_getElem? (i := 3) rfl)) (by decide) (by decide)) (g := (mkF m 64 #[.val (.ref t), .val (.int n'), .val (.int l'), .val (.int k), .val (.int ((n' + (1 : Int32)) + (1 : Int32)))] [(.int (10 : Int32)), (.int ((n' + (1 : Int32)) + (1 : Int32))), (.ref t)])) rfl (by rw [hml]; rfl) (argsL := [(.ref t), (.int ((n' + (1 : Int32)) + (1 : Int32))), (.int (10 : Int32))]) (rest := []) (lenOf own_pd0 rfl) rfl (by show 2 * 0 + _ ≤ _; exact Nat.le_of_eq rfl) (hb hby own_d2_64) (fun _ _ => ⟨rfl, e4, (by decide : 0 + 0 ≤ _), (by decide : 0 + 0 ≤ _)⟩)
        dsimp only [Pt.U, Pt.locs, Pt.cells, Pt.slots] at X5 l5 y5 z5 st5 hQ5
        subst l5 y5 z5
        obtain ⟨h5, e5⟩ : ∃ h, T5.heap = h := ⟨_, rfl⟩
        rw [e5] at hQ5
        obtain ⟨rfl, N5q, K5, V5⟩ := hQ5
        have N5 := Fr.app N4 N5q
        refine own_w (T' := T5) (g' := (mkF m 67 #[.val (.ref t), .val (.int n'), .val (.int l'), .val (.int k), .val (.int ((n' + (1 : Int32)) + (1 : Int32)))] [(.int (((n' + (1 : Int32)) + (1 : Int32)) + (1 : Int32)))])) st5 ?_
        have Z5 : n0 ≤ h5.size := Nat.le_trans Z4 K5.1
        have hn5 : (((n' + (1 : Int32)) + (1 : Int32)) + (1 : Int32)).toInt = (((((w ++ [l']) ++ [(13 : Int32)]) ++ [(10 : Int32)]).length : Nat) : Int) := by rw [own_n1 hn4 (by first | (simp <;> omega) | omega)]; simp <;> omega
        have KK5 := KK4.trans K5 (fun x hx => Or.inl hx)
        refine own_w (T' := T5) (g' := (mkF m 69 #[.val (.ref t), .val (.int n'), .val (.int l'), .val (.int k), .val (.int (((n' + (1 : Int32)) + (1 : Int32)) + (1 : Int32)))] [])) (fun _ k_ => XS.istore X5.here hx rfl (hb hby own_d2_67) rfl (l' := #[.val (.ref t), .val (.int n'), .val (.int l'), .val (.int k), .val (.int (((n' + (1 : Int32)) + (1 : Int32)) + (1 : Int32)))]) rfl k_) ?_
        refine own_w (T' := T5) (g' := (mkF m 193 #[.val (.ref t), .val (.int n'), .val (.int l'), .val (.int k), .val (.int (((n' + (1 : Int32)) + (1 : Int32)) + (1 : Int32)))] [])) (fun _ k_ => XS.goto X5.here hx rfl (pc0 := 69) (pc' := 193) rfl (hb hby own_d2_69) (by decide) (by decide) k_) ?_
        refine own_w (T' := T5) (g' := (mkF m 195 #[.val (.ref t), .val (.int n'), .val (.int l'), .val (.int k), .val (.int (((n' + (1 : Int32)) + (1 : Int32)) + (1 : Int32)))] [(.int (((n' + (1 : Int32)) + (1 : Int32)) + (1 : Int32)))])) (fun _ k_ => XS.iload X5.here hx rfl (hb hby own_d2_193) rfl k_) ?_
        have hbr : own_br k = [13, 10] := by simp [own_br, hc10, hc28, hc46]
        obtain ⟨fs, hr, hrun, hended, hW, hsame⟩ := X5.leave (v := some (.int (((n' + (1 : Int32)) + (1 : Int32)) + (1 : Int32)))) (fun h => by rw [Bd.returns] at h; cases h)
        exact ⟨_, _, retOut X5 hx Bd.returns rfl (Or.inl ⟨rfl, Or.inl rfl, _, rfl⟩) (hb hby own_d2_195) hr, hrun, hended, _, _, rfl, (by show own_Q2 Z t n' l' k w zs h0 n0 _ T5.heap _; rw [e5]; exact ⟨(by simp only [own_nx, hbr]; rfl), N5, KK5, (by have q := V5; simp only [hbr]; simpa [← List.drop_one, List.drop_drop] using q)⟩), ⟨_, rfl⟩, hW, hsame.mono (by decide) (by decide)⟩
      · refine own_w (T' := T1) (g' := (mkF m 72 #[.val (.ref t), .val (.int n'), .val (.int l'), .val (.int k), .val (.int (n' + (1 : Int32)))] [])) (fun _ k_ => XS.icmpYes X1.here hx rfl (pc0 := 46) (pc' := 72) rfl (hb hby own_d2_46) rfl (feq hc46).2 (by decide) (by decide) k_) ?_
        refine own_w (T' := T1) (g' := (mkF m 73 #[.val (.ref t), .val (.int n'), .val (.int l'), .val (.int k), .val (.int (n' + (1 : Int32)))] [(.int k)])) (fun _ k_ => XS.iloadN X1.here hx rfl (hb hby own_d2_72) rfl k_) ?_
        refine own_w (T' := T1) (g' := (mkF m 74 #[.val (.ref t), .val (.int n'), .val (.int l'), .val (.int k), .val (.int (n' + (1 : Int32)))] [(.int (4 : Int32)), (.int k)])) (fun _ k_ => XS.iconst X1.here hx rfl (hb hby own_d2_73) k_) ?_
        by_cases hc74 : k = (4 : Int32)
        · refine own_w (T' := T1) (g' := (mkF m 77 #[.val (.ref t), .val (.int n'), .val (.int l'), .val (.int k), .val (.int (n' + (1 : Int32)))] [])) (fun _ k_ => XS.icmpNo X1.here hx rfl (hb hby own_d2_74) rfl (teq hc74).2 k_) ?_
          refine own_w (T' := T1) (g' := (mkF m 78 #[.val (.ref t), .val (.int n'), .val (.int l'), .val (.int k), .val (.int (n' + (1 : Int32)))] [(.ref t)])) (fun _ k_ => XS.aloadN X1.here hx rfl (hb hby own_d2_77) rfl rfl k_) ?_
          refine own_w (T' := T1) (g' := (mkF m 80 #[.val (.ref t), .val (.int n'), .val (.int l'), .val (.int k), .val (.int (n' + (1 : Int32)))] [(.int (n' + (1 : Int32))), (.ref t)])) (fun _ k_ => XS.iload X1.here hx rfl (hb hby own_d2_78) rfl k_) ?_
          refine own_w (T' := T1) (g' := (mkF m 82 #[.val (.ref t), .val (.int n'), .val (.int l'), .val (.int k), .val (.int (n' + (1 : Int32)))] [(.int (10 : Int32)), (.int (n' + (1 : Int32))), (.ref t)])) (fun _ k_ => XS.bipush X1.here hx rfl (hb hby own_d2_80) k_) ?_
          obtain ⟨_, _, ⟨T6, L6, k6, n6⟩, -, X6, ⟨Lc6, hQ6, l6, y6, z6⟩, st6⟩ := Jvm.LawKit.callS X1 hx (y := (⟨"com/example/holdfast/holdfast/LineBreaksEndsPinLaw", "add", "([CIC)I"⟩ : MethodName)) hown (mvT hZ (hw _ (List.mem_of_getElem? (i := 9) rfl))) (mvT hZ (hw _ (List.mem_of_getElem? (i := 10) rfl))) (mvT hZ (hw _ (List.mem_of_getElem? (i := 3) rfl))) (mvT hZ (hw _ (List.mem_of_getElem? (i := 11) rfl))) (by decide) (backOf (W := 0) (own_rm3 l Z a0 hw [] t (n' + (1 : Int32)) (10 : Int32) ((w ++ [l'])) ((zs).tail) h1 n0 Z1 V1 hn1 g_t (by first | (simp <;> omega) | omega) (by decide)) hZ (hw _ (List.mem_of_getElem? (i := 11) rfl)) (hw _ (List.mem_of_getElem? (i := 3) rfl)) (by decide) (by decide)) (g := (mkF m 82 #[.val (.ref t), .val (.int n'), .val (.int l'), .val (.int k), .val (.int (n' + (1 : Int32)))] [(.int (10 : Int32)), (.int (n' + (1 : Int32))), (.ref t)])) rfl (by rw [hml]; rfl) (argsL := [(.ref t), (.int (n' + (1 : Int32))), (.int (10 : Int32))]) (rest := []) (lenOf own_pd0 rfl) rfl (by show 2 * 0 + _ ≤ _; exact Nat.le_of_eq rfl) (hb hby own_d2_82) (fun _ _ => ⟨rfl, e1, (by decide : 0 + 0 ≤ _), (by decide : 0 + 0 ≤ _)⟩)
          dsimp only [Pt.U, Pt.locs, Pt.cells, Pt.slots] at X6 l6 y6 z6 st6 hQ6
          subst l6 y6 z6
          obtain ⟨h6, e6⟩ : ∃ h, T6.heap = h := ⟨_, rfl⟩
          rw [e6] at hQ6
          obtain ⟨rfl, N6q, K6, V6⟩ := hQ6
          have N6 := Fr.app N1 N6q
          refine own_w (T' := T6) (g' := (mkF m 85 #[.val (.ref t), .val (.int n'), .val (.int l'), .val (.int k), .val (.int (n' + (1 : Int32)))] [(.int ((n' + (1 : Int32)) + (1 : Int32)))])) st6 ?_
          have Z6 : n0 ≤ h6.size := Nat.le_trans Z1 K6.1
          have hn6 : ((n' + (1 : Int32)) + (1 : Int32)).toInt = ((((w ++ [l']) ++ [(10 : Int32)]).length : Nat) : Int) := by rw [own_n1 hn1 (by first | (simp <;> omega) | omega)]; simp <;> omega
          have KK6 := KK1.trans K6 (fun x hx => Or.inl hx)
          refine own_w (T' := T6) (g' := (mkF m 87 #[.val (.ref t), .val (.int n'), .val (.int l'), .val (.int k), .val (.int ((n' + (1 : Int32)) + (1 : Int32)))] [])) (fun _ k_ => XS.istore X6.here hx rfl (hb hby own_d2_85) rfl (l' := #[.val (.ref t), .val (.int n'), .val (.int l'), .val (.int k), .val (.int ((n' + (1 : Int32)) + (1 : Int32)))]) rfl k_) ?_
          refine own_w (T' := T6) (g' := (mkF m 88 #[.val (.ref t), .val (.int n'), .val (.int l'), .val (.int k), .val (.int ((n' + (1 : Int32)) + (1 : Int32)))] [(.ref t)])) (fun _ k_ => XS.aloadN X6.here hx rfl (hb hby own_d2_87) rfl rfl k_) ?_
          refine own_w (T' := T6) (g' := (mkF m 90 #[.val (.ref t), .val (.int n'), .val (.int l'), .val (.int k), .val (.int ((n' + (1 : Int32)) + (1 : Int32)))] [(.int ((n' + (1 : Int32)) + (1 : Int32))), (.ref t)])) (fun _ k_ => XS.iload X6.here hx rfl (hb hby own_d2_88) rfl k_) ?_
          refine own_w (T' := T6) (g' := (mkF m 92 #[.val (.ref t), .val (.int n'), .val (.int l'), .val (.int k), .val (.int ((n' + (1 : Int32)) + (1 : Int32)))] [(.int (13 : Int32)), (.int ((n' + (1 : Int32)) + (1 : Int32))), (.ref t)])) (fun _ k_ => XS.bipush X6.here hx rfl (hb hby own_d2_90) k_) ?_
          obtain ⟨_, _, ⟨T7, L7, k7, n7⟩, -, X7, ⟨Lc7, hQ7, l7, y7, z7⟩, st7⟩ := Jvm.LawKit.callS X6 hx (y := (⟨"com/example/holdfast/holdfast/LineBreaksEndsPinLaw", "add", "([CIC)I"⟩ : MethodName)) hown (mvT hZ (hw _ (List.mem_of_getElem? (i := 9) rfl))) (mvT hZ (hw _ (List.mem_of_getElem? (i := 10) rfl))) (mvT hZ (hw _ (List.mem_of_getElem? (i := 3) rfl))) (mvT hZ (hw _ (List.mem_of_getElem? (i := 11) rfl))) (by decide) (backOf (W := 0) (own_rm3 l Z a0 hw [] t ((n' + (1 : Int32)) + (1 : Int32)) (13 : Int32) (((w ++ [l']) ++ [(10 : Int32)])) (((zs).tail).tail) h6 n0 Z6 V6 hn6 g_t (by first | (simp <;> omega) | omega) (by decide)) hZ (hw _ (List.mem_of_getElem? (i := 11) rfl)) (hw _ (List.mem_of_getElem? (i := 3) rfl)) (by decide) (by decide)) (g := (mkF m 92 #[.val (.ref t), .val (.int n'), .val (.int l'), .val (.int k), .val (.int ((n' + (1 : Int32)) + (1 : Int32)))] [(.int (13 : Int32)), (.int ((n' + (1 : Int32)) + (1 : Int32))), (.ref t)])) rfl (by rw [hml]; rfl) (argsL := [(.ref t), (.int ((n' + (1 : Int32)) + (1 : Int32))), (.int (13 : Int32))]) (rest := []) (lenOf own_pd0 rfl) rfl (by show 2 * 0 + _ ≤ _; exact Nat.le_of_eq rfl) (hb hby own_d2_92) (fun _ _ => ⟨rfl, e6, (by decide : 0 + 0 ≤ _), (by decide : 0 + 0 ≤ _)⟩)
          dsimp only [Pt.U, Pt.locs, Pt.cells, Pt.slots] at X7 l7 y7 z7 st7 hQ7
          subst l7 y7 z7
          obtain ⟨h7, e7⟩ : ∃ h, T7.heap = h := ⟨_, rfl⟩
          rw [e7] at hQ7
          obtain ⟨rfl, N7q, K7, V7⟩ := hQ7
          have N7 := Fr.app N6 N7q
          refine own_w (T' := T7) (g' := (mkF m 95 #[.val (.ref t), .val (.int n'), .val (.int l'), .val (.int k), .val (.int ((n' + (1 : Int32)) + (1 : Int32)))] [(.int (((n' + (1 : Int32)) + (1 : Int32)) + (1 : Int32)))])) st7 ?_
          have Z7 : n0 ≤ h7.size := Nat.le_trans Z6 K7.1
          have hn7 : (((n' + (1 : Int32)) + (1 : Int32)) + (1 : Int32)).toInt = (((((w ++ [l']) ++ [(10 : Int32)]) ++ [(13 : Int32)]).length : Nat) : Int) := by rw [own_n1 hn6 (by first | (simp <;> omega) | omega)]; simp <;> omega
          have KK7 := KK6.trans K7 (fun x hx => Or.inl hx)
          refine own_w (T' := T7) (g' := (mkF m 97 #[.val (.ref t), .val (.int n'), .val (.int l'), .val (.int k), .val (.int (((n' + (1 : Int32)) + (1 : Int32)) + (1 : Int32)))] [])) (fun _ k_ => XS.istore X7.here hx rfl (hb hby own_d2_95) rfl (l' := #[.val (.ref t), .val (.int n'), .val (.int l'), .val (.int k), .val (.int (((n' + (1 : Int32)) + (1 : Int32)) + (1 : Int32)))]) rfl k_) ?_
          refine own_w (T' := T7) (g' := (mkF m 193 #[.val (.ref t), .val (.int n'), .val (.int l'), .val (.int k), .val (.int (((n' + (1 : Int32)) + (1 : Int32)) + (1 : Int32)))] [])) (fun _ k_ => XS.goto X7.here hx rfl (pc0 := 97) (pc' := 193) rfl (hb hby own_d2_97) (by decide) (by decide) k_) ?_
          refine own_w (T' := T7) (g' := (mkF m 195 #[.val (.ref t), .val (.int n'), .val (.int l'), .val (.int k), .val (.int (((n' + (1 : Int32)) + (1 : Int32)) + (1 : Int32)))] [(.int (((n' + (1 : Int32)) + (1 : Int32)) + (1 : Int32)))])) (fun _ k_ => XS.iload X7.here hx rfl (hb hby own_d2_193) rfl k_) ?_
          have hbr : own_br k = [10, 13] := by simp [own_br, hc10, hc28, hc46, hc74]
          obtain ⟨fs, hr, hrun, hended, hW, hsame⟩ := X7.leave (v := some (.int (((n' + (1 : Int32)) + (1 : Int32)) + (1 : Int32)))) (fun h => by rw [Bd.returns] at h; cases h)
          exact ⟨_, _, retOut X7 hx Bd.returns rfl (Or.inl ⟨rfl, Or.inl rfl, _, rfl⟩) (hb hby own_d2_195) hr, hrun, hended, _, _, rfl, (by show own_Q2 Z t n' l' k w zs h0 n0 _ T7.heap _; rw [e7]; exact ⟨(by simp only [own_nx, hbr]; rfl), N7, KK7, (by have q := V7; simp only [hbr]; simpa [← List.drop_one, List.drop_drop] using q)⟩), ⟨_, rfl⟩, hW, hsame.mono (by decide) (by decide)⟩
        · refine own_w (T' := T1) (g' := (mkF m 100 #[.val (.ref t), .val (.int n'), .val (.int l'), .val (.int k), .val (.int (n' + (1 : Int32)))] [])) (fun _ k_ => XS.icmpYes X1.here hx rfl (pc0 := 74) (pc' := 100) rfl (hb hby own_d2_74) rfl (feq hc74).2 (by decide) (by decide) k_) ?_
          refine own_w (T' := T1) (g' := (mkF m 101 #[.val (.ref t), .val (.int n'), .val (.int l'), .val (.int k), .val (.int (n' + (1 : Int32)))] [(.int k)])) (fun _ k_ => XS.iloadN X1.here hx rfl (hb hby own_d2_100) rfl k_) ?_
          refine own_w (T' := T1) (g' := (mkF m 102 #[.val (.ref t), .val (.int n'), .val (.int l'), .val (.int k), .val (.int (n' + (1 : Int32)))] [(.int (5 : Int32)), (.int k)])) (fun _ k_ => XS.iconst X1.here hx rfl (hb hby own_d2_101) k_) ?_
          by_cases hc102 : k = (5 : Int32)
          · refine own_w (T' := T1) (g' := (mkF m 105 #[.val (.ref t), .val (.int n'), .val (.int l'), .val (.int k), .val (.int (n' + (1 : Int32)))] [])) (fun _ k_ => XS.icmpNo X1.here hx rfl (hb hby own_d2_102) rfl (teq hc102).2 k_) ?_
            refine own_w (T' := T1) (g' := (mkF m 106 #[.val (.ref t), .val (.int n'), .val (.int l'), .val (.int k), .val (.int (n' + (1 : Int32)))] [(.ref t)])) (fun _ k_ => XS.aloadN X1.here hx rfl (hb hby own_d2_105) rfl rfl k_) ?_
            refine own_w (T' := T1) (g' := (mkF m 108 #[.val (.ref t), .val (.int n'), .val (.int l'), .val (.int k), .val (.int (n' + (1 : Int32)))] [(.int (n' + (1 : Int32))), (.ref t)])) (fun _ k_ => XS.iload X1.here hx rfl (hb hby own_d2_106) rfl k_) ?_
            refine own_w (T' := T1) (g' := (mkF m 110 #[.val (.ref t), .val (.int n'), .val (.int l'), .val (.int k), .val (.int (n' + (1 : Int32)))] [(.int (13 : Int32)), (.int (n' + (1 : Int32))), (.ref t)])) (fun _ k_ => XS.bipush X1.here hx rfl (hb hby own_d2_108) k_) ?_
            obtain ⟨_, _, ⟨T8, L8, k8, n8⟩, -, X8, ⟨Lc8, hQ8, l8, y8, z8⟩, st8⟩ := Jvm.LawKit.callS X1 hx (y := (⟨"com/example/holdfast/holdfast/LineBreaksEndsPinLaw", "add", "([CIC)I"⟩ : MethodName)) hown (mvT hZ (hw _ (List.mem_of_getElem? (i := 9) rfl))) (mvT hZ (hw _ (List.mem_of_getElem? (i := 10) rfl))) (mvT hZ (hw _ (List.mem_of_getElem? (i := 3) rfl))) (mvT hZ (hw _ (List.mem_of_getElem? (i := 11) rfl))) (by decide) (backOf (W := 0) (own_rm3 l Z a0 hw [] t (n' + (1 : Int32)) (13 : Int32) ((w ++ [l'])) ((zs).tail) h1 n0 Z1 V1 hn1 g_t (by first | (simp <;> omega) | omega) (by decide)) hZ (hw _ (List.mem_of_getElem? (i := 11) rfl)) (hw _ (List.mem_of_getElem? (i := 3) rfl)) (by decide) (by decide)) (g := (mkF m 110 #[.val (.ref t), .val (.int n'), .val (.int l'), .val (.int k), .val (.int (n' + (1 : Int32)))] [(.int (13 : Int32)), (.int (n' + (1 : Int32))), (.ref t)])) rfl (by rw [hml]; rfl) (argsL := [(.ref t), (.int (n' + (1 : Int32))), (.int (13 : Int32))]) (rest := []) (lenOf own_pd0 rfl) rfl (by show 2 * 0 + _ ≤ _; exact Nat.le_of_eq rfl) (hb hby own_d2_110) (fun _ _ => ⟨rfl, e1, (by decide : 0 + 0 ≤ _), (by decide : 0 + 0 ≤ _)⟩)
            dsimp only [Pt.U, Pt.locs, Pt.cells, Pt.slots] at X8 l8 y8 z8 st8 hQ8
            subst l8 y8 z8
            obtain ⟨h8, e8⟩ : ∃ h, T8.heap = h := ⟨_, rfl⟩
            rw [e8] at hQ8
            obtain ⟨rfl, N8q, K8, V8⟩ := hQ8
            have N8 := Fr.app N1 N8q
            refine own_w (T' := T8) (g' := (mkF m 113 #[.val (.ref t), .val (.int n'), .val (.int l'), .val (.int k), .val (.int (n' + (1 : Int32)))] [(.int ((n' + (1 : Int32)) + (1 : Int32)))])) st8 ?_
            have Z8 : n0 ≤ h8.size := Nat.le_trans Z1 K8.1
            have hn8 : ((n' + (1 : Int32)) + (1 : Int32)).toInt = ((((w ++ [l']) ++ [(13 : Int32)]).length : Nat) : Int) := by rw [own_n1 hn1 (by first | (simp <;> omega) | omega)]; simp <;> omega
            have KK8 := KK1.trans K8 (fun x hx => Or.inl hx)
            refine own_w (T' := T8) (g' := (mkF m 115 #[.val (.ref t), .val (.int n'), .val (.int l'), .val (.int k), .val (.int ((n' + (1 : Int32)) + (1 : Int32)))] [])) (fun _ k_ => XS.istore X8.here hx rfl (hb hby own_d2_113) rfl (l' := #[.val (.ref t), .val (.int n'), .val (.int l'), .val (.int k), .val (.int ((n' + (1 : Int32)) + (1 : Int32)))]) rfl k_) ?_
            refine own_w (T' := T8) (g' := (mkF m 116 #[.val (.ref t), .val (.int n'), .val (.int l'), .val (.int k), .val (.int ((n' + (1 : Int32)) + (1 : Int32)))] [(.ref t)])) (fun _ k_ => XS.aloadN X8.here hx rfl (hb hby own_d2_115) rfl rfl k_) ?_
            refine own_w (T' := T8) (g' := (mkF m 118 #[.val (.ref t), .val (.int n'), .val (.int l'), .val (.int k), .val (.int ((n' + (1 : Int32)) + (1 : Int32)))] [(.int ((n' + (1 : Int32)) + (1 : Int32))), (.ref t)])) (fun _ k_ => XS.iload X8.here hx rfl (hb hby own_d2_116) rfl k_) ?_
            refine own_w (T' := T8) (g' := (mkF m 120 #[.val (.ref t), .val (.int n'), .val (.int l'), .val (.int k), .val (.int ((n' + (1 : Int32)) + (1 : Int32)))] [(.int (13 : Int32)), (.int ((n' + (1 : Int32)) + (1 : Int32))), (.ref t)])) (fun _ k_ => XS.bipush X8.here hx rfl (hb hby own_d2_118) k_) ?_
            obtain ⟨_, _, ⟨T9, L9, k9, n9⟩, -, X9, ⟨Lc9, hQ9, l9, y9, z9⟩, st9⟩ := Jvm.LawKit.callS X8 hx (y := (⟨"com/example/holdfast/holdfast/LineBreaksEndsPinLaw", "add", "([CIC)I"⟩ : MethodName)) hown (mvT hZ (hw _ (List.mem_of_getElem? (i := 9) rfl))) (mvT hZ (hw _ (List.mem_of_getElem? (i := 10) rfl))) (mvT hZ (hw _ (List.mem_of_getElem? (i := 3) rfl))) (mvT hZ (hw _ (List.mem_of_getElem? (i := 11) rfl))) (by decide) (backOf (W := 0) (own_rm3 l Z a0 hw [] t ((n' + (1 : Int32)) + (1 : Int32)) (13 : Int32) (((w ++ [l']) ++ [(13 : Int32)])) (((zs).tail).tail) h8 n0 Z8 V8 hn8 g_t (by first | (simp <;> omega) | omega) (by decide)) hZ (hw _ (List.mem_of_getElem? (i := 11) rfl)) (hw _ (List.mem_of_getElem? (i := 3) rfl)) (by decide) (by decide)) (g := (mkF m 120 #[.val (.ref t), .val (.int n'), .val (.int l'), .val (.int k), .val (.int ((n' + (1 : Int32)) + (1 : Int32)))] [(.int (13 : Int32)), (.int ((n' + (1 : Int32)) + (1 : Int32))), (.ref t)])) rfl (by rw [hml]; rfl) (argsL := [(.ref t), (.int ((n' + (1 : Int32)) + (1 : Int32))), (.int (13 : Int32))]) (rest := []) (lenOf own_pd0 rfl) rfl (by show 2 * 0 + _ ≤ _; exact Nat.le_of_eq rfl) (hb hby own_d2_120) (fun _ _ => ⟨rfl, e8, (by decide : 0 + 0 ≤ _), (by decide : 0 + 0 ≤ _)⟩)
            dsimp only [Pt.U, Pt.locs, Pt.cells, Pt.slots] at X9 l9 y9 z9 st9 hQ9
            subst l9 y9 z9
            obtain ⟨h9, e9⟩ : ∃ h, T9.heap = h := ⟨_, rfl⟩
            rw [e9] at hQ9
            obtain ⟨rfl, N9q, K9, V9⟩ := hQ9
            have N9 := Fr.app N8 N9q
            refine own_w (T' := T9) (g' := (mkF m 123 #[.val (.ref t), .val (.int n'), .val (.int l'), .val (.int k), .val (.int ((n' + (1 : Int32)) + (1 : Int32)))] [(.int (((n' + (1 : Int32)) + (1 : Int32)) + (1 : Int32)))])) st9 ?_
            have Z9 : n0 ≤ h9.size := Nat.le_trans Z8 K9.1
            have hn9 : (((n' + (1 : Int32)) + (1 : Int32)) + (1 : Int32)).toInt = (((((w ++ [l']) ++ [(13 : Int32)]) ++ [(13 : Int32)]).length : Nat) : Int) := by rw [own_n1 hn8 (by first | (simp <;> omega) | omega)]; simp <;> omega
            have KK9 := KK8.trans K9 (fun x hx => Or.inl hx)
            refine own_w (T' := T9) (g' := (mkF m 125 #[.val (.ref t), .val (.int n'), .val (.int l'), .val (.int k), .val (.int (((n' + (1 : Int32)) + (1 : Int32)) + (1 : Int32)))] [])) (fun _ k_ => XS.istore X9.here hx rfl (hb hby own_d2_123) rfl (l' := #[.val (.ref t), .val (.int n'), .val (.int l'), .val (.int k), .val (.int (((n' + (1 : Int32)) + (1 : Int32)) + (1 : Int32)))]) rfl k_) ?_
            refine own_w (T' := T9) (g' := (mkF m 193 #[.val (.ref t), .val (.int n'), .val (.int l'), .val (.int k), .val (.int (((n' + (1 : Int32)) + (1 : Int32)) + (1 : Int32)))] [])) (fun _ k_ => XS.goto X9.here hx rfl (pc0 := 125) (pc' := 193) rfl (hb hby own_d2_125) (by decide) (by decide) k_) ?_
            refine own_w (T' := T9) (g' := (mkF m 195 #[.val (.ref t), .val (.int n'), .val (.int l'), .val (.int k), .val (.int (((n' + (1 : Int32)) + (1 : Int32)) + (1 : Int32)))] [(.int (((n' + (1 : Int32)) + (1 : Int32)) + (1 : Int32)))])) (fun _ k_ => XS.iload X9.here hx rfl (hb hby own_d2_193) rfl k_) ?_
            have hbr : own_br k = [13, 13] := by simp [own_br, hc10, hc28, hc46, hc74, hc102]
            obtain ⟨fs, hr, hrun, hended, hW, hsame⟩ := X9.leave (v := some (.int (((n' + (1 : Int32)) + (1 : Int32)) + (1 : Int32)))) (fun h => by rw [Bd.returns] at h; cases h)
            exact ⟨_, _, retOut X9 hx Bd.returns rfl (Or.inl ⟨rfl, Or.inl rfl, _, rfl⟩) (hb hby own_d2_195) hr, hrun, hended, _, _, rfl, (by show own_Q2 Z t n' l' k w zs h0 n0 _ T9.heap _; rw [e9]; exact ⟨(by simp only [own_nx, hbr]; rfl), N9, KK9, (by have q := V9; simp only [hbr]; simpa [← List.drop_one, List.drop_drop] using q)⟩), ⟨_, rfl⟩, hW, hsame.mono (by decide) (by decide)⟩
          · refine own_w (T' := T1) (g' := (mkF m 128 #[.val (.ref t), .val (.int n'), .val (.int l'), .val (.int k), .val (.int (n' + (1 : Int32)))] [])) (fun _ k_ => XS.icmpYes X1.here hx rfl (pc0 := 102) (pc' := 128) rfl (hb hby own_d2_102) rfl (feq hc102).2 (by decide) (by decide) k_) ?_
            refine own_w (T' := T1) (g' := (mkF m 129 #[.val (.ref t), .val (.int n'), .val (.int l'), .val (.int k), .val (.int (n' + (1 : Int32)))] [(.int k)])) (fun _ k_ => XS.iloadN X1.here hx rfl (hb hby own_d2_128) rfl k_) ?_
            refine own_w (T' := T1) (g' := (mkF m 131 #[.val (.ref t), .val (.int n'), .val (.int l'), .val (.int k), .val (.int (n' + (1 : Int32)))] [(.int (6 : Int32)), (.int k)])) (fun _ k_ => XS.bipush X1.here hx rfl (hb hby own_d2_129) k_) ?_
            by_cases hc131 : k = (6 : Int32)
            · refine own_w (T' := T1) (g' := (mkF m 134 #[.val (.ref t), .val (.int n'), .val (.int l'), .val (.int k), .val (.int (n' + (1 : Int32)))] [])) (fun _ k_ => XS.icmpNo X1.here hx rfl (hb hby own_d2_131) rfl (teq hc131).2 k_) ?_
              refine own_w (T' := T1) (g' := (mkF m 135 #[.val (.ref t), .val (.int n'), .val (.int l'), .val (.int k), .val (.int (n' + (1 : Int32)))] [(.ref t)])) (fun _ k_ => XS.aloadN X1.here hx rfl (hb hby own_d2_134) rfl rfl k_) ?_
              refine own_w (T' := T1) (g' := (mkF m 137 #[.val (.ref t), .val (.int n'), .val (.int l'), .val (.int k), .val (.int (n' + (1 : Int32)))] [(.int (n' + (1 : Int32))), (.ref t)])) (fun _ k_ => XS.iload X1.here hx rfl (hb hby own_d2_135) rfl k_) ?_
              refine own_w (T' := T1) (g' := (mkF m 139 #[.val (.ref t), .val (.int n'), .val (.int l'), .val (.int k), .val (.int (n' + (1 : Int32)))] [(.int (10 : Int32)), (.int (n' + (1 : Int32))), (.ref t)])) (fun _ k_ => XS.bipush X1.here hx rfl (hb hby own_d2_137) k_) ?_
              obtain ⟨_, _, ⟨T10, L10, k10, n10⟩, -, X10, ⟨Lc10, hQ10, l10, y10, z10⟩, st10⟩ := Jvm.LawKit.callS X1 hx (y := (⟨"com/example/holdfast/holdfast/LineBreaksEndsPinLaw", "add", "([CIC)I"⟩ : MethodName)) hown (mvT hZ (hw _ (List.mem_of_getElem? (i := 9) rfl))) (mvT hZ (hw _ (List.mem_of_getElem? (i := 10) rfl))) (mvT hZ (hw _ (List.mem_of_getElem? (i := 3) rfl))) (mvT hZ (hw _ (List.mem_of_getElem? (i := 11) rfl))) (by decide) (backOf (W := 0) (own_rm3 l Z a0 hw [] t (n' + (1 : Int32)) (10 : Int32) ((w ++ [l'])) ((zs).tail) h1 n0 Z1 V1 hn1 g_t (by first | (simp <;> omega) | omega) (by decide)) hZ (hw _ (List.mem_of_getElem? (i := 11) rfl)) (hw _ (List.mem_of_getElem? (i := 3) rfl)) (by decide) (by decide)) (g := (mkF m 139 #[.val (.ref t), .val (.int n'), .val (.int l'), .val (.int k), .val (.int (n' + (1 : Int32)))] [(.int (10 : Int32)), (.int (n' + (1 : Int32))), (.ref t)])) rfl (by rw [hml]; rfl) (argsL := [(.ref t), (.int (n' + (1 : Int32))), (.int (10 : Int32))]) (rest := []) (lenOf own_pd0 rfl) rfl (by show 2 * 0 + _ ≤ _; exact Nat.le_of_eq rfl) (hb hby own_d2_139) (fun _ _ => ⟨rfl, e1, (by decide : 0 + 0 ≤ _), (by decide : 0 + 0 ≤ _)⟩)
              dsimp only [Pt.U, Pt.locs, Pt.cells, Pt.slots] at X10 l10 y10 z10 st10 hQ10
              subst l10 y10 z10
              obtain ⟨h10, e10⟩ : ∃ h, T10.heap = h := ⟨_, rfl⟩
              rw [e10] at hQ10
              obtain ⟨rfl, N10q, K10, V10⟩ := hQ10
              have N10 := Fr.app N1 N10q
              refine own_w (T' := T10) (g' := (mkF m 142 #[.val (.ref t), .val (.int n'), .val (.int l'), .val (.int k), .val (.int (n' + (1 : Int32)))] [(.int ((n' + (1 : Int32)) + (1 : Int32)))])) st10 ?_
              have Z10 : n0 ≤ h10.size := Nat.le_trans Z1 K10.1
              have hn10 : ((n' + (1 : Int32)) + (1 : Int32)).toInt = ((((w ++ [l']) ++ [(10 : Int32)]).length : Nat) : Int) := by rw [own_n1 hn1 (by first | (simp <;> omega) | omega)]; simp <;> omega
              have KK10 := KK1.trans K10 (fun x hx => Or.inl hx)
              refine own_w (T' := T10) (g' := (mkF m 144 #[.val (.ref t), .val (.int n'), .val (.int l'), .val (.int k), .val (.int ((n' + (1 : Int32)) + (1 : Int32)))] [])) (fun _ k_ => XS.istore X10.here hx rfl (hb hby own_d2_142) rfl (l' := #[.val (.ref t), .val (.int n'), .val (.int l'), .val (.int k), .val (.int ((n' + (1 : Int32)) + (1 : Int32)))]) rfl k_) ?_
              refine own_w (T' := T10) (g' := (mkF m 145 #[.val (.ref t), .val (.int n'), .val (.int l'), .val (.int k), .val (.int ((n' + (1 : Int32)) + (1 : Int32)))] [(.ref t)])) (fun _ k_ => XS.aloadN X10.here hx rfl (hb hby own_d2_144) rfl rfl k_) ?_
              refine own_w (T' := T10) (g' := (mkF m 147 #[.val (.ref t), .val (.int n'), .val (.int l'), .val (.int k), .val (.int ((n' + (1 : Int32)) + (1 : Int32)))] [(.int ((n' + (1 : Int32)) + (1 : Int32))), (.ref t)])) (fun _ k_ => XS.iload X10.here hx rfl (hb hby own_d2_145) rfl k_) ?_
              refine own_w (T' := T10) (g' := (mkF m 149 #[.val (.ref t), .val (.int n'), .val (.int l'), .val (.int k), .val (.int ((n' + (1 : Int32)) + (1 : Int32)))] [(.int (10 : Int32)), (.int ((n' + (1 : Int32)) + (1 : Int32))), (.ref t)])) (fun _ k_ => XS.bipush X10.here hx rfl (hb hby own_d2_147) k_) ?_
              obtain ⟨_, _, ⟨T11, L11, k11, n11⟩, -, X11, ⟨Lc11, hQ11, l11, y11, z11⟩, st11⟩ := Jvm.LawKit.callS X10 hx (y := (⟨"com/example/holdfast/holdfast/LineBreaksEndsPinLaw", "add", "([CIC)I"⟩ : MethodName)) hown (mvT hZ (hw _ (List.mem_of_getElem? (i := 9) rfl))) (mvT hZ (hw _ (List.mem_of_getElem? (i := 10) rfl))) (mvT hZ (hw _ (List.mem_of_getElem? (i := 3) rfl))) (mvT hZ (hw _ (List.mem_of_getElem? (i := 11) rfl))) (by decide) (backOf (W := 0) (own_rm3 l Z a0 hw [] t ((n' + (1 : Int32)) + (1 : Int32)) (10 : Int32) (((w ++ [l']) ++ [(10 : Int32)])) (((zs).tail).tail) h10 n0 Z10 V10 hn10 g_t (by first | (simp <;> omega) | omega) (by decide)) hZ (hw _ (List.mem_of_getElem? (i := 11) rfl)) (hw _ (List.mem_of_getElem? (i := 3) rfl)) (by decide) (by decide)) (g := (mkF m 149 #[.val (.ref t), .val (.int n'), .val (.int l'), .val (.int k), .val (.int ((n' + (1 : Int32)) + (1 : Int32)))] [(.int (10 : Int32)), (.int ((n' + (1 : Int32)) + (1 : Int32))), (.ref t)])) rfl (by rw [hml]; rfl) (argsL := [(.ref t), (.int ((n' + (1 : Int32)) + (1 : Int32))), (.int (10 : Int32))]) (rest := []) (lenOf own_pd0 rfl) rfl (by show 2 * 0 + _ ≤ _; exact Nat.le_of_eq rfl) (hb hby own_d2_149) (fun _ _ => ⟨rfl, e10, (by decide : 0 + 0 ≤ _), (by decide : 0 + 0 ≤ _)⟩)
              dsimp only [Pt.U, Pt.locs, Pt.cells, Pt.slots] at X11 l11 y11 z11 st11 hQ11
              subst l11 y11 z11
              obtain ⟨h11, e11⟩ : ∃ h, T11.heap = h := ⟨_, rfl⟩
              rw [e11] at hQ11
              obtain ⟨rfl, N11q, K11, V11⟩ := hQ11
              have N11 := Fr.app N10 N11q
              refine own_w (T' := T11) (g' := (mkF m 152 #[.val (.ref t), .val (.int n'), .val (.int l'), .val (.int k), .val (.int ((n' + (1 : Int32)) + (1 : Int32)))] [(.int (((n' + (1 : Int32)) + (1 : Int32)) + (1 : Int32)))])) st11 ?_
              have Z11 : n0 ≤ h11.size := Nat.le_trans Z10 K11.1
              have hn11 : (((n' + (1 : Int32)) + (1 : Int32)) + (1 : Int32)).toInt = (((((w ++ [l']) ++ [(10 : Int32)]) ++ [(10 : Int32)]).length : Nat) : Int) := by rw [own_n1 hn10 (by first | (simp <;> omega) | omega)]; simp <;> omega
              have KK11 := KK10.trans K11 (fun x hx => Or.inl hx)
              refine own_w (T' := T11) (g' := (mkF m 154 #[.val (.ref t), .val (.int n'), .val (.int l'), .val (.int k), .val (.int (((n' + (1 : Int32)) + (1 : Int32)) + (1 : Int32)))] [])) (fun _ k_ => XS.istore X11.here hx rfl (hb hby own_d2_152) rfl (l' := #[.val (.ref t), .val (.int n'), .val (.int l'), .val (.int k), .val (.int (((n' + (1 : Int32)) + (1 : Int32)) + (1 : Int32)))]) rfl k_) ?_
              refine own_w (T' := T11) (g' := (mkF m 193 #[.val (.ref t), .val (.int n'), .val (.int l'), .val (.int k), .val (.int (((n' + (1 : Int32)) + (1 : Int32)) + (1 : Int32)))] [])) (fun _ k_ => XS.goto X11.here hx rfl (pc0 := 154) (pc' := 193) rfl (hb hby own_d2_154) (by decide) (by decide) k_) ?_
              refine own_w (T' := T11) (g' := (mkF m 195 #[.val (.ref t), .val (.int n'), .val (.int l'), .val (.int k), .val (.int (((n' + (1 : Int32)) + (1 : Int32)) + (1 : Int32)))] [(.int (((n' + (1 : Int32)) + (1 : Int32)) + (1 : Int32)))])) (fun _ k_ => XS.iload X11.here hx rfl (hb hby own_d2_193) rfl k_) ?_
              have hbr : own_br k = [10, 10] := by simp [own_br, hc10, hc28, hc46, hc74, hc102, hc131]
              obtain ⟨fs, hr, hrun, hended, hW, hsame⟩ := X11.leave (v := some (.int (((n' + (1 : Int32)) + (1 : Int32)) + (1 : Int32)))) (fun h => by rw [Bd.returns] at h; cases h)
              exact ⟨_, _, retOut X11 hx Bd.returns rfl (Or.inl ⟨rfl, Or.inl rfl, _, rfl⟩) (hb hby own_d2_195) hr, hrun, hended, _, _, rfl, (by show own_Q2 Z t n' l' k w zs h0 n0 _ T11.heap _; rw [e11]; exact ⟨(by simp only [own_nx, hbr]; rfl), N11, KK11, (by have q := V11; simp only [hbr]; simpa [← List.drop_one, List.drop_drop] using q)⟩), ⟨_, rfl⟩, hW, hsame.mono (by decide) (by decide)⟩
            · refine own_w (T' := T1) (g' := (mkF m 157 #[.val (.ref t), .val (.int n'), .val (.int l'), .val (.int k), .val (.int (n' + (1 : Int32)))] [])) (fun _ k_ => XS.icmpYes X1.here hx rfl (pc0 := 131) (pc' := 157) rfl (hb hby own_d2_131) rfl (feq hc131).2 (by decide) (by decide) k_) ?_
              refine own_w (T' := T1) (g' := (mkF m 158 #[.val (.ref t), .val (.int n'), .val (.int l'), .val (.int k), .val (.int (n' + (1 : Int32)))] [(.int k)])) (fun _ k_ => XS.iloadN X1.here hx rfl (hb hby own_d2_157) rfl k_) ?_
              refine own_w (T' := T1) (g' := (mkF m 160 #[.val (.ref t), .val (.int n'), .val (.int l'), .val (.int k), .val (.int (n' + (1 : Int32)))] [(.int (7 : Int32)), (.int k)])) (fun _ k_ => XS.bipush X1.here hx rfl (hb hby own_d2_158) k_) ?_
              by_cases hc160 : k = (7 : Int32)
              · refine own_w (T' := T1) (g' := (mkF m 163 #[.val (.ref t), .val (.int n'), .val (.int l'), .val (.int k), .val (.int (n' + (1 : Int32)))] [])) (fun _ k_ => XS.icmpNo X1.here hx rfl (hb hby own_d2_160) rfl (teq hc160).2 k_) ?_
                refine own_w (T' := T1) (g' := (mkF m 164 #[.val (.ref t), .val (.int n'), .val (.int l'), .val (.int k), .val (.int (n' + (1 : Int32)))] [(.ref t)])) (fun _ k_ => XS.aloadN X1.here hx rfl (hb hby own_d2_163) rfl rfl k_) ?_
                refine own_w (T' := T1) (g' := (mkF m 166 #[.val (.ref t), .val (.int n'), .val (.int l'), .val (.int k), .val (.int (n' + (1 : Int32)))] [(.int (n' + (1 : Int32))), (.ref t)])) (fun _ k_ => XS.iload X1.here hx rfl (hb hby own_d2_164) rfl k_) ?_
                refine own_w (T' := T1) (g' := (mkF m 168 #[.val (.ref t), .val (.int n'), .val (.int l'), .val (.int k), .val (.int (n' + (1 : Int32)))] [(.int (13 : Int32)), (.int (n' + (1 : Int32))), (.ref t)])) (fun _ k_ => XS.bipush X1.here hx rfl (hb hby own_d2_166) k_) ?_
                obtain ⟨_, _, ⟨T12, L12, k12, n12⟩, -, X12, ⟨Lc12, hQ12, l12, y12, z12⟩, st12⟩ := Jvm.LawKit.callS X1 hx (y := (⟨"com/example/holdfast/holdfast/LineBreaksEndsPinLaw", "add", "([CIC)I"⟩ : MethodName)) hown (mvT hZ (hw _ (List.mem_of_getElem? (i := 9) rfl))) (mvT hZ (hw _ (List.mem_of_getElem? (i := 10) rfl))) (mvT hZ (hw _ (List.mem_of_getElem? (i := 3) rfl))) (mvT hZ (hw _ (List.mem_of_getElem? (i := 11) rfl))) (by decide) (backOf (W := 0) (own_rm3 l Z a0 hw [] t (n' + (1 : Int32)) (13 : Int32) ((w ++ [l'])) ((zs).tail) h1 n0 Z1 V1 hn1 g_t (by first | (simp <;> omega) | omega) (by decide)) hZ (hw _ (List.mem_of_getElem? (i := 11) rfl)) (hw _ (List.mem_of_getElem? (i := 3) rfl)) (by decide) (by decide)) (g := (mkF m 168 #[.val (.ref t), .val (.int n'), .val (.int l'), .val (.int k), .val (.int (n' + (1 : Int32)))] [(.int (13 : Int32)), (.int (n' + (1 : Int32))), (.ref t)])) rfl (by rw [hml]; rfl) (argsL := [(.ref t), (.int (n' + (1 : Int32))), (.int (13 : Int32))]) (rest := []) (lenOf own_pd0 rfl) rfl (by show 2 * 0 + _ ≤ _; exact Nat.le_of_eq rfl) (hb hby own_d2_168) (fun _ _ => ⟨rfl, e1, (by decide : 0 + 0 ≤ _), (by decide : 0 + 0 ≤ _)⟩)
                dsimp only [Pt.U, Pt.locs, Pt.cells, Pt.slots] at X12 l12 y12 z12 st12 hQ12
                subst l12 y12 z12
                obtain ⟨h12, e12⟩ : ∃ h, T12.heap = h := ⟨_, rfl⟩
                rw [e12] at hQ12
                obtain ⟨rfl, N12q, K12, V12⟩ := hQ12
                have N12 := Fr.app N1 N12q
                refine own_w (T' := T12) (g' := (mkF m 171 #[.val (.ref t), .val (.int n'), .val (.int l'), .val (.int k), .val (.int (n' + (1 : Int32)))] [(.int ((n' + (1 : Int32)) + (1 : Int32)))])) st12 ?_
                have Z12 : n0 ≤ h12.size := Nat.le_trans Z1 K12.1
                have hn12 : ((n' + (1 : Int32)) + (1 : Int32)).toInt = ((((w ++ [l']) ++ [(13 : Int32)]).length : Nat) : Int) := by rw [own_n1 hn1 (by first | (simp <;> omega) | omega)]; simp <;> omega
                have KK12 := KK1.trans K12 (fun x hx => Or.inl hx)
                refine own_w (T' := T12) (g' := (mkF m 173 #[.val (.ref t), .val (.int n'), .val (.int l'), .val (.int k), .val (.int ((n' + (1 : Int32)) + (1 : Int32)))] [])) (fun _ k_ => XS.istore X12.here hx rfl (hb hby own_d2_171) rfl (l' := #[.val (.ref t), .val (.int n'), .val (.int l'), .val (.int k), .val (.int ((n' + (1 : Int32)) + (1 : Int32)))]) rfl k_) ?_
                refine own_w (T' := T12) (g' := (mkF m 174 #[.val (.ref t), .val (.int n'), .val (.int l'), .val (.int k), .val (.int ((n' + (1 : Int32)) + (1 : Int32)))] [(.ref t)])) (fun _ k_ => XS.aloadN X12.here hx rfl (hb hby own_d2_173) rfl rfl k_) ?_
                refine own_w (T' := T12) (g' := (mkF m 176 #[.val (.ref t), .val (.int n'), .val (.int l'), .val (.int k), .val (.int ((n' + (1 : Int32)) + (1 : Int32)))] [(.int ((n' + (1 : Int32)) + (1 : Int32))), (.ref t)])) (fun _ k_ => XS.iload X12.here hx rfl (hb hby own_d2_174) rfl k_) ?_
                refine own_w (T' := T12) (g' := (mkF m 178 #[.val (.ref t), .val (.int n'), .val (.int l'), .val (.int k), .val (.int ((n' + (1 : Int32)) + (1 : Int32)))] [(.int (13 : Int32)), (.int ((n' + (1 : Int32)) + (1 : Int32))), (.ref t)])) (fun _ k_ => XS.bipush X12.here hx rfl (hb hby own_d2_176) k_) ?_
                obtain ⟨_, _, ⟨T13, L13, k13, n13⟩, -, X13, ⟨Lc13, hQ13, l13, y13, z13⟩, st13⟩ := Jvm.LawKit.callS X12 hx (y := (⟨"com/example/holdfast/holdfast/LineBreaksEndsPinLaw", "add", "([CIC)I"⟩ : MethodName)) hown (mvT hZ (hw _ (List.mem_of_getElem? (i := 9) rfl))) (mvT hZ (hw _ (List.mem_of_getElem? (i := 10) rfl))) (mvT hZ (hw _ (List.mem_of_getElem? (i := 3) rfl))) (mvT hZ (hw _ (List.mem_of_getElem? (i := 11) rfl))) (by decide) (backOf (W := 0) (own_rm3 l Z a0 hw [] t ((n' + (1 : Int32)) + (1 : Int32)) (13 : Int32) (((w ++ [l']) ++ [(13 : Int32)])) (((zs).tail).tail) h12 n0 Z12 V12 hn12 g_t (by first | (simp <;> omega) | omega) (by decide)) hZ (hw _ (List.mem_of_getElem? (i := 11) rfl)) (hw _ (List.mem_of_getElem? (i := 3) rfl)) (by decide) (by decide)) (g := (mkF m 178 #[.val (.ref t), .val (.int n'), .val (.int l'), .val (.int k), .val (.int ((n' + (1 : Int32)) + (1 : Int32)))] [(.int (13 : Int32)), (.int ((n' + (1 : Int32)) + (1 : Int32))), (.ref t)])) rfl (by rw [hml]; rfl) (argsL := [(.ref t), (.int ((n' + (1 : Int32)) + (1 : Int32))), (.int (13 : Int32))]) (rest := []) (lenOf own_pd0 rfl) rfl (by show 2 * 0 + _ ≤ _; exact Nat.le_of_eq rfl) (hb hby own_d2_178) (fun _ _ => ⟨rfl, e12, (by decide : 0 + 0 ≤ _), (by decide : 0 + 0 ≤ _)⟩)
                dsimp only [Pt.U, Pt.locs, Pt.cells, Pt.slots] at X13 l13 y13 z13 st13 hQ13
                subst l13 y13 z13
                obtain ⟨h13, e13⟩ : ∃ h, T13.heap = h := ⟨_, rfl⟩
                rw [e13] at hQ13
                obtain ⟨rfl, N13q, K13, V13⟩ := hQ13
                have N13 := Fr.app N12 N13q
                refine own_w (T' := T13) (g' := (mkF m 181 #[.val (.ref t), .val (.int n'), .val (.int l'), .val (.int k), .val (.int ((n' + (1 : Int32)) + (1 : Int32)))] [(.int (((n' + (1 : Int32)) + (1 : Int32)) + (1 : Int32)))])) st13 ?_
                have Z13 : n0 ≤ h13.size := Nat.le_trans Z12 K13.1
                have hn13 : (((n' + (1 : Int32)) + (1 : Int32)) + (1 : Int32)).toInt = (((((w ++ [l']) ++ [(13 : Int32)]) ++ [(13 : Int32)]).length : Nat) : Int) := by rw [own_n1 hn12 (by first | (simp <;> omega) | omega)]; simp <;> omega
                have KK13 := KK12.trans K13 (fun x hx => Or.inl hx)
                refine own_w (T' := T13) (g' := (mkF m 183 #[.val (.ref t), .val (.int n'), .val (.int l'), .val (.int k), .val (.int (((n' + (1 : Int32)) + (1 : Int32)) + (1 : Int32)))] [])) (fun _ k_ => XS.istore X13.here hx rfl (hb hby own_d2_181) rfl (l' := #[.val (.ref t), .val (.int n'), .val (.int l'), .val (.int k), .val (.int (((n' + (1 : Int32)) + (1 : Int32)) + (1 : Int32)))]) rfl k_) ?_
                refine own_w (T' := T13) (g' := (mkF m 184 #[.val (.ref t), .val (.int n'), .val (.int l'), .val (.int k), .val (.int (((n' + (1 : Int32)) + (1 : Int32)) + (1 : Int32)))] [(.ref t)])) (fun _ k_ => XS.aloadN X13.here hx rfl (hb hby own_d2_183) rfl rfl k_) ?_
                refine own_w (T' := T13) (g' := (mkF m 186 #[.val (.ref t), .val (.int n'), .val (.int l'), .val (.int k), .val (.int (((n' + (1 : Int32)) + (1 : Int32)) + (1 : Int32)))] [(.int (((n' + (1 : Int32)) + (1 : Int32)) + (1 : Int32))), (.ref t)])) (fun _ k_ => XS.iload X13.here hx rfl (hb hby own_d2_184) rfl k_) ?_
                refine own_w (T' := T13) (g' := (mkF m 188 #[.val (.ref t), .val (.int n'), .val (.int l'), .val (.int k), .val (.int (((n' + (1 : Int32)) + (1 : Int32)) + (1 : Int32)))] [(.int (10 : Int32)), (.int (((n' + (1 : Int32)) + (1 : Int32)) + (1 : Int32))), (.ref t)])) (fun _ k_ => XS.bipush X13.here hx rfl (hb hby own_d2_186) k_) ?_
                obtain ⟨_, _, ⟨T14, L14, k14, n14⟩, -, X14, ⟨Lc14, hQ14, l14, y14, z14⟩, st14⟩ := Jvm.LawKit.callS X13 hx (y := (⟨"com/example/holdfast/holdfast/LineBreaksEndsPinLaw", "add", "([CIC)I"⟩ : MethodName)) hown (mvT hZ (hw _ (List.mem_of_getElem? (i := 9) rfl))) (mvT hZ (hw _ (List.mem_of_getElem? (i := 10) rfl))) (mvT hZ (hw _ (List.mem_of_getElem? (i := 3) rfl))) (mvT hZ (hw _ (List.mem_of_getElem? (i := 11) rfl))) (by decide) (backOf (W := 0) (own_rm3 l Z a0 hw [] t (((n' + (1 : Int32)) + (1 : Int32)) + (1 : Int32)) (10 : Int32) ((((w ++ [l']) ++ [(13 : Int32)]) ++ [(13 : Int32)])) ((((zs).tail).tail).tail) h13 n0 Z13 V13 hn13 g_t (by first | (simp <;> omega) | omega) (by decide)) hZ (hw _ (List.mem_of_getElem? (i := 11) rfl)) (hw _ (List.mem_of_getElem? (i := 3) rfl)) (by decide) (by decide)) (g := (mkF m 188 #[.val (.ref t), .val (.int n'), .val (.int l'), .val (.int k), .val (.int (((n' + (1 : Int32)) + (1 : Int32)) + (1 : Int32)))] [(.int (10 : Int32)), (.int (((n' + (1 : Int32)) + (1 : Int32)) + (1 : Int32))), (.ref t)])) rfl (by rw [hml]; rfl) (argsL := [(.ref t), (.int (((n' + (1 : Int32)) + (1 : Int32)) + (1 : Int32))), (.int (10 : Int32))]) (rest := []) (lenOf own_pd0 rfl) rfl (by show 2 * 0 + _ ≤ _; exact Nat.le_of_eq rfl) (hb hby own_d2_188) (fun _ _ => ⟨rfl, e13, (by decide : 0 + 0 ≤ _), (by decide : 0 + 0 ≤ _)⟩)
                dsimp only [Pt.U, Pt.locs, Pt.cells, Pt.slots] at X14 l14 y14 z14 st14 hQ14
                subst l14 y14 z14
                obtain ⟨h14, e14⟩ : ∃ h, T14.heap = h := ⟨_, rfl⟩
                rw [e14] at hQ14
                obtain ⟨rfl, N14q, K14, V14⟩ := hQ14
                have N14 := Fr.app N13 N14q
                refine own_w (T' := T14) (g' := (mkF m 191 #[.val (.ref t), .val (.int n'), .val (.int l'), .val (.int k), .val (.int (((n' + (1 : Int32)) + (1 : Int32)) + (1 : Int32)))] [(.int ((((n' + (1 : Int32)) + (1 : Int32)) + (1 : Int32)) + (1 : Int32)))])) st14 ?_
                have Z14 : n0 ≤ h14.size := Nat.le_trans Z13 K14.1
                have hn14 : ((((n' + (1 : Int32)) + (1 : Int32)) + (1 : Int32)) + (1 : Int32)).toInt = ((((((w ++ [l']) ++ [(13 : Int32)]) ++ [(13 : Int32)]) ++ [(10 : Int32)]).length : Nat) : Int) := by rw [own_n1 hn13 (by first | (simp <;> omega) | omega)]; simp <;> omega
                have KK14 := KK13.trans K14 (fun x hx => Or.inl hx)
                refine own_w (T' := T14) (g' := (mkF m 193 #[.val (.ref t), .val (.int n'), .val (.int l'), .val (.int k), .val (.int ((((n' + (1 : Int32)) + (1 : Int32)) + (1 : Int32)) + (1 : Int32)))] [])) (fun _ k_ => XS.istore X14.here hx rfl (hb hby own_d2_191) rfl (l' := #[.val (.ref t), .val (.int n'), .val (.int l'), .val (.int k), .val (.int ((((n' + (1 : Int32)) + (1 : Int32)) + (1 : Int32)) + (1 : Int32)))]) rfl k_) ?_
                refine own_w (T' := T14) (g' := (mkF m 195 #[.val (.ref t), .val (.int n'), .val (.int l'), .val (.int k), .val (.int ((((n' + (1 : Int32)) + (1 : Int32)) + (1 : Int32)) + (1 : Int32)))] [(.int ((((n' + (1 : Int32)) + (1 : Int32)) + (1 : Int32)) + (1 : Int32)))])) (fun _ k_ => XS.iload X14.here hx rfl (hb hby own_d2_193) rfl k_) ?_
                have hbr : own_br k = [13, 13, 10] := by simp [own_br, hc10, hc28, hc46, hc74, hc102, hc131, hc160]
                obtain ⟨fs, hr, hrun, hended, hW, hsame⟩ := X14.leave (v := some (.int ((((n' + (1 : Int32)) + (1 : Int32)) + (1 : Int32)) + (1 : Int32)))) (fun h => by rw [Bd.returns] at h; cases h)
                exact ⟨_, _, retOut X14 hx Bd.returns rfl (Or.inl ⟨rfl, Or.inl rfl, _, rfl⟩) (hb hby own_d2_195) hr, hrun, hended, _, _, rfl, (by show own_Q2 Z t n' l' k w zs h0 n0 _ T14.heap _; rw [e14]; exact ⟨(by simp only [own_nx, hbr]; rfl), N14, KK14, (by have q := V14; simp only [hbr]; simpa [← List.drop_one, List.drop_drop] using q)⟩), ⟨_, rfl⟩, hW, hsame.mono (by decide) (by decide)⟩
              · refine own_w (T' := T1) (g' := (mkF m 193 #[.val (.ref t), .val (.int n'), .val (.int l'), .val (.int k), .val (.int (n' + (1 : Int32)))] [])) (fun _ k_ => XS.icmpYes X1.here hx rfl (pc0 := 160) (pc' := 193) rfl (hb hby own_d2_160) rfl (feq hc160).2 (by decide) (by decide) k_) ?_
                refine own_w (T' := T1) (g' := (mkF m 195 #[.val (.ref t), .val (.int n'), .val (.int l'), .val (.int k), .val (.int (n' + (1 : Int32)))] [(.int (n' + (1 : Int32)))])) (fun _ k_ => XS.iload X1.here hx rfl (hb hby own_d2_193) rfl k_) ?_
                have hbr : own_br k = [] := by simp [own_br, hc10, hc28, hc46, hc74, hc102, hc131, hc160]
                obtain ⟨fs, hr, hrun, hended, hW, hsame⟩ := X1.leave (v := some (.int (n' + (1 : Int32)))) (fun h => by rw [Bd.returns] at h; cases h)
                exact ⟨_, _, retOut X1 hx Bd.returns rfl (Or.inl ⟨rfl, Or.inl rfl, _, rfl⟩) (hb hby own_d2_195) hr, hrun, hended, _, _, rfl, (by show own_Q2 Z t n' l' k w zs h0 n0 _ T1.heap _; rw [e1]; exact ⟨(by simp only [own_nx, hbr]; rfl), N1, KK1, (by have q := V1; simp only [hbr]; simpa [← List.drop_one, List.drop_drop] using q)⟩), ⟨_, rfl⟩, hW, hsame.mono (by decide) (by decide)⟩
theorem own_lt2 {x y : Int32} {a b : Nat} (hx : x.toInt = (a : Int)) (hy : y.toInt = (b : Int)) : x < y ↔ a < b := by
  rw [Int32.lt_iff_toInt_lt, hx, hy]; omega
theorem own_gd {w zs : List Int32} {i : Nat} (h : i < w.length) : (w ++ zs)[i]? = some (w.getD i 0) := by
  rw [List.getElem?_append_left h, List.getD_eq_getElem?_getD, List.getElem?_eq_getElem h]; rfl
theorem own_d5_0 : decode method_7_code 0 = .ok (.iload_n 2, 1) := by decide +kernel
theorem own_d5_1 : decode method_7_code 1 = .ok (.iload_n 1, 1) := by decide +kernel
theorem own_d5_2 : decode method_7_code 2 = .ok (.if_icmp .lt 5, 3) := by decide +kernel
theorem own_e_ne {c n : Int32} (h : ¬ own_e c n = 0) : own_e c n = 1 := by
  unfold own_e at *
  split
  · rfl
  · rename_i q; rw [if_neg q] at h; exact absurd rfl h
theorem own_d5_7 : decode method_7_code 7 = .ok (.iload_n 2, 1) := by decide +kernel
theorem own_d5_8 : decode method_7_code 8 = .ok (.iconst 1, 1) := by decide +kernel
theorem own_d5_9 : decode method_7_code 9 = .ok (.iadd, 1) := by decide +kernel
theorem own_d5_10 : decode method_7_code 10 = .ok (.iload_n 1, 1) := by decide +kernel
theorem own_d5_11 : decode method_7_code 11 = .ok (.if_icmp .ge 11, 3) := by decide +kernel
theorem own_d5_14 : decode method_7_code 14 = .ok (.aload_n 0, 1) := by decide +kernel
theorem own_d5_15 : decode method_7_code 15 = .ok (.iload_n 2, 1) := by decide +kernel
theorem own_d5_16 : decode method_7_code 16 = .ok (.iconst 1, 1) := by decide +kernel
theorem own_d5_17 : decode method_7_code 17 = .ok (.iadd, 1) := by decide +kernel
theorem own_d5_18 : decode method_7_code 18 = .ok (.caload, 1) := by decide +kernel
theorem own_d5_19 : decode method_7_code 19 = .ok (.goto 4, 3) := by decide +kernel
theorem own_d5_23 : decode method_7_code 23 = .ok (.istore_n 3, 1) := by decide +kernel
theorem own_d5_24 : decode method_7_code 24 = .ok (.aload_n 0, 1) := by decide +kernel
theorem own_d5_25 : decode method_7_code 25 = .ok (.iload_n 2, 1) := by decide +kernel
theorem own_d5_26 : decode method_7_code 26 = .ok (.caload, 1) := by decide +kernel
theorem own_d5_27 : decode method_7_code 27 = .ok (.iload_n 3, 1) := by decide +kernel
theorem own_d5_28 : decode method_7_code 28 = .ok (.invokestatic 25, 3) := by decide +kernel
theorem own_pd1 : parseMethodDescriptor "(II)Z" = some ⟨[.int, .int], some .boolean⟩ := by decide +kernel
theorem own_d5_31 : decode method_7_code 31 = .ok (.ifCond .eq 7, 3) := by decide +kernel
theorem own_d5_38 : decode method_7_code 38 = .ok (.iconst 0, 1) := by decide +kernel
theorem own_d5_39 : decode method_7_code 39 = .ok (.ireturn, 1) := by decide +kernel
theorem own_d5_34 : decode method_7_code 34 = .ok (.iconst 1, 1) := by decide +kernel
theorem own_d5_35 : decode method_7_code 35 = .ok (.goto 4, 3) := by decide +kernel
theorem own_d5_22 : decode method_7_code 22 = .ok (.iconst (-1), 1) := by decide +kernel
theorem own_d5_5 : decode method_7_code 5 = .ok (.iconst 0, 1) := by decide +kernel
theorem own_d5_6 : decode method_7_code 6 = .ok (.ireturn, 1) := by decide +kernel
theorem own_rm5_ef (m : MethodId) (t : Addr) (n' : Int32) (i' : Int32) : entryFrame m #[(.ref t), (.int n'), (.int i')] 4 = mkF m 0 #[.val (.ref t), .val (.int n'), .val (.int i'), .unset] [] := by first | (simp [entryFrame, mkF, argsToLocals, Value.category]; done) | rfl
def own_Q5 (Z : State) (t : Addr) (n' : Int32) (i' : Int32) (w : List Int32) (zs : List Int32) (I : Nat) (h0 : Heap) (n0 : Nat) (v_ : Option Value) (h : Heap) (L_ : List Loc) : Prop := v_ = some (.int (own_at w I)) ∧ Fr n0 L_ ∧ (h = h0)
set_option maxRecDepth 65536 in
set_option maxHeartbeats 40000000 in
theorem own_rm5 (l : Launch) (Z : State) (a0 : Array Value) (hw : ∀ d ∈ tables_1, d.before a0 Z = true) (ws : List Jvm.Cond) (t : Addr) (n' : Int32) (i' : Int32) (w : List Int32) (zs : List Int32) (I : Nat) (h0 : Heap) (n0 : Nat) (Z0 : n0 ≤ h0.size) (V : own_Ar Z h0 t .char (w ++ zs)) (hn : n'.toInt = (w.length : Int)) (hi : i'.toInt = (I : Int)) (hI : I < 100) :
    MetFree l (⟨"com/example/holdfast/holdfast/LineBreaksEndsPinLaw", "at", "([CII)I"⟩ : MethodName) (head1 (Jvm.Cond.code (⟨"com/example/holdfast/holdfast/LineBreaksEndsPinLaw", "at", "([CII)I"⟩ : MethodName) method_7_code 4 (some .int) :: ws) ({ frames := 1, cells := 0, slots := 0, locals := 13 } : Room)) (fun a_ U_ => a_ = #[(.ref t), (.int n'), (.int i')] ∧ Z.Warmed39 U_.vm ∧ U_.heap = h0) (fun _ _ _ _ _ => True) (fun _ U_ o_ V_ => ∃ v_ L_, o_ = .returned v_ ∧ own_Q5 Z t n' i' w zs I h0 n0 v_ V_.heap L_ ∧ FrameEnd U_ o_ V_ L_ ({ frames := 1, cells := 0, slots := 0, locals := 13 } : Room).cells ({ frames := 1, cells := 0, slots := 0, locals := 13 } : Room).slots) := by
  refine MetFree.of_bodySF (plainFor_of_name own_pn_com_example_holdfast_holdfast_LineBreaksEndsPinLaw) hisR ?_
  intro p e s m args below meth c s₁ Bd hml0 hP hK
  obtain ⟨rfl, hZ, hh⟩ := hP
  have hx := Bd.exec
  have hby := Bd.bytes
  have hml : c.maxLocals = 4 := hml0
  have hown : s.vm.findClass "com/example/holdfast/holdfast/LineBreaksEndsPinLaw" = some m.cls := findClass_of_methodNamed Bd.named
  have hnm := (name_of_methodNamed Bd.named Bd.method).1
  have X0 : Stand p l e ({ frames := 1, cells := 0, slots := 0, locals := 13 } : Room) s m #[(.ref t), (.int n'), (.int i')] below meth c s₁ [] 0 0 := Stand.of_body Bd
  have e0 : s₁.heap = h0 := by rw [← hh, Bd.state]; rfl
  have N0 := Fr.nil n0
  show own_G p e below s (own_Q5 Z t n' i' w zs I h0 n0) ({ frames := 1, cells := 0, slots := 0, locals := 13 } : Room).cells ({ frames := 1, cells := 0, slots := 0, locals := 13 } : Room).slots s₁ (entryFrame m #[(.ref t), (.int n'), (.int i')] 4)
  rw [own_rm5_ef]
  refine own_w (T' := s₁) (g' := (mkF m 1 #[.val (.ref t), .val (.int n'), .val (.int i'), .unset] [(.int i')])) (fun _ k_ => XS.iloadN X0.here hx rfl (hb hby own_d5_0) rfl k_) ?_
  refine own_w (T' := s₁) (g' := (mkF m 2 #[.val (.ref t), .val (.int n'), .val (.int i'), .unset] [(.int n'), (.int i')])) (fun _ k_ => XS.iloadN X0.here hx rfl (hb hby own_d5_1) rfl k_) ?_
  by_cases hc2 : i' < n'
  · refine own_w (T' := s₁) (g' := (mkF m 7 #[.val (.ref t), .val (.int n'), .val (.int i'), .unset] [])) (fun _ k_ => XS.icmpYes X0.here hx rfl (pc0 := 2) (pc' := 7) rfl (hb hby own_d5_2) rfl (tlt hc2).1 (by decide) (by decide) k_) ?_
    refine own_w (T' := s₁) (g' := (mkF m 8 #[.val (.ref t), .val (.int n'), .val (.int i'), .unset] [(.int i')])) (fun _ k_ => XS.iloadN X0.here hx rfl (hb hby own_d5_7) rfl k_) ?_
    refine own_w (T' := s₁) (g' := (mkF m 9 #[.val (.ref t), .val (.int n'), .val (.int i'), .unset] [(.int (1 : Int32)), (.int i')])) (fun _ k_ => XS.iconst X0.here hx rfl (hb hby own_d5_8) k_) ?_
    refine own_w (T' := s₁) (g' := (mkF m 10 #[.val (.ref t), .val (.int n'), .val (.int i'), .unset] [(.int (i' + (1 : Int32)))])) (fun _ k_ => XS.iadd X0.here hx rfl (hb hby own_d5_9) rfl k_) ?_
    refine own_w (T' := s₁) (g' := (mkF m 11 #[.val (.ref t), .val (.int n'), .val (.int i'), .unset] [(.int n'), (.int (i' + (1 : Int32)))])) (fun _ k_ => XS.iloadN X0.here hx rfl (hb hby own_d5_10) rfl k_) ?_
    have hi1 : (i' + (1 : Int32)).toInt = ((I + 1 : Nat) : Int) := own_n1 hi (by omega)
    by_cases hc11 : (i' + (1 : Int32)) < n'
    · refine own_w (T' := s₁) (g' := (mkF m 14 #[.val (.ref t), .val (.int n'), .val (.int i'), .unset] [])) (fun _ k_ => XS.icmpNo X0.here hx rfl (hb hby own_d5_11) rfl (tlt hc11).2.1 k_) ?_
      have hI1 := (own_lt2 hi1 hn).mp hc11
      refine own_w (T' := s₁) (g' := (mkF m 15 #[.val (.ref t), .val (.int n'), .val (.int i'), .unset] [(.ref t)])) (fun _ k_ => XS.aloadN X0.here hx rfl (hb hby own_d5_14) rfl rfl k_) ?_
      refine own_w (T' := s₁) (g' := (mkF m 16 #[.val (.ref t), .val (.int n'), .val (.int i'), .unset] [(.int i'), (.ref t)])) (fun _ k_ => XS.iloadN X0.here hx rfl (hb hby own_d5_15) rfl k_) ?_
      refine own_w (T' := s₁) (g' := (mkF m 17 #[.val (.ref t), .val (.int n'), .val (.int i'), .unset] [(.int (1 : Int32)), (.int i'), (.ref t)])) (fun _ k_ => XS.iconst X0.here hx rfl (hb hby own_d5_16) k_) ?_
      refine own_w (T' := s₁) (g' := (mkF m 18 #[.val (.ref t), .val (.int n'), .val (.int i'), .unset] [(.int (i' + (1 : Int32))), (.ref t)])) (fun _ k_ => XS.iadd X0.here hx rfl (hb hby own_d5_17) rfl k_) ?_
      obtain ⟨cl1, Ar1, hs1⟩ := id V
      refine own_w (T' := s₁) (g' := (mkF m 19 #[.val (.ref t), .val (.int n'), .val (.int i'), .unset] [(.int (w.getD (I + 1) 0))])) (fun t_ k_ => X0.caload hx (j := (i' + (1 : Int32))) (v := .int (w.getD (I + 1) 0)) (by rw [e0]; exact Ar1.1) (State.isArrayOf_alike hZ.alike Ar1.2.1) Ar1.2.2 (own_Ar_in hs1 hi1 (own_get_lt (show _ = some (w.getD (I + 1) 0) from (own_gd hI1)))) (own_Ar_at hs1 hi1 (show _ = some (w.getD (I + 1) 0) from (own_gd hI1))) (g := (mkF m 18 #[.val (.ref t), .val (.int n'), .val (.int i'), .unset] [(.int (i' + (1 : Int32))), (.ref t)])) rfl rfl (hb hby own_d5_18) t_ k_) ?_
      refine own_w (T' := s₁) (g' := (mkF m 23 #[.val (.ref t), .val (.int n'), .val (.int i'), .unset] [(.int (w.getD (I + 1) 0))])) (fun _ k_ => XS.goto X0.here hx rfl (pc0 := 19) (pc' := 23) rfl (hb hby own_d5_19) (by decide) (by decide) k_) ?_
      refine own_w (T' := s₁) (g' := (mkF m 24 #[.val (.ref t), .val (.int n'), .val (.int i'), .val (.int (w.getD (I + 1) 0))] [])) (fun _ k_ => XS.istoreN X0.here hx rfl (hb hby own_d5_23) rfl (l' := #[.val (.ref t), .val (.int n'), .val (.int i'), .val (.int (w.getD (I + 1) 0))]) rfl k_) ?_
      refine own_w (T' := s₁) (g' := (mkF m 25 #[.val (.ref t), .val (.int n'), .val (.int i'), .val (.int (w.getD (I + 1) 0))] [(.ref t)])) (fun _ k_ => XS.aloadN X0.here hx rfl (hb hby own_d5_24) rfl rfl k_) ?_
      refine own_w (T' := s₁) (g' := (mkF m 26 #[.val (.ref t), .val (.int n'), .val (.int i'), .val (.int (w.getD (I + 1) 0))] [(.int i'), (.ref t)])) (fun _ k_ => XS.iloadN X0.here hx rfl (hb hby own_d5_25) rfl k_) ?_
      have hI0 := (own_lt2 hi hn).mp hc2
      obtain ⟨cl2, Ar2, hs2⟩ := id V
      refine own_w (T' := s₁) (g' := (mkF m 27 #[.val (.ref t), .val (.int n'), .val (.int i'), .val (.int (w.getD (I + 1) 0))] [(.int (w.getD I 0))])) (fun t_ k_ => X0.caload hx (j := i') (v := .int (w.getD I 0)) (by rw [e0]; exact Ar2.1) (State.isArrayOf_alike hZ.alike Ar2.2.1) Ar2.2.2 (own_Ar_in hs2 hi (own_get_lt (show _ = some (w.getD I 0) from (own_gd hI0)))) (own_Ar_at hs2 hi (show _ = some (w.getD I 0) from (own_gd hI0))) (g := (mkF m 26 #[.val (.ref t), .val (.int n'), .val (.int i'), .val (.int (w.getD (I + 1) 0))] [(.int i'), (.ref t)])) rfl rfl (hb hby own_d5_26) t_ k_) ?_
      refine own_w (T' := s₁) (g' := (mkF m 28 #[.val (.ref t), .val (.int n'), .val (.int i'), .val (.int (w.getD (I + 1) 0))] [(.int (w.getD (I + 1) 0)), (.int (w.getD I 0))])) (fun _ k_ => XS.iloadN X0.here hx rfl (hb hby own_d5_27) rfl k_) ?_
      obtain ⟨_, _, ⟨T3, L3, k3, n3⟩, -, X3, ⟨Lc3, hQ3, l3, y3, z3⟩, st3⟩ := Jvm.LawKit.callS X0 hx (y := (⟨"com/example/holdfast/holdfast/LineBreaks", "ends", "(II)Z"⟩ : MethodName)) hown (mvT hZ (hw _ (List.mem_of_getElem? (i := 18) rfl))) (mvT hZ (hw _ (List.mem_of_getElem? (i := 19) rfl))) (mvT hZ (hw _ (List.mem_of_getElem? (i := 20) rfl))) (mvT hZ (hw _ (List.mem_of_getElem? (i := 21) rfl))) (by decide) (backOf (W := 0) (own_rm6 l Z a0 hw [] (w.getD I 0) (w.getD (I + 1) 0)  h0 n0 Z0 ) hZ (hw _ (List.mem_of_getElem? (i := 21) rfl)) (hw _ (List.mem_of_getElem? (i := 20) rfl)) (by decide) (by decide)) (g := (mkF m 28 #[.val (.ref t), .val (.int n'), .val (.int i'), .val (.int (w.getD (I + 1) 0))] [(.int (w.getD (I + 1) 0)), (.int (w.getD I 0))])) rfl (by rw [hml]; rfl) (argsL := [(.int (w.getD I 0)), (.int (w.getD (I + 1) 0))]) (rest := []) (lenOf own_pd1 rfl) rfl (by show 2 * 0 + _ ≤ _; exact Nat.le_of_eq rfl) (hb hby own_d5_28) (fun _ _ => ⟨rfl, e0, (by decide : 0 + 0 ≤ _), (by decide : 0 + 0 ≤ _)⟩)
      dsimp only [Pt.U, Pt.locs, Pt.cells, Pt.slots] at X3 l3 y3 z3 st3 hQ3
      subst l3 y3 z3
      obtain ⟨rfl, N3q, e3⟩ := hQ3
      have N3 := Fr.app N0 N3q
      refine own_w (T' := T3) (g' := (mkF m 31 #[.val (.ref t), .val (.int n'), .val (.int i'), .val (.int (w.getD (I + 1) 0))] [(.int (own_e (w.getD I 0) (w.getD (I + 1) 0)))])) st3 ?_
      by_cases hc31 : (own_e (w.getD I 0) (w.getD (I + 1) 0)) = (0 : Int32)
      · refine own_w (T' := T3) (g' := (mkF m 38 #[.val (.ref t), .val (.int n'), .val (.int i'), .val (.int (w.getD (I + 1) 0))] [])) (fun _ k_ => XS.ifYes X3.here hx rfl (pc0 := 31) (pc' := 38) rfl (hb hby own_d5_31) rfl ((if0 _ _).trans (teq hc31).1) (by decide) (by decide) k_) ?_
        refine own_w (T' := T3) (g' := (mkF m 39 #[.val (.ref t), .val (.int n'), .val (.int i'), .val (.int (w.getD (I + 1) 0))] [(.int (0 : Int32))])) (fun _ k_ => XS.iconst X3.here hx rfl (hb hby own_d5_38) k_) ?_
        obtain ⟨fs, hr, hrun, hended, hW, hsame⟩ := X3.leave (v := some (.int (0 : Int32))) (fun h => by rw [Bd.returns] at h; cases h)
        exact ⟨_, _, retOut X3 hx Bd.returns rfl (Or.inl ⟨rfl, Or.inl rfl, _, rfl⟩) (hb hby own_d5_39) hr, hrun, hended, _, _, rfl, (by show own_Q5 Z t n' i' w zs I h0 n0 _ T3.heap _; rw [e3]; exact ⟨(by rw [own_at, if_pos ((own_lt2 hi hn).mp hc2), if_pos hI1]; exact congrArg _ (congrArg _ hc31.symm)), N3, rfl⟩), ⟨_, rfl⟩, hW, hsame.mono (by decide) (by decide)⟩
      · refine own_w (T' := T3) (g' := (mkF m 34 #[.val (.ref t), .val (.int n'), .val (.int i'), .val (.int (w.getD (I + 1) 0))] [])) (fun _ k_ => XS.ifNo X3.here hx rfl (hb hby own_d5_31) rfl ((if0 _ _).trans (feq hc31).1) k_) ?_
        refine own_w (T' := T3) (g' := (mkF m 35 #[.val (.ref t), .val (.int n'), .val (.int i'), .val (.int (w.getD (I + 1) 0))] [(.int (1 : Int32))])) (fun _ k_ => XS.iconst X3.here hx rfl (hb hby own_d5_34) k_) ?_
        refine own_w (T' := T3) (g' := (mkF m 39 #[.val (.ref t), .val (.int n'), .val (.int i'), .val (.int (w.getD (I + 1) 0))] [(.int (1 : Int32))])) (fun _ k_ => XS.goto X3.here hx rfl (pc0 := 35) (pc' := 39) rfl (hb hby own_d5_35) (by decide) (by decide) k_) ?_
        obtain ⟨fs, hr, hrun, hended, hW, hsame⟩ := X3.leave (v := some (.int (1 : Int32))) (fun h => by rw [Bd.returns] at h; cases h)
        exact ⟨_, _, retOut X3 hx Bd.returns rfl (Or.inl ⟨rfl, Or.inl rfl, _, rfl⟩) (hb hby own_d5_39) hr, hrun, hended, _, _, rfl, (by show own_Q5 Z t n' i' w zs I h0 n0 _ T3.heap _; rw [e3]; exact ⟨(by rw [own_at, if_pos ((own_lt2 hi hn).mp hc2), if_pos hI1]; rw [own_e_ne hc31]), N3, rfl⟩), ⟨_, rfl⟩, hW, hsame.mono (by decide) (by decide)⟩
    · refine own_w (T' := s₁) (g' := (mkF m 22 #[.val (.ref t), .val (.int n'), .val (.int i'), .unset] [])) (fun _ k_ => XS.icmpYes X0.here hx rfl (pc0 := 11) (pc' := 22) rfl (hb hby own_d5_11) rfl (flt hc11).2.1 (by decide) (by decide) k_) ?_
      have hI1 : ¬ I + 1 < w.length := fun q => hc11 ((own_lt2 hi1 hn).mpr q)
      refine own_w (T' := s₁) (g' := (mkF m 23 #[.val (.ref t), .val (.int n'), .val (.int i'), .unset] [(.int (-1 : Int32))])) (fun _ k_ => XS.iconst X0.here hx rfl (hb hby own_d5_22) k_) ?_
      refine own_w (T' := s₁) (g' := (mkF m 24 #[.val (.ref t), .val (.int n'), .val (.int i'), .val (.int (-1 : Int32))] [])) (fun _ k_ => XS.istoreN X0.here hx rfl (hb hby own_d5_23) rfl (l' := #[.val (.ref t), .val (.int n'), .val (.int i'), .val (.int (-1 : Int32))]) rfl k_) ?_
      refine own_w (T' := s₁) (g' := (mkF m 25 #[.val (.ref t), .val (.int n'), .val (.int i'), .val (.int (-1 : Int32))] [(.ref t)])) (fun _ k_ => XS.aloadN X0.here hx rfl (hb hby own_d5_24) rfl rfl k_) ?_
      refine own_w (T' := s₁) (g' := (mkF m 26 #[.val (.ref t), .val (.int n'), .val (.int i'), .val (.int (-1 : Int32))] [(.int i'), (.ref t)])) (fun _ k_ => XS.iloadN X0.here hx rfl (hb hby own_d5_25) rfl k_) ?_
      have hI0 := (own_lt2 hi hn).mp hc2
      obtain ⟨cl4, Ar4, hs4⟩ := id V
      refine own_w (T' := s₁) (g' := (mkF m 27 #[.val (.ref t), .val (.int n'), .val (.int i'), .val (.int (-1 : Int32))] [(.int (w.getD I 0))])) (fun t_ k_ => X0.caload hx (j := i') (v := .int (w.getD I 0)) (by rw [e0]; exact Ar4.1) (State.isArrayOf_alike hZ.alike Ar4.2.1) Ar4.2.2 (own_Ar_in hs4 hi (own_get_lt (show _ = some (w.getD I 0) from (own_gd hI0)))) (own_Ar_at hs4 hi (show _ = some (w.getD I 0) from (own_gd hI0))) (g := (mkF m 26 #[.val (.ref t), .val (.int n'), .val (.int i'), .val (.int (-1 : Int32))] [(.int i'), (.ref t)])) rfl rfl (hb hby own_d5_26) t_ k_) ?_
      refine own_w (T' := s₁) (g' := (mkF m 28 #[.val (.ref t), .val (.int n'), .val (.int i'), .val (.int (-1 : Int32))] [(.int (-1 : Int32)), (.int (w.getD I 0))])) (fun _ k_ => XS.iloadN X0.here hx rfl (hb hby own_d5_27) rfl k_) ?_
      obtain ⟨_, _, ⟨T5, L5, k5, n5⟩, -, X5, ⟨Lc5, hQ5, l5, y5, z5⟩, st5⟩ := Jvm.LawKit.callS X0 hx (y := (⟨"com/example/holdfast/holdfast/LineBreaks", "ends", "(II)Z"⟩ : MethodName)) hown (mvT hZ (hw _ (List.mem_of_getElem? (i := 18) rfl))) (mvT hZ (hw _ (List.mem_of_getElem? (i := 19) rfl))) (mvT hZ (hw _ (List.mem_of_getElem? (i := 20) rfl))) (mvT hZ (hw _ (List.mem_of_getElem? (i := 21) rfl))) (by decide) (backOf (W := 0) (own_rm6 l Z a0 hw [] (w.getD I 0) (-1 : Int32)  h0 n0 Z0 ) hZ (hw _ (List.mem_of_getElem? (i := 21) rfl)) (hw _ (List.mem_of_getElem? (i := 20) rfl)) (by decide) (by decide)) (g := (mkF m 28 #[.val (.ref t), .val (.int n'), .val (.int i'), .val (.int (-1 : Int32))] [(.int (-1 : Int32)), (.int (w.getD I 0))])) rfl (by rw [hml]; rfl) (argsL := [(.int (w.getD I 0)), (.int (-1 : Int32))]) (rest := []) (lenOf own_pd1 rfl) rfl (by show 2 * 0 + _ ≤ _; exact Nat.le_of_eq rfl) (hb hby own_d5_28) (fun _ _ => ⟨rfl, e0, (by decide : 0 + 0 ≤ _), (by decide : 0 + 0 ≤ _)⟩)
      dsimp only [Pt.U, Pt.locs, Pt.cells, Pt.slots] at X5 l5 y5 z5 st5 hQ5
      subst l5 y5 z5
      obtain ⟨rfl, N5q, e5⟩ := hQ5
      have N5 := Fr.app N0 N5q
      refine own_w (T' := T5) (g' := (mkF m 31 #[.val (.ref t), .val (.int n'), .val (.int i'), .val (.int (-1 : Int32))] [(.int (own_e (w.getD I 0) (-1 : Int32)))])) st5 ?_
      by_cases hc31 : (own_e (w.getD I 0) (-1 : Int32)) = (0 : Int32)
      · refine own_w (T' := T5) (g' := (mkF m 38 #[.val (.ref t), .val (.int n'), .val (.int i'), .val (.int (-1 : Int32))] [])) (fun _ k_ => XS.ifYes X5.here hx rfl (pc0 := 31) (pc' := 38) rfl (hb hby own_d5_31) rfl ((if0 _ _).trans (teq hc31).1) (by decide) (by decide) k_) ?_
        refine own_w (T' := T5) (g' := (mkF m 39 #[.val (.ref t), .val (.int n'), .val (.int i'), .val (.int (-1 : Int32))] [(.int (0 : Int32))])) (fun _ k_ => XS.iconst X5.here hx rfl (hb hby own_d5_38) k_) ?_
        obtain ⟨fs, hr, hrun, hended, hW, hsame⟩ := X5.leave (v := some (.int (0 : Int32))) (fun h => by rw [Bd.returns] at h; cases h)
        exact ⟨_, _, retOut X5 hx Bd.returns rfl (Or.inl ⟨rfl, Or.inl rfl, _, rfl⟩) (hb hby own_d5_39) hr, hrun, hended, _, _, rfl, (by show own_Q5 Z t n' i' w zs I h0 n0 _ T5.heap _; rw [e5]; exact ⟨(by rw [own_at, if_pos ((own_lt2 hi hn).mp hc2), if_neg hI1]; exact congrArg _ (congrArg _ hc31.symm)), N5, rfl⟩), ⟨_, rfl⟩, hW, hsame.mono (by decide) (by decide)⟩
      · refine own_w (T' := T5) (g' := (mkF m 34 #[.val (.ref t), .val (.int n'), .val (.int i'), .val (.int (-1 : Int32))] [])) (fun _ k_ => XS.ifNo X5.here hx rfl (hb hby own_d5_31) rfl ((if0 _ _).trans (feq hc31).1) k_) ?_
        refine own_w (T' := T5) (g' := (mkF m 35 #[.val (.ref t), .val (.int n'), .val (.int i'), .val (.int (-1 : Int32))] [(.int (1 : Int32))])) (fun _ k_ => XS.iconst X5.here hx rfl (hb hby own_d5_34) k_) ?_
        refine own_w (T' := T5) (g' := (mkF m 39 #[.val (.ref t), .val (.int n'), .val (.int i'), .val (.int (-1 : Int32))] [(.int (1 : Int32))])) (fun _ k_ => XS.goto X5.here hx rfl (pc0 := 35) (pc' := 39) rfl (hb hby own_d5_35) (by decide) (by decide) k_) ?_
        obtain ⟨fs, hr, hrun, hended, hW, hsame⟩ := X5.leave (v := some (.int (1 : Int32))) (fun h => by rw [Bd.returns] at h; cases h)
        exact ⟨_, _, retOut X5 hx Bd.returns rfl (Or.inl ⟨rfl, Or.inl rfl, _, rfl⟩) (hb hby own_d5_39) hr, hrun, hended, _, _, rfl, (by show own_Q5 Z t n' i' w zs I h0 n0 _ T5.heap _; rw [e5]; exact ⟨(by rw [own_at, if_pos ((own_lt2 hi hn).mp hc2), if_neg hI1]; rw [own_e_ne hc31]), N5, rfl⟩), ⟨_, rfl⟩, hW, hsame.mono (by decide) (by decide)⟩
  · refine own_w (T' := s₁) (g' := (mkF m 5 #[.val (.ref t), .val (.int n'), .val (.int i'), .unset] [])) (fun _ k_ => XS.icmpNo X0.here hx rfl (hb hby own_d5_2) rfl (flt hc2).1 k_) ?_
    refine own_w (T' := s₁) (g' := (mkF m 6 #[.val (.ref t), .val (.int n'), .val (.int i'), .unset] [(.int (0 : Int32))])) (fun _ k_ => XS.iconst X0.here hx rfl (hb hby own_d5_5) k_) ?_
    obtain ⟨fs, hr, hrun, hended, hW, hsame⟩ := X0.leave (v := some (.int (0 : Int32))) (fun h => by rw [Bd.returns] at h; cases h)
    exact ⟨_, _, retOut X0 hx Bd.returns rfl (Or.inl ⟨rfl, Or.inl rfl, _, rfl⟩) (hb hby own_d5_6) hr, hrun, hended, _, _, rfl, (by show own_Q5 Z t n' i' w zs I h0 n0 _ s₁.heap _; rw [e0]; exact ⟨(by rw [own_at, if_neg fun q => hc2 ((own_lt2 hi hn).mpr q)]), N0, rfl⟩), ⟨_, rfl⟩, hW, hsame.mono (by decide) (by decide)⟩
def own_cnt : List Int32 → Int32
  | [] => 0
  | c :: cs => own_e c (cs.getD 0 (-1)) + own_cnt cs
def own_S : Nat → List Int32 → Int32
  | 0, _ => 0
  | m + 1, w => own_S m w + own_at w m
theorem own_at_cons (c : Int32) (cs : List Int32) (i : Nat) : own_at (c :: cs) (i + 1) = own_at cs i := by
  simp [own_at]
theorem own_at_zero (c : Int32) (cs : List Int32) : own_at (c :: cs) 0 = own_e c (cs.getD 0 (-1)) := by
  cases cs <;> simp [own_at]
theorem own_S_cons (c : Int32) (cs : List Int32) : ∀ m, own_S (m + 1) (c :: cs) = own_at (c :: cs) 0 + own_S m cs
  | 0 => by show 0 + own_at (c :: cs) 0 = own_at (c :: cs) 0 + 0; rw [Int32.zero_add, Int32.add_zero]
  | m + 1 => by
    show own_S (m + 1) (c :: cs) + own_at (c :: cs) (m + 1) = _
    rw [own_S_cons c cs m, own_at_cons, Int32.add_assoc]; rfl
theorem own_S_nil : ∀ m, own_S m [] = 0
  | 0 => rfl
  | m + 1 => by show own_S m [] + own_at [] m = 0; rw [own_S_nil m]; rfl
theorem own_S_cnt : ∀ (w : List Int32) (m : Nat), w.length ≤ m → own_S m w = own_cnt w
  | [], m, _ => own_S_nil m
  | c :: cs, 0, h => absurd h (by simp)
  | c :: cs, m + 1, h => by
    rw [own_S_cons, own_S_cnt cs m (by simpa using h), own_at_zero]; rfl
theorem own_seg {l k : Int32} {r : List Int32} (h1 : ¬ l = 10) (h2 : ¬ l = 13) (hr : ¬ r.getD 0 (-1) = 10) (k0 : 0 ≤ k.toInt) (k7 : k.toInt ≤ 7) : own_cnt ((l :: own_br k) ++ r) = own_lines k + own_cnt r := by
  have hk : k = 0 ∨ k = 1 ∨ k = 2 ∨ k = 3 ∨ k = 4 ∨ k = 5 ∨ k = 6 ∨ k = 7 := by
    simp only [← Int32.toInt_inj, show (0 : Int32).toInt = 0 by decide, show (1 : Int32).toInt = 1 by decide, show (2 : Int32).toInt = 2 by decide, show (3 : Int32).toInt = 3 by decide, show (4 : Int32).toInt = 4 by decide, show (5 : Int32).toInt = 5 by decide, show (6 : Int32).toInt = 6 by decide, show (7 : Int32).toInt = 7 by decide]
    omega
  have el : ∀ n, own_e l n = 0 := fun n => if_neg fun q => q.elim h1 fun q => h2 q.1
  have e10 : ∀ n, own_e 10 n = 1 := fun n => if_pos (Or.inl rfl)
  have e13 : ∀ n, ¬ n = 10 → own_e 13 n = 1 := fun n q => if_pos (Or.inr ⟨rfl, q⟩)
  have e1310 : own_e 13 10 = 0 := by decide
  have q13 : ¬ (13 : Int32) = 10 := by decide
  rcases hk with rfl | rfl | rfl | rfl | rfl | rfl | rfl | rfl
  · show own_e l _ + own_cnt r = 0 + own_cnt r
    rw [el]
  · show own_e l _ + (own_e 10 _ + own_cnt r) = 1 + own_cnt r
    rw [el, e10, Int32.zero_add]
  · show own_e l _ + (own_e 13 (r.getD 0 (-1)) + own_cnt r) = 1 + own_cnt r
    rw [el, e13 _ hr, Int32.zero_add]
  · show own_e l _ + (own_e 13 10 + (own_e 10 _ + own_cnt r)) = 1 + own_cnt r
    rw [el, e1310, e10, Int32.zero_add, Int32.zero_add]
  · show own_e l _ + (own_e 10 _ + (own_e 13 (r.getD 0 (-1)) + own_cnt r)) = 2 + own_cnt r
    rw [el, e10, e13 _ hr, Int32.zero_add, ← Int32.add_assoc]; rfl
  · show own_e l _ + (own_e 13 13 + (own_e 13 (r.getD 0 (-1)) + own_cnt r)) = 2 + own_cnt r
    rw [el, e13 _ q13, e13 _ hr, Int32.zero_add, ← Int32.add_assoc]; rfl
  · show own_e l _ + (own_e 10 _ + (own_e 10 _ + own_cnt r)) = 2 + own_cnt r
    rw [el, e10, e10, Int32.zero_add, ← Int32.add_assoc]; rfl
  · show own_e l _ + (own_e 13 13 + (own_e 13 10 + (own_e 10 _ + own_cnt r))) = 2 + own_cnt r
    rw [el, e13 _ q13, e1310, e10, Int32.zero_add, Int32.zero_add, ← Int32.add_assoc]; rfl
theorem own_law {l0 l1 l2 k0 k1 k2 : Int32} {w : List Int32} (hw : w = ((([] : List Int32) ++ (l0 :: own_br k0)) ++ (l1 :: own_br k1)) ++ (l2 :: own_br k2)) (a0 : ¬ l0 = 10) (b0 : ¬ l0 = 13) (a1 : ¬ l1 = 10) (b1 : ¬ l1 = 13) (a2 : ¬ l2 = 10) (b2 : ¬ l2 = 13)
    (c0 : 0 ≤ k0.toInt ∧ k0.toInt ≤ 7) (c1 : 0 ≤ k1.toInt ∧ k1.toInt ≤ 7) (c2 : 0 ≤ k2.toInt ∧ k2.toInt ≤ 7) : own_S 12 w = (own_lines k0 + own_lines k1) + own_lines k2 := by
  have hl : w.length ≤ 12 := by
    have := own_br_len k0; have := own_br_len k1; have := own_br_len k2
    subst hw; simp; omega
  have e1 := own_seg (r := (l1 :: own_br k1) ++ (l2 :: own_br k2)) a0 b0 a1 c0.1 c0.2
  have e2 := own_seg (r := l2 :: own_br k2) a1 b1 a2 c1.1 c1.2
  have e3 := own_seg (r := []) a2 b2 (by decide) c2.1 c2.2
  rw [List.append_nil] at e3
  rw [own_S_cnt w 12 hl, hw, List.nil_append, List.append_assoc, e1, e2, e3]
  show own_lines k0 + (own_lines k1 + (own_lines k2 + 0)) = _
  rw [Int32.add_zero, Int32.add_assoc]
theorem own_m7 (x : Int32) : 0 ≤ (x &&& (7 : Int32)).toInt ∧ (x &&& (7 : Int32)).toInt ≤ 7 := by
  have := c_and x 7 (by decide)
  have e : (7 : Int32).toInt = 7 := by decide
  omega
theorem own_S0 (w : List Int32) : own_S 12 w = (((((((((((own_at w 0 + own_at w 1) + own_at w 2) + own_at w 3) + own_at w 4) + own_at w 5) + own_at w 6) + own_at w 7) + own_at w 8) + own_at w 9) + own_at w 10) + own_at w 11) := by
  show (((((((((((((0 : Int32) + own_at w 0) + own_at w 1) + own_at w 2) + own_at w 3) + own_at w 4) + own_at w 5) + own_at w 6) + own_at w 7) + own_at w 8) + own_at w 9) + own_at w 10) + own_at w 11) = _
  rw [Int32.zero_add]
theorem own_pd2 : parseMethodDescriptor "(I)C" = some ⟨[.int], some .char⟩ := by decide +kernel
theorem own_pd3 : parseMethodDescriptor "([CICI)I" = some ⟨[(.array .char), .int, .char, .int], some .int⟩ := by decide +kernel
theorem own_pd4 : parseMethodDescriptor "(I)I" = some ⟨[.int], some .int⟩ := by decide +kernel
theorem own_pd5 : parseMethodDescriptor "([CII)I" = some ⟨[(.array .char), .int, .int], some .int⟩ := by decide +kernel
theorem own_rm0_ef (m : MethodId) (p' : Int32) (q' : Int32) (r' : Int32) (d : Int32) (e' : Int32) (f' : Int32) : entryFrame m #[(.int p'), (.int q'), (.int r'), (.int d), (.int e'), (.int f')] maxLocals = mkF m 0 #[.val (.int p'), .val (.int q'), .val (.int r'), .val (.int d), .val (.int e'), .val (.int f'), .unset, .unset, .unset, .unset, .unset, .unset, .unset, .unset] [] := by first | (simp [entryFrame, mkF, argsToLocals, Value.category, maxLocals]; done) | rfl
def own_Q0 (Z : State) (p' : Int32) (q' : Int32) (r' : Int32) (d : Int32) (e' : Int32) (f' : Int32) (h0 : Heap) (n0 : Nat) (v_ : Option Value) (h : Heap) (L_ : List Loc) : Prop := v_ = some (.int (1 : Int32)) ∧ Fr n0 L_
set_option maxRecDepth 65536 in
set_option maxHeartbeats 40000000 in
theorem own_rm0 (l : Launch) (Z : State) (a0 : Array Value) (hw : ∀ d ∈ tables_1, d.before a0 Z = true) (ws : List Jvm.Cond) (p' : Int32) (q' : Int32) (r' : Int32) (d : Int32) (e' : Int32) (f' : Int32) (h0 : Heap) (n0 : Nat) (Z0 : n0 ≤ h0.size)  :
    MetFree l x (head1 (Jvm.Cond.code x code maxLocals ret :: ws) room_1) (fun a_ U_ => a_ = #[(.int p'), (.int q'), (.int r'), (.int d), (.int e'), (.int f')] ∧ Z.Warmed39 U_.vm ∧ U_.heap = h0) (fun _ _ _ _ _ => True) (fun _ U_ o_ V_ => ∃ v_ L_, o_ = .returned v_ ∧ own_Q0 Z p' q' r' d e' f' h0 n0 v_ V_.heap L_ ∧ FrameEnd U_ o_ V_ L_ room_1.cells room_1.slots) := by
  refine MetFree.of_bodySF (plainFor_of_name own_pn_com_example_holdfast_holdfast_LineBreaksEndsPinLaw) hisR ?_
  intro p e s m args below meth c s₁ Bd hml0 hP hK
  obtain ⟨rfl, hZ, hh⟩ := hP
  have hx := Bd.exec
  have hby := Bd.bytes
  have hml : c.maxLocals = 14 := hml0
  have hown : s.vm.findClass "com/example/holdfast/holdfast/LineBreaksEndsPinLaw" = some m.cls := findClass_of_methodNamed Bd.named
  have hnm := (name_of_methodNamed Bd.named Bd.method).1
  have X0 : Stand p l e room_1 s m #[(.int p'), (.int q'), (.int r'), (.int d), (.int e'), (.int f')] below meth c s₁ [] 0 0 := Stand.of_body Bd
  have e0 : s₁.heap = h0 := by rw [← hh, Bd.state]; rfl
  have N0 := Fr.nil n0
  show own_G p e below s (own_Q0 Z p' q' r' d e' f' h0 n0) room_1.cells room_1.slots s₁ (entryFrame m #[(.int p'), (.int q'), (.int r'), (.int d), (.int e'), (.int f')] maxLocals)
  rw [own_rm0_ef]
  refine own_w (T' := s₁) (g' := (mkF m 2 #[.val (.int p'), .val (.int q'), .val (.int r'), .val (.int d), .val (.int e'), .val (.int f'), .unset, .unset, .unset, .unset, .unset, .unset, .unset, .unset] [(.int (12 : Int32))])) (fun _ k_ => XS.bipush X0.here hx rfl (hb hby at_0) k_) ?_
  obtain ⟨T1, h1, k1, X1, e1, E1, A1, st1⟩ := newP X0 hx hZ (hw _ (List.mem_of_getElem? (i := 0) rfl)) e0 (g := (mkF m 2 #[.val (.int p'), .val (.int q'), .val (.int r'), .val (.int d), .val (.int e'), .val (.int f'), .unset, .unset, .unset, .unset, .unset, .unset, .unset, .unset] [(.int (12 : Int32))])) rfl (hb hby at_2) rfl (by decide) (cap := 12) (by decide) (by decide) (by decide) (by decide)
  obtain ⟨b1, gq1⟩ : ∃ z, z = h0.size := ⟨_, rfl⟩
  rw [← gq1] at A1 st1
  have V_b1 := own_Ar_new A1 rfl (k := 12) rfl
  have g_b1 : n0 ≤ b1 := Nat.le_trans Z0 (Nat.le_of_eq gq1.symm)
  have Z1 : n0 ≤ h1.size := Nat.le_trans Z0 E1.1
  refine own_w (T' := T1) (g' := (mkF m 4 #[.val (.int p'), .val (.int q'), .val (.int r'), .val (.int d), .val (.int e'), .val (.int f'), .unset, .unset, .unset, .unset, .unset, .unset, .unset, .unset] [(.ref b1)])) st1 ?_
  refine own_w (T' := T1) (g' := (mkF m 6 #[.val (.int p'), .val (.int q'), .val (.int r'), .val (.int d), .val (.int e'), .val (.int f'), .val (.ref b1), .unset, .unset, .unset, .unset, .unset, .unset, .unset] [])) (fun _ k_ => XS.astore X1.here hx rfl (hb hby at_4) rfl rfl (l' := #[.val (.int p'), .val (.int q'), .val (.int r'), .val (.int d), .val (.int e'), .val (.int f'), .val (.ref b1), .unset, .unset, .unset, .unset, .unset, .unset, .unset]) rfl k_) ?_
  refine own_w (T' := T1) (g' := (mkF m 7 #[.val (.int p'), .val (.int q'), .val (.int r'), .val (.int d), .val (.int e'), .val (.int f'), .val (.ref b1), .unset, .unset, .unset, .unset, .unset, .unset, .unset] [(.int d)])) (fun _ k_ => XS.iloadN X1.here hx rfl (hb hby at_6) rfl k_) ?_
  refine own_w (T' := T1) (g' := (mkF m 9 #[.val (.int p'), .val (.int q'), .val (.int r'), .val (.int d), .val (.int e'), .val (.int f'), .val (.ref b1), .unset, .unset, .unset, .unset, .unset, .unset, .unset] [(.int (7 : Int32)), (.int d)])) (fun _ k_ => XS.bipush X1.here hx rfl (hb hby at_7) k_) ?_
  refine own_w (T' := T1) (g' := (mkF m 10 #[.val (.int p'), .val (.int q'), .val (.int r'), .val (.int d), .val (.int e'), .val (.int f'), .val (.ref b1), .unset, .unset, .unset, .unset, .unset, .unset, .unset] [(.int (d &&& (7 : Int32)))])) (fun _ k_ => XS.iand X1.here hx rfl (hb hby at_9) rfl k_) ?_
  refine own_w (T' := T1) (g' := (mkF m 12 #[.val (.int p'), .val (.int q'), .val (.int r'), .val (.int d), .val (.int e'), .val (.int f'), .val (.ref b1), .val (.int (d &&& (7 : Int32))), .unset, .unset, .unset, .unset, .unset, .unset] [])) (fun _ k_ => XS.istore X1.here hx rfl (hb hby at_10) rfl (l' := #[.val (.int p'), .val (.int q'), .val (.int r'), .val (.int d), .val (.int e'), .val (.int f'), .val (.ref b1), .val (.int (d &&& (7 : Int32))), .unset, .unset, .unset, .unset, .unset, .unset]) rfl k_) ?_
  refine own_w (T' := T1) (g' := (mkF m 13 #[.val (.int p'), .val (.int q'), .val (.int r'), .val (.int d), .val (.int e'), .val (.int f'), .val (.ref b1), .val (.int (d &&& (7 : Int32))), .unset, .unset, .unset, .unset, .unset, .unset] [(.int d)])) (fun _ k_ => XS.iloadN X1.here hx rfl (hb hby at_12) rfl k_) ?_
  refine own_w (T' := T1) (g' := (mkF m 14 #[.val (.int p'), .val (.int q'), .val (.int r'), .val (.int d), .val (.int e'), .val (.int f'), .val (.ref b1), .val (.int (d &&& (7 : Int32))), .unset, .unset, .unset, .unset, .unset, .unset] [(.int (3 : Int32)), (.int d)])) (fun _ k_ => XS.iconst X1.here hx rfl (hb hby at_13) k_) ?_
  refine own_w (T' := T1) (g' := (mkF m 15 #[.val (.int p'), .val (.int q'), .val (.int r'), .val (.int d), .val (.int e'), .val (.int f'), .val (.ref b1), .val (.int (d &&& (7 : Int32))), .unset, .unset, .unset, .unset, .unset, .unset] [(.int ((d.toUInt32 >>> ((3 : Int32) &&& 31).toUInt32).toInt32))])) (fun _ k_ => XS.iushr X1.here hx rfl (hb hby at_14) rfl k_) ?_
  refine own_w (T' := T1) (g' := (mkF m 17 #[.val (.int p'), .val (.int q'), .val (.int r'), .val (.int d), .val (.int e'), .val (.int f'), .val (.ref b1), .val (.int (d &&& (7 : Int32))), .unset, .unset, .unset, .unset, .unset, .unset] [(.int (7 : Int32)), (.int ((d.toUInt32 >>> ((3 : Int32) &&& 31).toUInt32).toInt32))])) (fun _ k_ => XS.bipush X1.here hx rfl (hb hby at_15) k_) ?_
  refine own_w (T' := T1) (g' := (mkF m 18 #[.val (.int p'), .val (.int q'), .val (.int r'), .val (.int d), .val (.int e'), .val (.int f'), .val (.ref b1), .val (.int (d &&& (7 : Int32))), .unset, .unset, .unset, .unset, .unset, .unset] [(.int (((d.toUInt32 >>> ((3 : Int32) &&& 31).toUInt32).toInt32) &&& (7 : Int32)))])) (fun _ k_ => XS.iand X1.here hx rfl (hb hby at_17) rfl k_) ?_
  refine own_w (T' := T1) (g' := (mkF m 20 #[.val (.int p'), .val (.int q'), .val (.int r'), .val (.int d), .val (.int e'), .val (.int f'), .val (.ref b1), .val (.int (d &&& (7 : Int32))), .val (.int (((d.toUInt32 >>> ((3 : Int32) &&& 31).toUInt32).toInt32) &&& (7 : Int32))), .unset, .unset, .unset, .unset, .unset] [])) (fun _ k_ => XS.istore X1.here hx rfl (hb hby at_18) rfl (l' := #[.val (.int p'), .val (.int q'), .val (.int r'), .val (.int d), .val (.int e'), .val (.int f'), .val (.ref b1), .val (.int (d &&& (7 : Int32))), .val (.int (((d.toUInt32 >>> ((3 : Int32) &&& 31).toUInt32).toInt32) &&& (7 : Int32))), .unset, .unset, .unset, .unset, .unset]) rfl k_) ?_
  refine own_w (T' := T1) (g' := (mkF m 21 #[.val (.int p'), .val (.int q'), .val (.int r'), .val (.int d), .val (.int e'), .val (.int f'), .val (.ref b1), .val (.int (d &&& (7 : Int32))), .val (.int (((d.toUInt32 >>> ((3 : Int32) &&& 31).toUInt32).toInt32) &&& (7 : Int32))), .unset, .unset, .unset, .unset, .unset] [(.int d)])) (fun _ k_ => XS.iloadN X1.here hx rfl (hb hby at_20) rfl k_) ?_
  refine own_w (T' := T1) (g' := (mkF m 23 #[.val (.int p'), .val (.int q'), .val (.int r'), .val (.int d), .val (.int e'), .val (.int f'), .val (.ref b1), .val (.int (d &&& (7 : Int32))), .val (.int (((d.toUInt32 >>> ((3 : Int32) &&& 31).toUInt32).toInt32) &&& (7 : Int32))), .unset, .unset, .unset, .unset, .unset] [(.int (6 : Int32)), (.int d)])) (fun _ k_ => XS.bipush X1.here hx rfl (hb hby at_21) k_) ?_
  refine own_w (T' := T1) (g' := (mkF m 24 #[.val (.int p'), .val (.int q'), .val (.int r'), .val (.int d), .val (.int e'), .val (.int f'), .val (.ref b1), .val (.int (d &&& (7 : Int32))), .val (.int (((d.toUInt32 >>> ((3 : Int32) &&& 31).toUInt32).toInt32) &&& (7 : Int32))), .unset, .unset, .unset, .unset, .unset] [(.int ((d.toUInt32 >>> ((6 : Int32) &&& 31).toUInt32).toInt32))])) (fun _ k_ => XS.iushr X1.here hx rfl (hb hby at_23) rfl k_) ?_
  refine own_w (T' := T1) (g' := (mkF m 26 #[.val (.int p'), .val (.int q'), .val (.int r'), .val (.int d), .val (.int e'), .val (.int f'), .val (.ref b1), .val (.int (d &&& (7 : Int32))), .val (.int (((d.toUInt32 >>> ((3 : Int32) &&& 31).toUInt32).toInt32) &&& (7 : Int32))), .unset, .unset, .unset, .unset, .unset] [(.int (7 : Int32)), (.int ((d.toUInt32 >>> ((6 : Int32) &&& 31).toUInt32).toInt32))])) (fun _ k_ => XS.bipush X1.here hx rfl (hb hby at_24) k_) ?_
  refine own_w (T' := T1) (g' := (mkF m 27 #[.val (.int p'), .val (.int q'), .val (.int r'), .val (.int d), .val (.int e'), .val (.int f'), .val (.ref b1), .val (.int (d &&& (7 : Int32))), .val (.int (((d.toUInt32 >>> ((3 : Int32) &&& 31).toUInt32).toInt32) &&& (7 : Int32))), .unset, .unset, .unset, .unset, .unset] [(.int (((d.toUInt32 >>> ((6 : Int32) &&& 31).toUInt32).toInt32) &&& (7 : Int32)))])) (fun _ k_ => XS.iand X1.here hx rfl (hb hby at_26) rfl k_) ?_
  refine own_w (T' := T1) (g' := (mkF m 29 #[.val (.int p'), .val (.int q'), .val (.int r'), .val (.int d), .val (.int e'), .val (.int f'), .val (.ref b1), .val (.int (d &&& (7 : Int32))), .val (.int (((d.toUInt32 >>> ((3 : Int32) &&& 31).toUInt32).toInt32) &&& (7 : Int32))), .val (.int (((d.toUInt32 >>> ((6 : Int32) &&& 31).toUInt32).toInt32) &&& (7 : Int32))), .unset, .unset, .unset, .unset] [])) (fun _ k_ => XS.istore X1.here hx rfl (hb hby at_27) rfl (l' := #[.val (.int p'), .val (.int q'), .val (.int r'), .val (.int d), .val (.int e'), .val (.int f'), .val (.ref b1), .val (.int (d &&& (7 : Int32))), .val (.int (((d.toUInt32 >>> ((3 : Int32) &&& 31).toUInt32).toInt32) &&& (7 : Int32))), .val (.int (((d.toUInt32 >>> ((6 : Int32) &&& 31).toUInt32).toInt32) &&& (7 : Int32))), .unset, .unset, .unset, .unset]) rfl k_) ?_
  refine own_w (T' := T1) (g' := (mkF m 30 #[.val (.int p'), .val (.int q'), .val (.int r'), .val (.int d), .val (.int e'), .val (.int f'), .val (.ref b1), .val (.int (d &&& (7 : Int32))), .val (.int (((d.toUInt32 >>> ((3 : Int32) &&& 31).toUInt32).toInt32) &&& (7 : Int32))), .val (.int (((d.toUInt32 >>> ((6 : Int32) &&& 31).toUInt32).toInt32) &&& (7 : Int32))), .unset, .unset, .unset, .unset] [(.int (0 : Int32))])) (fun _ k_ => XS.iconst X1.here hx rfl (hb hby at_29) k_) ?_
  refine own_w (T' := T1) (g' := (mkF m 32 #[.val (.int p'), .val (.int q'), .val (.int r'), .val (.int d), .val (.int e'), .val (.int f'), .val (.ref b1), .val (.int (d &&& (7 : Int32))), .val (.int (((d.toUInt32 >>> ((3 : Int32) &&& 31).toUInt32).toInt32) &&& (7 : Int32))), .val (.int (((d.toUInt32 >>> ((6 : Int32) &&& 31).toUInt32).toInt32) &&& (7 : Int32))), .val (.int (0 : Int32)), .unset, .unset, .unset] [])) (fun _ k_ => XS.istore X1.here hx rfl (hb hby at_30) rfl (l' := #[.val (.int p'), .val (.int q'), .val (.int r'), .val (.int d), .val (.int e'), .val (.int f'), .val (.ref b1), .val (.int (d &&& (7 : Int32))), .val (.int (((d.toUInt32 >>> ((3 : Int32) &&& 31).toUInt32).toInt32) &&& (7 : Int32))), .val (.int (((d.toUInt32 >>> ((6 : Int32) &&& 31).toUInt32).toInt32) &&& (7 : Int32))), .val (.int (0 : Int32)), .unset, .unset, .unset]) rfl k_) ?_
  refine own_w (T' := T1) (g' := (mkF m 34 #[.val (.int p'), .val (.int q'), .val (.int r'), .val (.int d), .val (.int e'), .val (.int f'), .val (.ref b1), .val (.int (d &&& (7 : Int32))), .val (.int (((d.toUInt32 >>> ((3 : Int32) &&& 31).toUInt32).toInt32) &&& (7 : Int32))), .val (.int (((d.toUInt32 >>> ((6 : Int32) &&& 31).toUInt32).toInt32) &&& (7 : Int32))), .val (.int (0 : Int32)), .unset, .unset, .unset] [(.ref b1)])) (fun _ k_ => XS.aload X1.here hx rfl (hb hby at_32) rfl rfl k_) ?_
  refine own_w (T' := T1) (g' := (mkF m 36 #[.val (.int p'), .val (.int q'), .val (.int r'), .val (.int d), .val (.int e'), .val (.int f'), .val (.ref b1), .val (.int (d &&& (7 : Int32))), .val (.int (((d.toUInt32 >>> ((3 : Int32) &&& 31).toUInt32).toInt32) &&& (7 : Int32))), .val (.int (((d.toUInt32 >>> ((6 : Int32) &&& 31).toUInt32).toInt32) &&& (7 : Int32))), .val (.int (0 : Int32)), .unset, .unset, .unset] [(.int (0 : Int32)), (.ref b1)])) (fun _ k_ => XS.iload X1.here hx rfl (hb hby at_34) rfl k_) ?_
  refine own_w (T' := T1) (g' := (mkF m 37 #[.val (.int p'), .val (.int q'), .val (.int r'), .val (.int d), .val (.int e'), .val (.int f'), .val (.ref b1), .val (.int (d &&& (7 : Int32))), .val (.int (((d.toUInt32 >>> ((3 : Int32) &&& 31).toUInt32).toInt32) &&& (7 : Int32))), .val (.int (((d.toUInt32 >>> ((6 : Int32) &&& 31).toUInt32).toInt32) &&& (7 : Int32))), .val (.int (0 : Int32)), .unset, .unset, .unset] [(.int p'), (.int (0 : Int32)), (.ref b1)])) (fun _ k_ => XS.iloadN X1.here hx rfl (hb hby at_36) rfl k_) ?_
  generalize hk0 : (d &&& (7 : Int32)) = k0
  generalize hk1 : (((d.toUInt32 >>> ((3 : Int32) &&& 31).toUInt32).toInt32) &&& (7 : Int32)) = k1
  generalize hk2 : (((d.toUInt32 >>> ((6 : Int32) &&& 31).toUInt32).toInt32) &&& (7 : Int32)) = k2
  obtain ⟨_, _, ⟨T2, L2, k2, n2⟩, -, X2, ⟨Lc2, hQ2, l2, y2, z2⟩, st2⟩ := Jvm.LawKit.callS X1 hx (y := (⟨"com/example/holdfast/holdfast/LineBreaksEndsPinLaw", "letter", "(I)C"⟩ : MethodName)) hown (mvT hZ (hw _ (List.mem_of_getElem? (i := 1) rfl))) (mvT hZ (hw _ (List.mem_of_getElem? (i := 2) rfl))) (mvT hZ (hw _ (List.mem_of_getElem? (i := 3) rfl))) (mvT hZ (hw _ (List.mem_of_getElem? (i := 4) rfl))) (by decide) (backOf (W := 2) (own_rm1 l Z a0 hw [] p'  h1 n0 Z1 ) hZ (hw _ (List.mem_of_getElem? (i := 4) rfl)) (hw _ (List.mem_of_getElem? (i := 3) rfl)) (by decide) (by decide)) (g := (mkF m 37 #[.val (.int p'), .val (.int q'), .val (.int r'), .val (.int d), .val (.int e'), .val (.int f'), .val (.ref b1), .val (.int k0), .val (.int k1), .val (.int k2), .val (.int (0 : Int32)), .unset, .unset, .unset] [(.int p'), (.int (0 : Int32)), (.ref b1)])) rfl (by rw [hml]; rfl) (argsL := [(.int p')]) (rest := [(.int (0 : Int32)), (.ref b1)]) (lenOf own_pd2 rfl) rfl (by show 2 * 0 + _ ≤ _; exact Nat.le_of_eq rfl) (hb hby at_37) (fun _ _ => ⟨rfl, e1, (by decide : 1 + 0 ≤ _), (by decide : 12 + 0 ≤ _)⟩)
  dsimp only [Pt.U, Pt.locs, Pt.cells, Pt.slots] at X2 l2 y2 z2 st2 hQ2
  subst l2 y2 z2
  obtain ⟨rfl, N2q, e2⟩ := hQ2
  have N2 := Fr.app N0 N2q
  refine own_w (T' := T2) (g' := (mkF m 40 #[.val (.int p'), .val (.int q'), .val (.int r'), .val (.int d), .val (.int e'), .val (.int f'), .val (.ref b1), .val (.int k0), .val (.int k1), .val (.int k2), .val (.int (0 : Int32)), .unset, .unset, .unset] [(.int (own_letter p')), (.int (0 : Int32)), (.ref b1)])) st2 ?_
  refine own_w (T' := T2) (g' := (mkF m 42 #[.val (.int p'), .val (.int q'), .val (.int r'), .val (.int d), .val (.int e'), .val (.int f'), .val (.ref b1), .val (.int k0), .val (.int k1), .val (.int k2), .val (.int (0 : Int32)), .unset, .unset, .unset] [(.int k0), (.int (own_letter p')), (.int (0 : Int32)), (.ref b1)])) (fun _ k_ => XS.iload X2.here hx rfl (hb hby at_40) rfl k_) ?_
  have V0 : own_Ar Z h1 b1 .char (([] : List Int32) ++ (List.replicate 12 (0 : Int32))) := V_b1
  have hl0 := own_letter_ok p'
  generalize own_letter p' = l0 at *
  obtain ⟨_, _, ⟨T3, L3, k3, n3⟩, -, X3, ⟨Lc3, hQ3, l3, y3, z3⟩, st3⟩ := Jvm.LawKit.callS X2 hx (y := (⟨"com/example/holdfast/holdfast/LineBreaksEndsPinLaw", "put", "([CICI)I"⟩ : MethodName)) hown (mvT hZ (hw _ (List.mem_of_getElem? (i := 6) rfl))) (mvT hZ (hw _ (List.mem_of_getElem? (i := 7) rfl))) (mvT hZ (hw _ (List.mem_of_getElem? (i := 3) rfl))) (mvT hZ (hw _ (List.mem_of_getElem? (i := 8) rfl))) (by decide) (backOf (W := 0) (own_rm2 l Z a0 hw [] b1 (0 : Int32) l0 k0 (([] : List Int32)) ((List.replicate 12 (0 : Int32))) h1 n0 Z1 V0 (by decide) g_b1 (by first | (simp <;> omega) | omega) (by first | (simp <;> omega) | omega) hl0.1) hZ (hw _ (List.mem_of_getElem? (i := 8) rfl)) (hw _ (List.mem_of_getElem? (i := 3) rfl)) (by decide) (by decide)) (g := (mkF m 42 #[.val (.int p'), .val (.int q'), .val (.int r'), .val (.int d), .val (.int e'), .val (.int f'), .val (.ref b1), .val (.int k0), .val (.int k1), .val (.int k2), .val (.int (0 : Int32)), .unset, .unset, .unset] [(.int k0), (.int l0), (.int (0 : Int32)), (.ref b1)])) rfl (by rw [hml]; rfl) (argsL := [(.ref b1), (.int (0 : Int32)), (.int l0), (.int k0)]) (rest := []) (lenOf own_pd3 rfl) rfl (by show 2 * 0 + _ ≤ _; exact Nat.le_of_eq rfl) (hb hby at_42) (fun _ _ => ⟨rfl, e2, (by decide : 1 + 0 ≤ _), (by decide : 12 + 0 ≤ _)⟩)
  dsimp only [Pt.U, Pt.locs, Pt.cells, Pt.slots] at X3 l3 y3 z3 st3 hQ3
  subst l3 y3 z3
  obtain ⟨h3, e3⟩ : ∃ h, T3.heap = h := ⟨_, rfl⟩
  rw [e3] at hQ3
  obtain ⟨rfl, N3q, K3, V3⟩ := hQ3
  have N3 := Fr.app N2 N3q
  refine own_w (T' := T3) (g' := (mkF m 45 #[.val (.int p'), .val (.int q'), .val (.int r'), .val (.int d), .val (.int e'), .val (.int f'), .val (.ref b1), .val (.int k0), .val (.int k1), .val (.int k2), .val (.int (0 : Int32)), .unset, .unset, .unset] [(.int (own_nx (0 : Int32) k0))])) st3 ?_
  have Z3 : n0 ≤ h3.size := Nat.le_trans Z1 K3.1
  have bl0 := own_br_len k0
  have hn0 : (own_nx (0 : Int32) k0).toInt = ((((([] : List Int32) ++ (l0 :: own_br k0))).length : Nat) : Int) := by rw [own_nx_int (a := (([] : List Int32)).length) k0 (by decide) (by first | (simp <;> omega) | omega)]; simp <;> omega
  refine own_w (T' := T3) (g' := (mkF m 47 #[.val (.int p'), .val (.int q'), .val (.int r'), .val (.int d), .val (.int e'), .val (.int f'), .val (.ref b1), .val (.int k0), .val (.int k1), .val (.int k2), .val (.int (own_nx (0 : Int32) k0)), .unset, .unset, .unset] [])) (fun _ k_ => XS.istore X3.here hx rfl (hb hby at_45) rfl (l' := #[.val (.int p'), .val (.int q'), .val (.int r'), .val (.int d), .val (.int e'), .val (.int f'), .val (.ref b1), .val (.int k0), .val (.int k1), .val (.int k2), .val (.int (own_nx (0 : Int32) k0)), .unset, .unset, .unset]) rfl k_) ?_
  refine own_w (T' := T3) (g' := (mkF m 49 #[.val (.int p'), .val (.int q'), .val (.int r'), .val (.int d), .val (.int e'), .val (.int f'), .val (.ref b1), .val (.int k0), .val (.int k1), .val (.int k2), .val (.int (own_nx (0 : Int32) k0)), .unset, .unset, .unset] [(.ref b1)])) (fun _ k_ => XS.aload X3.here hx rfl (hb hby at_47) rfl rfl k_) ?_
  refine own_w (T' := T3) (g' := (mkF m 51 #[.val (.int p'), .val (.int q'), .val (.int r'), .val (.int d), .val (.int e'), .val (.int f'), .val (.ref b1), .val (.int k0), .val (.int k1), .val (.int k2), .val (.int (own_nx (0 : Int32) k0)), .unset, .unset, .unset] [(.int (own_nx (0 : Int32) k0)), (.ref b1)])) (fun _ k_ => XS.iload X3.here hx rfl (hb hby at_49) rfl k_) ?_
  refine own_w (T' := T3) (g' := (mkF m 52 #[.val (.int p'), .val (.int q'), .val (.int r'), .val (.int d), .val (.int e'), .val (.int f'), .val (.ref b1), .val (.int k0), .val (.int k1), .val (.int k2), .val (.int (own_nx (0 : Int32) k0)), .unset, .unset, .unset] [(.int q'), (.int (own_nx (0 : Int32) k0)), (.ref b1)])) (fun _ k_ => XS.iloadN X3.here hx rfl (hb hby at_51) rfl k_) ?_
  obtain ⟨_, _, ⟨T4, L4, k4, n4⟩, -, X4, ⟨Lc4, hQ4, l4, y4, z4⟩, st4⟩ := Jvm.LawKit.callS X3 hx (y := (⟨"com/example/holdfast/holdfast/LineBreaksEndsPinLaw", "letter", "(I)C"⟩ : MethodName)) hown (mvT hZ (hw _ (List.mem_of_getElem? (i := 1) rfl))) (mvT hZ (hw _ (List.mem_of_getElem? (i := 2) rfl))) (mvT hZ (hw _ (List.mem_of_getElem? (i := 3) rfl))) (mvT hZ (hw _ (List.mem_of_getElem? (i := 4) rfl))) (by decide) (backOf (W := 2) (own_rm1 l Z a0 hw [] q'  h3 n0 Z3 ) hZ (hw _ (List.mem_of_getElem? (i := 4) rfl)) (hw _ (List.mem_of_getElem? (i := 3) rfl)) (by decide) (by decide)) (g := (mkF m 52 #[.val (.int p'), .val (.int q'), .val (.int r'), .val (.int d), .val (.int e'), .val (.int f'), .val (.ref b1), .val (.int k0), .val (.int k1), .val (.int k2), .val (.int (own_nx (0 : Int32) k0)), .unset, .unset, .unset] [(.int q'), (.int (own_nx (0 : Int32) k0)), (.ref b1)])) rfl (by rw [hml]; rfl) (argsL := [(.int q')]) (rest := [(.int (own_nx (0 : Int32) k0)), (.ref b1)]) (lenOf own_pd2 rfl) rfl (by show 2 * 0 + _ ≤ _; exact Nat.le_of_eq rfl) (hb hby at_52) (fun _ _ => ⟨rfl, e3, (by decide : 1 + 0 ≤ _), (by decide : 12 + 0 ≤ _)⟩)
  dsimp only [Pt.U, Pt.locs, Pt.cells, Pt.slots] at X4 l4 y4 z4 st4 hQ4
  subst l4 y4 z4
  obtain ⟨rfl, N4q, e4⟩ := hQ4
  have N4 := Fr.app N3 N4q
  refine own_w (T' := T4) (g' := (mkF m 55 #[.val (.int p'), .val (.int q'), .val (.int r'), .val (.int d), .val (.int e'), .val (.int f'), .val (.ref b1), .val (.int k0), .val (.int k1), .val (.int k2), .val (.int (own_nx (0 : Int32) k0)), .unset, .unset, .unset] [(.int (own_letter q')), (.int (own_nx (0 : Int32) k0)), (.ref b1)])) st4 ?_
  refine own_w (T' := T4) (g' := (mkF m 57 #[.val (.int p'), .val (.int q'), .val (.int r'), .val (.int d), .val (.int e'), .val (.int f'), .val (.ref b1), .val (.int k0), .val (.int k1), .val (.int k2), .val (.int (own_nx (0 : Int32) k0)), .unset, .unset, .unset] [(.int k1), (.int (own_letter q')), (.int (own_nx (0 : Int32) k0)), (.ref b1)])) (fun _ k_ => XS.iload X4.here hx rfl (hb hby at_55) rfl k_) ?_
  have hl1 := own_letter_ok q'
  generalize own_letter q' = l1 at *
  obtain ⟨_, _, ⟨T5, L5, k5, n5⟩, -, X5, ⟨Lc5, hQ5, l5, y5, z5⟩, st5⟩ := Jvm.LawKit.callS X4 hx (y := (⟨"com/example/holdfast/holdfast/LineBreaksEndsPinLaw", "put", "([CICI)I"⟩ : MethodName)) hown (mvT hZ (hw _ (List.mem_of_getElem? (i := 6) rfl))) (mvT hZ (hw _ (List.mem_of_getElem? (i := 7) rfl))) (mvT hZ (hw _ (List.mem_of_getElem? (i := 3) rfl))) (mvT hZ (hw _ (List.mem_of_getElem? (i := 8) rfl))) (by decide) (backOf (W := 0) (own_rm2 l Z a0 hw [] b1 (own_nx (0 : Int32) k0) l1 k1 ((([] : List Int32) ++ (l0 :: own_br k0))) ((((List.replicate 12 (0 : Int32))).drop (1 + (own_br k0).length))) h3 n0 Z3 V3 hn0 g_b1 (by first | (simp <;> omega) | omega) (by first | (simp <;> omega) | omega) hl1.1) hZ (hw _ (List.mem_of_getElem? (i := 8) rfl)) (hw _ (List.mem_of_getElem? (i := 3) rfl)) (by decide) (by decide)) (g := (mkF m 57 #[.val (.int p'), .val (.int q'), .val (.int r'), .val (.int d), .val (.int e'), .val (.int f'), .val (.ref b1), .val (.int k0), .val (.int k1), .val (.int k2), .val (.int (own_nx (0 : Int32) k0)), .unset, .unset, .unset] [(.int k1), (.int l1), (.int (own_nx (0 : Int32) k0)), (.ref b1)])) rfl (by rw [hml]; rfl) (argsL := [(.ref b1), (.int (own_nx (0 : Int32) k0)), (.int l1), (.int k1)]) (rest := []) (lenOf own_pd3 rfl) rfl (by show 2 * 0 + _ ≤ _; exact Nat.le_of_eq rfl) (hb hby at_57) (fun _ _ => ⟨rfl, e4, (by decide : 1 + 0 ≤ _), (by decide : 12 + 0 ≤ _)⟩)
  dsimp only [Pt.U, Pt.locs, Pt.cells, Pt.slots] at X5 l5 y5 z5 st5 hQ5
  subst l5 y5 z5
  obtain ⟨h5, e5⟩ : ∃ h, T5.heap = h := ⟨_, rfl⟩
  rw [e5] at hQ5
  obtain ⟨rfl, N5q, K5, V5⟩ := hQ5
  have N5 := Fr.app N4 N5q
  refine own_w (T' := T5) (g' := (mkF m 60 #[.val (.int p'), .val (.int q'), .val (.int r'), .val (.int d), .val (.int e'), .val (.int f'), .val (.ref b1), .val (.int k0), .val (.int k1), .val (.int k2), .val (.int (own_nx (0 : Int32) k0)), .unset, .unset, .unset] [(.int (own_nx (own_nx (0 : Int32) k0) k1))])) st5 ?_
  have Z5 : n0 ≤ h5.size := Nat.le_trans Z3 K5.1
  have bl1 := own_br_len k1
  have hn1 : (own_nx (own_nx (0 : Int32) k0) k1).toInt = (((((([] : List Int32) ++ (l0 :: own_br k0)) ++ (l1 :: own_br k1))).length : Nat) : Int) := by rw [own_nx_int (a := ((([] : List Int32) ++ (l0 :: own_br k0))).length) k1 hn0 (by first | (simp <;> omega) | omega)]; simp <;> omega
  refine own_w (T' := T5) (g' := (mkF m 62 #[.val (.int p'), .val (.int q'), .val (.int r'), .val (.int d), .val (.int e'), .val (.int f'), .val (.ref b1), .val (.int k0), .val (.int k1), .val (.int k2), .val (.int (own_nx (own_nx (0 : Int32) k0) k1)), .unset, .unset, .unset] [])) (fun _ k_ => XS.istore X5.here hx rfl (hb hby at_60) rfl (l' := #[.val (.int p'), .val (.int q'), .val (.int r'), .val (.int d), .val (.int e'), .val (.int f'), .val (.ref b1), .val (.int k0), .val (.int k1), .val (.int k2), .val (.int (own_nx (own_nx (0 : Int32) k0) k1)), .unset, .unset, .unset]) rfl k_) ?_
  refine own_w (T' := T5) (g' := (mkF m 64 #[.val (.int p'), .val (.int q'), .val (.int r'), .val (.int d), .val (.int e'), .val (.int f'), .val (.ref b1), .val (.int k0), .val (.int k1), .val (.int k2), .val (.int (own_nx (own_nx (0 : Int32) k0) k1)), .unset, .unset, .unset] [(.ref b1)])) (fun _ k_ => XS.aload X5.here hx rfl (hb hby at_62) rfl rfl k_) ?_
  refine own_w (T' := T5) (g' := (mkF m 66 #[.val (.int p'), .val (.int q'), .val (.int r'), .val (.int d), .val (.int e'), .val (.int f'), .val (.ref b1), .val (.int k0), .val (.int k1), .val (.int k2), .val (.int (own_nx (own_nx (0 : Int32) k0) k1)), .unset, .unset, .unset] [(.int (own_nx (own_nx (0 : Int32) k0) k1)), (.ref b1)])) (fun _ k_ => XS.iload X5.here hx rfl (hb hby at_64) rfl k_) ?_
  refine own_w (T' := T5) (g' := (mkF m 67 #[.val (.int p'), .val (.int q'), .val (.int r'), .val (.int d), .val (.int e'), .val (.int f'), .val (.ref b1), .val (.int k0), .val (.int k1), .val (.int k2), .val (.int (own_nx (own_nx (0 : Int32) k0) k1)), .unset, .unset, .unset] [(.int r'), (.int (own_nx (own_nx (0 : Int32) k0) k1)), (.ref b1)])) (fun _ k_ => XS.iloadN X5.here hx rfl (hb hby at_66) rfl k_) ?_
  obtain ⟨_, _, ⟨T6, L6, k6, n6⟩, -, X6, ⟨Lc6, hQ6, l6, y6, z6⟩, st6⟩ := Jvm.LawKit.callS X5 hx (y := (⟨"com/example/holdfast/holdfast/LineBreaksEndsPinLaw", "letter", "(I)C"⟩ : MethodName)) hown (mvT hZ (hw _ (List.mem_of_getElem? (i := 1) rfl))) (mvT hZ (hw _ (List.mem_of_getElem? (i := 2) rfl))) (mvT hZ (hw _ (List.mem_of_getElem? (i := 3) rfl))) (mvT hZ (hw _ (List.mem_of_getElem? (i := 4) rfl))) (by decide) (backOf (W := 2) (own_rm1 l Z a0 hw [] r'  h5 n0 Z5 ) hZ (hw _ (List.mem_of_getElem? (i := 4) rfl)) (hw _ (List.mem_of_getElem? (i := 3) rfl)) (by decide) (by decide)) (g := (mkF m 67 #[.val (.int p'), .val (.int q'), .val (.int r'), .val (.int d), .val (.int e'), .val (.int f'), .val (.ref b1), .val (.int k0), .val (.int k1), .val (.int k2), .val (.int (own_nx (own_nx (0 : Int32) k0) k1)), .unset, .unset, .unset] [(.int r'), (.int (own_nx (own_nx (0 : Int32) k0) k1)), (.ref b1)])) rfl (by rw [hml]; rfl) (argsL := [(.int r')]) (rest := [(.int (own_nx (own_nx (0 : Int32) k0) k1)), (.ref b1)]) (lenOf own_pd2 rfl) rfl (by show 2 * 0 + _ ≤ _; exact Nat.le_of_eq rfl) (hb hby at_67) (fun _ _ => ⟨rfl, e5, (by decide : 1 + 0 ≤ _), (by decide : 12 + 0 ≤ _)⟩)
  dsimp only [Pt.U, Pt.locs, Pt.cells, Pt.slots] at X6 l6 y6 z6 st6 hQ6
  subst l6 y6 z6
  obtain ⟨rfl, N6q, e6⟩ := hQ6
  have N6 := Fr.app N5 N6q
  refine own_w (T' := T6) (g' := (mkF m 70 #[.val (.int p'), .val (.int q'), .val (.int r'), .val (.int d), .val (.int e'), .val (.int f'), .val (.ref b1), .val (.int k0), .val (.int k1), .val (.int k2), .val (.int (own_nx (own_nx (0 : Int32) k0) k1)), .unset, .unset, .unset] [(.int (own_letter r')), (.int (own_nx (own_nx (0 : Int32) k0) k1)), (.ref b1)])) st6 ?_
  refine own_w (T' := T6) (g' := (mkF m 72 #[.val (.int p'), .val (.int q'), .val (.int r'), .val (.int d), .val (.int e'), .val (.int f'), .val (.ref b1), .val (.int k0), .val (.int k1), .val (.int k2), .val (.int (own_nx (own_nx (0 : Int32) k0) k1)), .unset, .unset, .unset] [(.int k2), (.int (own_letter r')), (.int (own_nx (own_nx (0 : Int32) k0) k1)), (.ref b1)])) (fun _ k_ => XS.iload X6.here hx rfl (hb hby at_70) rfl k_) ?_
  have hl2 := own_letter_ok r'
  generalize own_letter r' = l2 at *
  obtain ⟨_, _, ⟨T7, L7, k7, n7⟩, -, X7, ⟨Lc7, hQ7, l7, y7, z7⟩, st7⟩ := Jvm.LawKit.callS X6 hx (y := (⟨"com/example/holdfast/holdfast/LineBreaksEndsPinLaw", "put", "([CICI)I"⟩ : MethodName)) hown (mvT hZ (hw _ (List.mem_of_getElem? (i := 6) rfl))) (mvT hZ (hw _ (List.mem_of_getElem? (i := 7) rfl))) (mvT hZ (hw _ (List.mem_of_getElem? (i := 3) rfl))) (mvT hZ (hw _ (List.mem_of_getElem? (i := 8) rfl))) (by decide) (backOf (W := 0) (own_rm2 l Z a0 hw [] b1 (own_nx (own_nx (0 : Int32) k0) k1) l2 k2 (((([] : List Int32) ++ (l0 :: own_br k0)) ++ (l1 :: own_br k1))) ((((((List.replicate 12 (0 : Int32))).drop (1 + (own_br k0).length))).drop (1 + (own_br k1).length))) h5 n0 Z5 V5 hn1 g_b1 (by first | (simp <;> omega) | omega) (by first | (simp <;> omega) | omega) hl2.1) hZ (hw _ (List.mem_of_getElem? (i := 8) rfl)) (hw _ (List.mem_of_getElem? (i := 3) rfl)) (by decide) (by decide)) (g := (mkF m 72 #[.val (.int p'), .val (.int q'), .val (.int r'), .val (.int d), .val (.int e'), .val (.int f'), .val (.ref b1), .val (.int k0), .val (.int k1), .val (.int k2), .val (.int (own_nx (own_nx (0 : Int32) k0) k1)), .unset, .unset, .unset] [(.int k2), (.int l2), (.int (own_nx (own_nx (0 : Int32) k0) k1)), (.ref b1)])) rfl (by rw [hml]; rfl) (argsL := [(.ref b1), (.int (own_nx (own_nx (0 : Int32) k0) k1)), (.int l2), (.int k2)]) (rest := []) (lenOf own_pd3 rfl) rfl (by show 2 * 0 + _ ≤ _; exact Nat.le_of_eq rfl) (hb hby at_72) (fun _ _ => ⟨rfl, e6, (by decide : 1 + 0 ≤ _), (by decide : 12 + 0 ≤ _)⟩)
  dsimp only [Pt.U, Pt.locs, Pt.cells, Pt.slots] at X7 l7 y7 z7 st7 hQ7
  subst l7 y7 z7
  obtain ⟨h7, e7⟩ : ∃ h, T7.heap = h := ⟨_, rfl⟩
  rw [e7] at hQ7
  obtain ⟨rfl, N7q, K7, V7⟩ := hQ7
  have N7 := Fr.app N6 N7q
  refine own_w (T' := T7) (g' := (mkF m 75 #[.val (.int p'), .val (.int q'), .val (.int r'), .val (.int d), .val (.int e'), .val (.int f'), .val (.ref b1), .val (.int k0), .val (.int k1), .val (.int k2), .val (.int (own_nx (own_nx (0 : Int32) k0) k1)), .unset, .unset, .unset] [(.int (own_nx (own_nx (own_nx (0 : Int32) k0) k1) k2))])) st7 ?_
  have Z7 : n0 ≤ h7.size := Nat.le_trans Z5 K7.1
  have bl2 := own_br_len k2
  have hn2 : (own_nx (own_nx (own_nx (0 : Int32) k0) k1) k2).toInt = ((((((([] : List Int32) ++ (l0 :: own_br k0)) ++ (l1 :: own_br k1)) ++ (l2 :: own_br k2))).length : Nat) : Int) := by rw [own_nx_int (a := (((([] : List Int32) ++ (l0 :: own_br k0)) ++ (l1 :: own_br k1))).length) k2 hn1 (by first | (simp <;> omega) | omega)]; simp <;> omega
  refine own_w (T' := T7) (g' := (mkF m 77 #[.val (.int p'), .val (.int q'), .val (.int r'), .val (.int d), .val (.int e'), .val (.int f'), .val (.ref b1), .val (.int k0), .val (.int k1), .val (.int k2), .val (.int (own_nx (own_nx (own_nx (0 : Int32) k0) k1) k2)), .unset, .unset, .unset] [])) (fun _ k_ => XS.istore X7.here hx rfl (hb hby at_75) rfl (l' := #[.val (.int p'), .val (.int q'), .val (.int r'), .val (.int d), .val (.int e'), .val (.int f'), .val (.ref b1), .val (.int k0), .val (.int k1), .val (.int k2), .val (.int (own_nx (own_nx (own_nx (0 : Int32) k0) k1) k2)), .unset, .unset, .unset]) rfl k_) ?_
  refine own_w (T' := T7) (g' := (mkF m 79 #[.val (.int p'), .val (.int q'), .val (.int r'), .val (.int d), .val (.int e'), .val (.int f'), .val (.ref b1), .val (.int k0), .val (.int k1), .val (.int k2), .val (.int (own_nx (own_nx (own_nx (0 : Int32) k0) k1) k2)), .unset, .unset, .unset] [(.int k0)])) (fun _ k_ => XS.iload X7.here hx rfl (hb hby at_77) rfl k_) ?_
  generalize hw' : (((([] : List Int32) ++ (l0 :: own_br k0)) ++ (l1 :: own_br k1)) ++ (l2 :: own_br k2)) = w at *
  generalize (((((((List.replicate 12 (0 : Int32))).drop (1 + (own_br k0).length))).drop (1 + (own_br k1).length))).drop (1 + (own_br k2).length)) = zs at *
  generalize (own_nx (own_nx (own_nx (0 : Int32) k0) k1) k2) = nn at *
  have hlaw := own_law hw'.symm hl0.2.1 hl0.2.2 hl1.2.1 hl1.2.2 hl2.2.1 hl2.2.2 (hk0 ▸ own_m7 _) (hk1 ▸ own_m7 _) (hk2 ▸ own_m7 _)
  rw [own_S0] at hlaw
  obtain ⟨_, _, ⟨T8, L8, k8, n8⟩, -, X8, ⟨Lc8, hQ8, l8, y8, z8⟩, st8⟩ := Jvm.LawKit.callS X7 hx (y := (⟨"com/example/holdfast/holdfast/LineBreaksEndsPinLaw", "lines", "(I)I"⟩ : MethodName)) hown (mvT hZ (hw _ (List.mem_of_getElem? (i := 12) rfl))) (mvT hZ (hw _ (List.mem_of_getElem? (i := 13) rfl))) (mvT hZ (hw _ (List.mem_of_getElem? (i := 3) rfl))) (mvT hZ (hw _ (List.mem_of_getElem? (i := 14) rfl))) (by decide) (backOf (W := 0) (own_rm4 l Z a0 hw [] k0  h7 n0 Z7 ) hZ (hw _ (List.mem_of_getElem? (i := 14) rfl)) (hw _ (List.mem_of_getElem? (i := 3) rfl)) (by decide) (by decide)) (g := (mkF m 79 #[.val (.int p'), .val (.int q'), .val (.int r'), .val (.int d), .val (.int e'), .val (.int f'), .val (.ref b1), .val (.int k0), .val (.int k1), .val (.int k2), .val (.int nn), .unset, .unset, .unset] [(.int k0)])) rfl (by rw [hml]; rfl) (argsL := [(.int k0)]) (rest := []) (lenOf own_pd4 rfl) rfl (by show 2 * 0 + _ ≤ _; exact Nat.le_of_eq rfl) (hb hby at_79) (fun _ _ => ⟨rfl, e7, (by decide : 1 + 0 ≤ _), (by decide : 12 + 0 ≤ _)⟩)
  dsimp only [Pt.U, Pt.locs, Pt.cells, Pt.slots] at X8 l8 y8 z8 st8 hQ8
  subst l8 y8 z8
  obtain ⟨rfl, N8q, e8⟩ := hQ8
  have N8 := Fr.app N7 N8q
  refine own_w (T' := T8) (g' := (mkF m 82 #[.val (.int p'), .val (.int q'), .val (.int r'), .val (.int d), .val (.int e'), .val (.int f'), .val (.ref b1), .val (.int k0), .val (.int k1), .val (.int k2), .val (.int nn), .unset, .unset, .unset] [(.int (own_lines k0))])) st8 ?_
  refine own_w (T' := T8) (g' := (mkF m 84 #[.val (.int p'), .val (.int q'), .val (.int r'), .val (.int d), .val (.int e'), .val (.int f'), .val (.ref b1), .val (.int k0), .val (.int k1), .val (.int k2), .val (.int nn), .unset, .unset, .unset] [(.int k1), (.int (own_lines k0))])) (fun _ k_ => XS.iload X8.here hx rfl (hb hby at_82) rfl k_) ?_
  obtain ⟨_, _, ⟨T9, L9, k9, n9⟩, -, X9, ⟨Lc9, hQ9, l9, y9, z9⟩, st9⟩ := Jvm.LawKit.callS X8 hx (y := (⟨"com/example/holdfast/holdfast/LineBreaksEndsPinLaw", "lines", "(I)I"⟩ : MethodName)) hown (mvT hZ (hw _ (List.mem_of_getElem? (i := 12) rfl))) (mvT hZ (hw _ (List.mem_of_getElem? (i := 13) rfl))) (mvT hZ (hw _ (List.mem_of_getElem? (i := 3) rfl))) (mvT hZ (hw _ (List.mem_of_getElem? (i := 14) rfl))) (by decide) (backOf (W := 1) (own_rm4 l Z a0 hw [] k1  h7 n0 Z7 ) hZ (hw _ (List.mem_of_getElem? (i := 14) rfl)) (hw _ (List.mem_of_getElem? (i := 3) rfl)) (by decide) (by decide)) (g := (mkF m 84 #[.val (.int p'), .val (.int q'), .val (.int r'), .val (.int d), .val (.int e'), .val (.int f'), .val (.ref b1), .val (.int k0), .val (.int k1), .val (.int k2), .val (.int nn), .unset, .unset, .unset] [(.int k1), (.int (own_lines k0))])) rfl (by rw [hml]; rfl) (argsL := [(.int k1)]) (rest := [(.int (own_lines k0))]) (lenOf own_pd4 rfl) rfl (by show 2 * 0 + _ ≤ _; exact Nat.le_of_eq rfl) (hb hby at_84) (fun _ _ => ⟨rfl, e8, (by decide : 1 + 0 ≤ _), (by decide : 12 + 0 ≤ _)⟩)
  dsimp only [Pt.U, Pt.locs, Pt.cells, Pt.slots] at X9 l9 y9 z9 st9 hQ9
  subst l9 y9 z9
  obtain ⟨rfl, N9q, e9⟩ := hQ9
  have N9 := Fr.app N8 N9q
  refine own_w (T' := T9) (g' := (mkF m 87 #[.val (.int p'), .val (.int q'), .val (.int r'), .val (.int d), .val (.int e'), .val (.int f'), .val (.ref b1), .val (.int k0), .val (.int k1), .val (.int k2), .val (.int nn), .unset, .unset, .unset] [(.int (own_lines k1)), (.int (own_lines k0))])) st9 ?_
  refine own_w (T' := T9) (g' := (mkF m 88 #[.val (.int p'), .val (.int q'), .val (.int r'), .val (.int d), .val (.int e'), .val (.int f'), .val (.ref b1), .val (.int k0), .val (.int k1), .val (.int k2), .val (.int nn), .unset, .unset, .unset] [(.int ((own_lines k0) + (own_lines k1)))])) (fun _ k_ => XS.iadd X9.here hx rfl (hb hby at_87) rfl k_) ?_
  refine own_w (T' := T9) (g' := (mkF m 90 #[.val (.int p'), .val (.int q'), .val (.int r'), .val (.int d), .val (.int e'), .val (.int f'), .val (.ref b1), .val (.int k0), .val (.int k1), .val (.int k2), .val (.int nn), .unset, .unset, .unset] [(.int k2), (.int ((own_lines k0) + (own_lines k1)))])) (fun _ k_ => XS.iload X9.here hx rfl (hb hby at_88) rfl k_) ?_
  obtain ⟨_, _, ⟨T10, L10, k10, n10⟩, -, X10, ⟨Lc10, hQ10, l10, y10, z10⟩, st10⟩ := Jvm.LawKit.callS X9 hx (y := (⟨"com/example/holdfast/holdfast/LineBreaksEndsPinLaw", "lines", "(I)I"⟩ : MethodName)) hown (mvT hZ (hw _ (List.mem_of_getElem? (i := 12) rfl))) (mvT hZ (hw _ (List.mem_of_getElem? (i := 13) rfl))) (mvT hZ (hw _ (List.mem_of_getElem? (i := 3) rfl))) (mvT hZ (hw _ (List.mem_of_getElem? (i := 14) rfl))) (by decide) (backOf (W := 1) (own_rm4 l Z a0 hw [] k2  h7 n0 Z7 ) hZ (hw _ (List.mem_of_getElem? (i := 14) rfl)) (hw _ (List.mem_of_getElem? (i := 3) rfl)) (by decide) (by decide)) (g := (mkF m 90 #[.val (.int p'), .val (.int q'), .val (.int r'), .val (.int d), .val (.int e'), .val (.int f'), .val (.ref b1), .val (.int k0), .val (.int k1), .val (.int k2), .val (.int nn), .unset, .unset, .unset] [(.int k2), (.int ((own_lines k0) + (own_lines k1)))])) rfl (by rw [hml]; rfl) (argsL := [(.int k2)]) (rest := [(.int ((own_lines k0) + (own_lines k1)))]) (lenOf own_pd4 rfl) rfl (by show 2 * 0 + _ ≤ _; exact Nat.le_of_eq rfl) (hb hby at_90) (fun _ _ => ⟨rfl, e9, (by decide : 1 + 0 ≤ _), (by decide : 12 + 0 ≤ _)⟩)
  dsimp only [Pt.U, Pt.locs, Pt.cells, Pt.slots] at X10 l10 y10 z10 st10 hQ10
  subst l10 y10 z10
  obtain ⟨rfl, N10q, e10⟩ := hQ10
  have N10 := Fr.app N9 N10q
  refine own_w (T' := T10) (g' := (mkF m 93 #[.val (.int p'), .val (.int q'), .val (.int r'), .val (.int d), .val (.int e'), .val (.int f'), .val (.ref b1), .val (.int k0), .val (.int k1), .val (.int k2), .val (.int nn), .unset, .unset, .unset] [(.int (own_lines k2)), (.int ((own_lines k0) + (own_lines k1)))])) st10 ?_
  refine own_w (T' := T10) (g' := (mkF m 94 #[.val (.int p'), .val (.int q'), .val (.int r'), .val (.int d), .val (.int e'), .val (.int f'), .val (.ref b1), .val (.int k0), .val (.int k1), .val (.int k2), .val (.int nn), .unset, .unset, .unset] [(.int (((own_lines k0) + (own_lines k1)) + (own_lines k2)))])) (fun _ k_ => XS.iadd X10.here hx rfl (hb hby at_93) rfl k_) ?_
  refine own_w (T' := T10) (g' := (mkF m 96 #[.val (.int p'), .val (.int q'), .val (.int r'), .val (.int d), .val (.int e'), .val (.int f'), .val (.ref b1), .val (.int k0), .val (.int k1), .val (.int k2), .val (.int nn), .val (.int (((own_lines k0) + (own_lines k1)) + (own_lines k2))), .unset, .unset] [])) (fun _ k_ => XS.istore X10.here hx rfl (hb hby at_94) rfl (l' := #[.val (.int p'), .val (.int q'), .val (.int r'), .val (.int d), .val (.int e'), .val (.int f'), .val (.ref b1), .val (.int k0), .val (.int k1), .val (.int k2), .val (.int nn), .val (.int (((own_lines k0) + (own_lines k1)) + (own_lines k2))), .unset, .unset]) rfl k_) ?_
  refine own_w (T' := T10) (g' := (mkF m 98 #[.val (.int p'), .val (.int q'), .val (.int r'), .val (.int d), .val (.int e'), .val (.int f'), .val (.ref b1), .val (.int k0), .val (.int k1), .val (.int k2), .val (.int nn), .val (.int (((own_lines k0) + (own_lines k1)) + (own_lines k2))), .unset, .unset] [(.ref b1)])) (fun _ k_ => XS.aload X10.here hx rfl (hb hby at_96) rfl rfl k_) ?_
  refine own_w (T' := T10) (g' := (mkF m 100 #[.val (.int p'), .val (.int q'), .val (.int r'), .val (.int d), .val (.int e'), .val (.int f'), .val (.ref b1), .val (.int k0), .val (.int k1), .val (.int k2), .val (.int nn), .val (.int (((own_lines k0) + (own_lines k1)) + (own_lines k2))), .unset, .unset] [(.int nn), (.ref b1)])) (fun _ k_ => XS.iload X10.here hx rfl (hb hby at_98) rfl k_) ?_
  refine own_w (T' := T10) (g' := (mkF m 101 #[.val (.int p'), .val (.int q'), .val (.int r'), .val (.int d), .val (.int e'), .val (.int f'), .val (.ref b1), .val (.int k0), .val (.int k1), .val (.int k2), .val (.int nn), .val (.int (((own_lines k0) + (own_lines k1)) + (own_lines k2))), .unset, .unset] [(.int (0 : Int32)), (.int nn), (.ref b1)])) (fun _ k_ => XS.iconst X10.here hx rfl (hb hby at_100) k_) ?_
  obtain ⟨_, _, ⟨T11, L11, k11, n11⟩, -, X11, ⟨Lc11, hQ11, l11, y11, z11⟩, st11⟩ := Jvm.LawKit.callS X10 hx (y := (⟨"com/example/holdfast/holdfast/LineBreaksEndsPinLaw", "at", "([CII)I"⟩ : MethodName)) hown (mvT hZ (hw _ (List.mem_of_getElem? (i := 15) rfl))) (mvT hZ (hw _ (List.mem_of_getElem? (i := 16) rfl))) (mvT hZ (hw _ (List.mem_of_getElem? (i := 3) rfl))) (mvT hZ (hw _ (List.mem_of_getElem? (i := 17) rfl))) (by decide) (backOf (W := 0) (own_rm5 l Z a0 hw [] b1 nn (0 : Int32) w zs 0 h7 n0 Z7 V7 hn2 (by decide) (by decide)) hZ (hw _ (List.mem_of_getElem? (i := 17) rfl)) (hw _ (List.mem_of_getElem? (i := 3) rfl)) (by decide) (by decide)) (g := (mkF m 101 #[.val (.int p'), .val (.int q'), .val (.int r'), .val (.int d), .val (.int e'), .val (.int f'), .val (.ref b1), .val (.int k0), .val (.int k1), .val (.int k2), .val (.int nn), .val (.int (((own_lines k0) + (own_lines k1)) + (own_lines k2))), .unset, .unset] [(.int (0 : Int32)), (.int nn), (.ref b1)])) rfl (by rw [hml]; rfl) (argsL := [(.ref b1), (.int nn), (.int (0 : Int32))]) (rest := []) (lenOf own_pd5 rfl) rfl (by show 2 * 0 + _ ≤ _; exact Nat.le_of_eq rfl) (hb hby at_101) (fun _ _ => ⟨rfl, e10, (by decide : 1 + 0 ≤ _), (by decide : 12 + 0 ≤ _)⟩)
  dsimp only [Pt.U, Pt.locs, Pt.cells, Pt.slots] at X11 l11 y11 z11 st11 hQ11
  subst l11 y11 z11
  obtain ⟨rfl, N11q, e11⟩ := hQ11
  have N11 := Fr.app N10 N11q
  refine own_w (T' := T11) (g' := (mkF m 104 #[.val (.int p'), .val (.int q'), .val (.int r'), .val (.int d), .val (.int e'), .val (.int f'), .val (.ref b1), .val (.int k0), .val (.int k1), .val (.int k2), .val (.int nn), .val (.int (((own_lines k0) + (own_lines k1)) + (own_lines k2))), .unset, .unset] [(.int (own_at w 0))])) st11 ?_
  refine own_w (T' := T11) (g' := (mkF m 106 #[.val (.int p'), .val (.int q'), .val (.int r'), .val (.int d), .val (.int e'), .val (.int f'), .val (.ref b1), .val (.int k0), .val (.int k1), .val (.int k2), .val (.int nn), .val (.int (((own_lines k0) + (own_lines k1)) + (own_lines k2))), .unset, .unset] [(.ref b1), (.int (own_at w 0))])) (fun _ k_ => XS.aload X11.here hx rfl (hb hby at_104) rfl rfl k_) ?_
  refine own_w (T' := T11) (g' := (mkF m 108 #[.val (.int p'), .val (.int q'), .val (.int r'), .val (.int d), .val (.int e'), .val (.int f'), .val (.ref b1), .val (.int k0), .val (.int k1), .val (.int k2), .val (.int nn), .val (.int (((own_lines k0) + (own_lines k1)) + (own_lines k2))), .unset, .unset] [(.int nn), (.ref b1), (.int (own_at w 0))])) (fun _ k_ => XS.iload X11.here hx rfl (hb hby at_106) rfl k_) ?_
  refine own_w (T' := T11) (g' := (mkF m 109 #[.val (.int p'), .val (.int q'), .val (.int r'), .val (.int d), .val (.int e'), .val (.int f'), .val (.ref b1), .val (.int k0), .val (.int k1), .val (.int k2), .val (.int nn), .val (.int (((own_lines k0) + (own_lines k1)) + (own_lines k2))), .unset, .unset] [(.int (1 : Int32)), (.int nn), (.ref b1), (.int (own_at w 0))])) (fun _ k_ => XS.iconst X11.here hx rfl (hb hby at_108) k_) ?_
  obtain ⟨_, _, ⟨T12, L12, k12, n12⟩, -, X12, ⟨Lc12, hQ12, l12, y12, z12⟩, st12⟩ := Jvm.LawKit.callS X11 hx (y := (⟨"com/example/holdfast/holdfast/LineBreaksEndsPinLaw", "at", "([CII)I"⟩ : MethodName)) hown (mvT hZ (hw _ (List.mem_of_getElem? (i := 15) rfl))) (mvT hZ (hw _ (List.mem_of_getElem? (i := 16) rfl))) (mvT hZ (hw _ (List.mem_of_getElem? (i := 3) rfl))) (mvT hZ (hw _ (List.mem_of_getElem? (i := 17) rfl))) (by decide) (backOf (W := 1) (own_rm5 l Z a0 hw [] b1 nn (1 : Int32) w zs 1 h7 n0 Z7 V7 hn2 (by decide) (by decide)) hZ (hw _ (List.mem_of_getElem? (i := 17) rfl)) (hw _ (List.mem_of_getElem? (i := 3) rfl)) (by decide) (by decide)) (g := (mkF m 109 #[.val (.int p'), .val (.int q'), .val (.int r'), .val (.int d), .val (.int e'), .val (.int f'), .val (.ref b1), .val (.int k0), .val (.int k1), .val (.int k2), .val (.int nn), .val (.int (((own_lines k0) + (own_lines k1)) + (own_lines k2))), .unset, .unset] [(.int (1 : Int32)), (.int nn), (.ref b1), (.int (own_at w 0))])) rfl (by rw [hml]; rfl) (argsL := [(.ref b1), (.int nn), (.int (1 : Int32))]) (rest := [(.int (own_at w 0))]) (lenOf own_pd5 rfl) rfl (by show 2 * 0 + _ ≤ _; exact Nat.le_of_eq rfl) (hb hby at_109) (fun _ _ => ⟨rfl, e11, (by decide : 1 + 0 ≤ _), (by decide : 12 + 0 ≤ _)⟩)
  dsimp only [Pt.U, Pt.locs, Pt.cells, Pt.slots] at X12 l12 y12 z12 st12 hQ12
  subst l12 y12 z12
  obtain ⟨rfl, N12q, e12⟩ := hQ12
  have N12 := Fr.app N11 N12q
  refine own_w (T' := T12) (g' := (mkF m 112 #[.val (.int p'), .val (.int q'), .val (.int r'), .val (.int d), .val (.int e'), .val (.int f'), .val (.ref b1), .val (.int k0), .val (.int k1), .val (.int k2), .val (.int nn), .val (.int (((own_lines k0) + (own_lines k1)) + (own_lines k2))), .unset, .unset] [(.int (own_at w 1)), (.int (own_at w 0))])) st12 ?_
  refine own_w (T' := T12) (g' := (mkF m 113 #[.val (.int p'), .val (.int q'), .val (.int r'), .val (.int d), .val (.int e'), .val (.int f'), .val (.ref b1), .val (.int k0), .val (.int k1), .val (.int k2), .val (.int nn), .val (.int (((own_lines k0) + (own_lines k1)) + (own_lines k2))), .unset, .unset] [(.int ((own_at w 0) + (own_at w 1)))])) (fun _ k_ => XS.iadd X12.here hx rfl (hb hby at_112) rfl k_) ?_
  refine own_w (T' := T12) (g' := (mkF m 115 #[.val (.int p'), .val (.int q'), .val (.int r'), .val (.int d), .val (.int e'), .val (.int f'), .val (.ref b1), .val (.int k0), .val (.int k1), .val (.int k2), .val (.int nn), .val (.int (((own_lines k0) + (own_lines k1)) + (own_lines k2))), .unset, .unset] [(.ref b1), (.int ((own_at w 0) + (own_at w 1)))])) (fun _ k_ => XS.aload X12.here hx rfl (hb hby at_113) rfl rfl k_) ?_
  refine own_w (T' := T12) (g' := (mkF m 117 #[.val (.int p'), .val (.int q'), .val (.int r'), .val (.int d), .val (.int e'), .val (.int f'), .val (.ref b1), .val (.int k0), .val (.int k1), .val (.int k2), .val (.int nn), .val (.int (((own_lines k0) + (own_lines k1)) + (own_lines k2))), .unset, .unset] [(.int nn), (.ref b1), (.int ((own_at w 0) + (own_at w 1)))])) (fun _ k_ => XS.iload X12.here hx rfl (hb hby at_115) rfl k_) ?_
  refine own_w (T' := T12) (g' := (mkF m 118 #[.val (.int p'), .val (.int q'), .val (.int r'), .val (.int d), .val (.int e'), .val (.int f'), .val (.ref b1), .val (.int k0), .val (.int k1), .val (.int k2), .val (.int nn), .val (.int (((own_lines k0) + (own_lines k1)) + (own_lines k2))), .unset, .unset] [(.int (2 : Int32)), (.int nn), (.ref b1), (.int ((own_at w 0) + (own_at w 1)))])) (fun _ k_ => XS.iconst X12.here hx rfl (hb hby at_117) k_) ?_
  obtain ⟨_, _, ⟨T13, L13, k13, n13⟩, -, X13, ⟨Lc13, hQ13, l13, y13, z13⟩, st13⟩ := Jvm.LawKit.callS X12 hx (y := (⟨"com/example/holdfast/holdfast/LineBreaksEndsPinLaw", "at", "([CII)I"⟩ : MethodName)) hown (mvT hZ (hw _ (List.mem_of_getElem? (i := 15) rfl))) (mvT hZ (hw _ (List.mem_of_getElem? (i := 16) rfl))) (mvT hZ (hw _ (List.mem_of_getElem? (i := 3) rfl))) (mvT hZ (hw _ (List.mem_of_getElem? (i := 17) rfl))) (by decide) (backOf (W := 1) (own_rm5 l Z a0 hw [] b1 nn (2 : Int32) w zs 2 h7 n0 Z7 V7 hn2 (by decide) (by decide)) hZ (hw _ (List.mem_of_getElem? (i := 17) rfl)) (hw _ (List.mem_of_getElem? (i := 3) rfl)) (by decide) (by decide)) (g := (mkF m 118 #[.val (.int p'), .val (.int q'), .val (.int r'), .val (.int d), .val (.int e'), .val (.int f'), .val (.ref b1), .val (.int k0), .val (.int k1), .val (.int k2), .val (.int nn), .val (.int (((own_lines k0) + (own_lines k1)) + (own_lines k2))), .unset, .unset] [(.int (2 : Int32)), (.int nn), (.ref b1), (.int ((own_at w 0) + (own_at w 1)))])) rfl (by rw [hml]; rfl) (argsL := [(.ref b1), (.int nn), (.int (2 : Int32))]) (rest := [(.int ((own_at w 0) + (own_at w 1)))]) (lenOf own_pd5 rfl) rfl (by show 2 * 0 + _ ≤ _; exact Nat.le_of_eq rfl) (hb hby at_118) (fun _ _ => ⟨rfl, e12, (by decide : 1 + 0 ≤ _), (by decide : 12 + 0 ≤ _)⟩)
  dsimp only [Pt.U, Pt.locs, Pt.cells, Pt.slots] at X13 l13 y13 z13 st13 hQ13
  subst l13 y13 z13
  obtain ⟨rfl, N13q, e13⟩ := hQ13
  have N13 := Fr.app N12 N13q
  refine own_w (T' := T13) (g' := (mkF m 121 #[.val (.int p'), .val (.int q'), .val (.int r'), .val (.int d), .val (.int e'), .val (.int f'), .val (.ref b1), .val (.int k0), .val (.int k1), .val (.int k2), .val (.int nn), .val (.int (((own_lines k0) + (own_lines k1)) + (own_lines k2))), .unset, .unset] [(.int (own_at w 2)), (.int ((own_at w 0) + (own_at w 1)))])) st13 ?_
  refine own_w (T' := T13) (g' := (mkF m 122 #[.val (.int p'), .val (.int q'), .val (.int r'), .val (.int d), .val (.int e'), .val (.int f'), .val (.ref b1), .val (.int k0), .val (.int k1), .val (.int k2), .val (.int nn), .val (.int (((own_lines k0) + (own_lines k1)) + (own_lines k2))), .unset, .unset] [(.int (((own_at w 0) + (own_at w 1)) + (own_at w 2)))])) (fun _ k_ => XS.iadd X13.here hx rfl (hb hby at_121) rfl k_) ?_
  refine own_w (T' := T13) (g' := (mkF m 124 #[.val (.int p'), .val (.int q'), .val (.int r'), .val (.int d), .val (.int e'), .val (.int f'), .val (.ref b1), .val (.int k0), .val (.int k1), .val (.int k2), .val (.int nn), .val (.int (((own_lines k0) + (own_lines k1)) + (own_lines k2))), .unset, .unset] [(.ref b1), (.int (((own_at w 0) + (own_at w 1)) + (own_at w 2)))])) (fun _ k_ => XS.aload X13.here hx rfl (hb hby at_122) rfl rfl k_) ?_
  refine own_w (T' := T13) (g' := (mkF m 126 #[.val (.int p'), .val (.int q'), .val (.int r'), .val (.int d), .val (.int e'), .val (.int f'), .val (.ref b1), .val (.int k0), .val (.int k1), .val (.int k2), .val (.int nn), .val (.int (((own_lines k0) + (own_lines k1)) + (own_lines k2))), .unset, .unset] [(.int nn), (.ref b1), (.int (((own_at w 0) + (own_at w 1)) + (own_at w 2)))])) (fun _ k_ => XS.iload X13.here hx rfl (hb hby at_124) rfl k_) ?_
  refine own_w (T' := T13) (g' := (mkF m 127 #[.val (.int p'), .val (.int q'), .val (.int r'), .val (.int d), .val (.int e'), .val (.int f'), .val (.ref b1), .val (.int k0), .val (.int k1), .val (.int k2), .val (.int nn), .val (.int (((own_lines k0) + (own_lines k1)) + (own_lines k2))), .unset, .unset] [(.int (3 : Int32)), (.int nn), (.ref b1), (.int (((own_at w 0) + (own_at w 1)) + (own_at w 2)))])) (fun _ k_ => XS.iconst X13.here hx rfl (hb hby at_126) k_) ?_
  obtain ⟨_, _, ⟨T14, L14, k14, n14⟩, -, X14, ⟨Lc14, hQ14, l14, y14, z14⟩, st14⟩ := Jvm.LawKit.callS X13 hx (y := (⟨"com/example/holdfast/holdfast/LineBreaksEndsPinLaw", "at", "([CII)I"⟩ : MethodName)) hown (mvT hZ (hw _ (List.mem_of_getElem? (i := 15) rfl))) (mvT hZ (hw _ (List.mem_of_getElem? (i := 16) rfl))) (mvT hZ (hw _ (List.mem_of_getElem? (i := 3) rfl))) (mvT hZ (hw _ (List.mem_of_getElem? (i := 17) rfl))) (by decide) (backOf (W := 1) (own_rm5 l Z a0 hw [] b1 nn (3 : Int32) w zs 3 h7 n0 Z7 V7 hn2 (by decide) (by decide)) hZ (hw _ (List.mem_of_getElem? (i := 17) rfl)) (hw _ (List.mem_of_getElem? (i := 3) rfl)) (by decide) (by decide)) (g := (mkF m 127 #[.val (.int p'), .val (.int q'), .val (.int r'), .val (.int d), .val (.int e'), .val (.int f'), .val (.ref b1), .val (.int k0), .val (.int k1), .val (.int k2), .val (.int nn), .val (.int (((own_lines k0) + (own_lines k1)) + (own_lines k2))), .unset, .unset] [(.int (3 : Int32)), (.int nn), (.ref b1), (.int (((own_at w 0) + (own_at w 1)) + (own_at w 2)))])) rfl (by rw [hml]; rfl) (argsL := [(.ref b1), (.int nn), (.int (3 : Int32))]) (rest := [(.int (((own_at w 0) + (own_at w 1)) + (own_at w 2)))]) (lenOf own_pd5 rfl) rfl (by show 2 * 0 + _ ≤ _; exact Nat.le_of_eq rfl) (hb hby at_127) (fun _ _ => ⟨rfl, e13, (by decide : 1 + 0 ≤ _), (by decide : 12 + 0 ≤ _)⟩)
  dsimp only [Pt.U, Pt.locs, Pt.cells, Pt.slots] at X14 l14 y14 z14 st14 hQ14
  subst l14 y14 z14
  obtain ⟨rfl, N14q, e14⟩ := hQ14
  have N14 := Fr.app N13 N14q
  refine own_w (T' := T14) (g' := (mkF m 130 #[.val (.int p'), .val (.int q'), .val (.int r'), .val (.int d), .val (.int e'), .val (.int f'), .val (.ref b1), .val (.int k0), .val (.int k1), .val (.int k2), .val (.int nn), .val (.int (((own_lines k0) + (own_lines k1)) + (own_lines k2))), .unset, .unset] [(.int (own_at w 3)), (.int (((own_at w 0) + (own_at w 1)) + (own_at w 2)))])) st14 ?_
  refine own_w (T' := T14) (g' := (mkF m 131 #[.val (.int p'), .val (.int q'), .val (.int r'), .val (.int d), .val (.int e'), .val (.int f'), .val (.ref b1), .val (.int k0), .val (.int k1), .val (.int k2), .val (.int nn), .val (.int (((own_lines k0) + (own_lines k1)) + (own_lines k2))), .unset, .unset] [(.int ((((own_at w 0) + (own_at w 1)) + (own_at w 2)) + (own_at w 3)))])) (fun _ k_ => XS.iadd X14.here hx rfl (hb hby at_130) rfl k_) ?_
  refine own_w (T' := T14) (g' := (mkF m 133 #[.val (.int p'), .val (.int q'), .val (.int r'), .val (.int d), .val (.int e'), .val (.int f'), .val (.ref b1), .val (.int k0), .val (.int k1), .val (.int k2), .val (.int nn), .val (.int (((own_lines k0) + (own_lines k1)) + (own_lines k2))), .unset, .unset] [(.ref b1), (.int ((((own_at w 0) + (own_at w 1)) + (own_at w 2)) + (own_at w 3)))])) (fun _ k_ => XS.aload X14.here hx rfl (hb hby at_131) rfl rfl k_) ?_
  refine own_w (T' := T14) (g' := (mkF m 135 #[.val (.int p'), .val (.int q'), .val (.int r'), .val (.int d), .val (.int e'), .val (.int f'), .val (.ref b1), .val (.int k0), .val (.int k1), .val (.int k2), .val (.int nn), .val (.int (((own_lines k0) + (own_lines k1)) + (own_lines k2))), .unset, .unset] [(.int nn), (.ref b1), (.int ((((own_at w 0) + (own_at w 1)) + (own_at w 2)) + (own_at w 3)))])) (fun _ k_ => XS.iload X14.here hx rfl (hb hby at_133) rfl k_) ?_
  refine own_w (T' := T14) (g' := (mkF m 136 #[.val (.int p'), .val (.int q'), .val (.int r'), .val (.int d), .val (.int e'), .val (.int f'), .val (.ref b1), .val (.int k0), .val (.int k1), .val (.int k2), .val (.int nn), .val (.int (((own_lines k0) + (own_lines k1)) + (own_lines k2))), .unset, .unset] [(.int (4 : Int32)), (.int nn), (.ref b1), (.int ((((own_at w 0) + (own_at w 1)) + (own_at w 2)) + (own_at w 3)))])) (fun _ k_ => XS.iconst X14.here hx rfl (hb hby at_135) k_) ?_
  obtain ⟨_, _, ⟨T15, L15, k15, n15⟩, -, X15, ⟨Lc15, hQ15, l15, y15, z15⟩, st15⟩ := Jvm.LawKit.callS X14 hx (y := (⟨"com/example/holdfast/holdfast/LineBreaksEndsPinLaw", "at", "([CII)I"⟩ : MethodName)) hown (mvT hZ (hw _ (List.mem_of_getElem? (i := 15) rfl))) (mvT hZ (hw _ (List.mem_of_getElem? (i := 16) rfl))) (mvT hZ (hw _ (List.mem_of_getElem? (i := 3) rfl))) (mvT hZ (hw _ (List.mem_of_getElem? (i := 17) rfl))) (by decide) (backOf (W := 1) (own_rm5 l Z a0 hw [] b1 nn (4 : Int32) w zs 4 h7 n0 Z7 V7 hn2 (by decide) (by decide)) hZ (hw _ (List.mem_of_getElem? (i := 17) rfl)) (hw _ (List.mem_of_getElem? (i := 3) rfl)) (by decide) (by decide)) (g := (mkF m 136 #[.val (.int p'), .val (.int q'), .val (.int r'), .val (.int d), .val (.int e'), .val (.int f'), .val (.ref b1), .val (.int k0), .val (.int k1), .val (.int k2), .val (.int nn), .val (.int (((own_lines k0) + (own_lines k1)) + (own_lines k2))), .unset, .unset] [(.int (4 : Int32)), (.int nn), (.ref b1), (.int ((((own_at w 0) + (own_at w 1)) + (own_at w 2)) + (own_at w 3)))])) rfl (by rw [hml]; rfl) (argsL := [(.ref b1), (.int nn), (.int (4 : Int32))]) (rest := [(.int ((((own_at w 0) + (own_at w 1)) + (own_at w 2)) + (own_at w 3)))]) (lenOf own_pd5 rfl) rfl (by show 2 * 0 + _ ≤ _; exact Nat.le_of_eq rfl) (hb hby at_136) (fun _ _ => ⟨rfl, e14, (by decide : 1 + 0 ≤ _), (by decide : 12 + 0 ≤ _)⟩)
  dsimp only [Pt.U, Pt.locs, Pt.cells, Pt.slots] at X15 l15 y15 z15 st15 hQ15
  subst l15 y15 z15
  obtain ⟨rfl, N15q, e15⟩ := hQ15
  have N15 := Fr.app N14 N15q
  refine own_w (T' := T15) (g' := (mkF m 139 #[.val (.int p'), .val (.int q'), .val (.int r'), .val (.int d), .val (.int e'), .val (.int f'), .val (.ref b1), .val (.int k0), .val (.int k1), .val (.int k2), .val (.int nn), .val (.int (((own_lines k0) + (own_lines k1)) + (own_lines k2))), .unset, .unset] [(.int (own_at w 4)), (.int ((((own_at w 0) + (own_at w 1)) + (own_at w 2)) + (own_at w 3)))])) st15 ?_
  refine own_w (T' := T15) (g' := (mkF m 140 #[.val (.int p'), .val (.int q'), .val (.int r'), .val (.int d), .val (.int e'), .val (.int f'), .val (.ref b1), .val (.int k0), .val (.int k1), .val (.int k2), .val (.int nn), .val (.int (((own_lines k0) + (own_lines k1)) + (own_lines k2))), .unset, .unset] [(.int (((((own_at w 0) + (own_at w 1)) + (own_at w 2)) + (own_at w 3)) + (own_at w 4)))])) (fun _ k_ => XS.iadd X15.here hx rfl (hb hby at_139) rfl k_) ?_
  refine own_w (T' := T15) (g' := (mkF m 142 #[.val (.int p'), .val (.int q'), .val (.int r'), .val (.int d), .val (.int e'), .val (.int f'), .val (.ref b1), .val (.int k0), .val (.int k1), .val (.int k2), .val (.int nn), .val (.int (((own_lines k0) + (own_lines k1)) + (own_lines k2))), .unset, .unset] [(.ref b1), (.int (((((own_at w 0) + (own_at w 1)) + (own_at w 2)) + (own_at w 3)) + (own_at w 4)))])) (fun _ k_ => XS.aload X15.here hx rfl (hb hby at_140) rfl rfl k_) ?_
  refine own_w (T' := T15) (g' := (mkF m 144 #[.val (.int p'), .val (.int q'), .val (.int r'), .val (.int d), .val (.int e'), .val (.int f'), .val (.ref b1), .val (.int k0), .val (.int k1), .val (.int k2), .val (.int nn), .val (.int (((own_lines k0) + (own_lines k1)) + (own_lines k2))), .unset, .unset] [(.int nn), (.ref b1), (.int (((((own_at w 0) + (own_at w 1)) + (own_at w 2)) + (own_at w 3)) + (own_at w 4)))])) (fun _ k_ => XS.iload X15.here hx rfl (hb hby at_142) rfl k_) ?_
  refine own_w (T' := T15) (g' := (mkF m 145 #[.val (.int p'), .val (.int q'), .val (.int r'), .val (.int d), .val (.int e'), .val (.int f'), .val (.ref b1), .val (.int k0), .val (.int k1), .val (.int k2), .val (.int nn), .val (.int (((own_lines k0) + (own_lines k1)) + (own_lines k2))), .unset, .unset] [(.int (5 : Int32)), (.int nn), (.ref b1), (.int (((((own_at w 0) + (own_at w 1)) + (own_at w 2)) + (own_at w 3)) + (own_at w 4)))])) (fun _ k_ => XS.iconst X15.here hx rfl (hb hby at_144) k_) ?_
  obtain ⟨_, _, ⟨T16, L16, k16, n16⟩, -, X16, ⟨Lc16, hQ16, l16, y16, z16⟩, st16⟩ := Jvm.LawKit.callS X15 hx (y := (⟨"com/example/holdfast/holdfast/LineBreaksEndsPinLaw", "at", "([CII)I"⟩ : MethodName)) hown (mvT hZ (hw _ (List.mem_of_getElem? (i := 15) rfl))) (mvT hZ (hw _ (List.mem_of_getElem? (i := 16) rfl))) (mvT hZ (hw _ (List.mem_of_getElem? (i := 3) rfl))) (mvT hZ (hw _ (List.mem_of_getElem? (i := 17) rfl))) (by decide) (backOf (W := 1) (own_rm5 l Z a0 hw [] b1 nn (5 : Int32) w zs 5 h7 n0 Z7 V7 hn2 (by decide) (by decide)) hZ (hw _ (List.mem_of_getElem? (i := 17) rfl)) (hw _ (List.mem_of_getElem? (i := 3) rfl)) (by decide) (by decide)) (g := (mkF m 145 #[.val (.int p'), .val (.int q'), .val (.int r'), .val (.int d), .val (.int e'), .val (.int f'), .val (.ref b1), .val (.int k0), .val (.int k1), .val (.int k2), .val (.int nn), .val (.int (((own_lines k0) + (own_lines k1)) + (own_lines k2))), .unset, .unset] [(.int (5 : Int32)), (.int nn), (.ref b1), (.int (((((own_at w 0) + (own_at w 1)) + (own_at w 2)) + (own_at w 3)) + (own_at w 4)))])) rfl (by rw [hml]; rfl) (argsL := [(.ref b1), (.int nn), (.int (5 : Int32))]) (rest := [(.int (((((own_at w 0) + (own_at w 1)) + (own_at w 2)) + (own_at w 3)) + (own_at w 4)))]) (lenOf own_pd5 rfl) rfl (by show 2 * 0 + _ ≤ _; exact Nat.le_of_eq rfl) (hb hby at_145) (fun _ _ => ⟨rfl, e15, (by decide : 1 + 0 ≤ _), (by decide : 12 + 0 ≤ _)⟩)
  dsimp only [Pt.U, Pt.locs, Pt.cells, Pt.slots] at X16 l16 y16 z16 st16 hQ16
  subst l16 y16 z16
  obtain ⟨rfl, N16q, e16⟩ := hQ16
  have N16 := Fr.app N15 N16q
  refine own_w (T' := T16) (g' := (mkF m 148 #[.val (.int p'), .val (.int q'), .val (.int r'), .val (.int d), .val (.int e'), .val (.int f'), .val (.ref b1), .val (.int k0), .val (.int k1), .val (.int k2), .val (.int nn), .val (.int (((own_lines k0) + (own_lines k1)) + (own_lines k2))), .unset, .unset] [(.int (own_at w 5)), (.int (((((own_at w 0) + (own_at w 1)) + (own_at w 2)) + (own_at w 3)) + (own_at w 4)))])) st16 ?_
  refine own_w (T' := T16) (g' := (mkF m 149 #[.val (.int p'), .val (.int q'), .val (.int r'), .val (.int d), .val (.int e'), .val (.int f'), .val (.ref b1), .val (.int k0), .val (.int k1), .val (.int k2), .val (.int nn), .val (.int (((own_lines k0) + (own_lines k1)) + (own_lines k2))), .unset, .unset] [(.int ((((((own_at w 0) + (own_at w 1)) + (own_at w 2)) + (own_at w 3)) + (own_at w 4)) + (own_at w 5)))])) (fun _ k_ => XS.iadd X16.here hx rfl (hb hby at_148) rfl k_) ?_
  refine own_w (T' := T16) (g' := (mkF m 151 #[.val (.int p'), .val (.int q'), .val (.int r'), .val (.int d), .val (.int e'), .val (.int f'), .val (.ref b1), .val (.int k0), .val (.int k1), .val (.int k2), .val (.int nn), .val (.int (((own_lines k0) + (own_lines k1)) + (own_lines k2))), .unset, .unset] [(.ref b1), (.int ((((((own_at w 0) + (own_at w 1)) + (own_at w 2)) + (own_at w 3)) + (own_at w 4)) + (own_at w 5)))])) (fun _ k_ => XS.aload X16.here hx rfl (hb hby at_149) rfl rfl k_) ?_
  refine own_w (T' := T16) (g' := (mkF m 153 #[.val (.int p'), .val (.int q'), .val (.int r'), .val (.int d), .val (.int e'), .val (.int f'), .val (.ref b1), .val (.int k0), .val (.int k1), .val (.int k2), .val (.int nn), .val (.int (((own_lines k0) + (own_lines k1)) + (own_lines k2))), .unset, .unset] [(.int nn), (.ref b1), (.int ((((((own_at w 0) + (own_at w 1)) + (own_at w 2)) + (own_at w 3)) + (own_at w 4)) + (own_at w 5)))])) (fun _ k_ => XS.iload X16.here hx rfl (hb hby at_151) rfl k_) ?_
  refine own_w (T' := T16) (g' := (mkF m 155 #[.val (.int p'), .val (.int q'), .val (.int r'), .val (.int d), .val (.int e'), .val (.int f'), .val (.ref b1), .val (.int k0), .val (.int k1), .val (.int k2), .val (.int nn), .val (.int (((own_lines k0) + (own_lines k1)) + (own_lines k2))), .unset, .unset] [(.int (6 : Int32)), (.int nn), (.ref b1), (.int ((((((own_at w 0) + (own_at w 1)) + (own_at w 2)) + (own_at w 3)) + (own_at w 4)) + (own_at w 5)))])) (fun _ k_ => XS.bipush X16.here hx rfl (hb hby at_153) k_) ?_
  obtain ⟨_, _, ⟨T17, L17, k17, n17⟩, -, X17, ⟨Lc17, hQ17, l17, y17, z17⟩, st17⟩ := Jvm.LawKit.callS X16 hx (y := (⟨"com/example/holdfast/holdfast/LineBreaksEndsPinLaw", "at", "([CII)I"⟩ : MethodName)) hown (mvT hZ (hw _ (List.mem_of_getElem? (i := 15) rfl))) (mvT hZ (hw _ (List.mem_of_getElem? (i := 16) rfl))) (mvT hZ (hw _ (List.mem_of_getElem? (i := 3) rfl))) (mvT hZ (hw _ (List.mem_of_getElem? (i := 17) rfl))) (by decide) (backOf (W := 1) (own_rm5 l Z a0 hw [] b1 nn (6 : Int32) w zs 6 h7 n0 Z7 V7 hn2 (by decide) (by decide)) hZ (hw _ (List.mem_of_getElem? (i := 17) rfl)) (hw _ (List.mem_of_getElem? (i := 3) rfl)) (by decide) (by decide)) (g := (mkF m 155 #[.val (.int p'), .val (.int q'), .val (.int r'), .val (.int d), .val (.int e'), .val (.int f'), .val (.ref b1), .val (.int k0), .val (.int k1), .val (.int k2), .val (.int nn), .val (.int (((own_lines k0) + (own_lines k1)) + (own_lines k2))), .unset, .unset] [(.int (6 : Int32)), (.int nn), (.ref b1), (.int ((((((own_at w 0) + (own_at w 1)) + (own_at w 2)) + (own_at w 3)) + (own_at w 4)) + (own_at w 5)))])) rfl (by rw [hml]; rfl) (argsL := [(.ref b1), (.int nn), (.int (6 : Int32))]) (rest := [(.int ((((((own_at w 0) + (own_at w 1)) + (own_at w 2)) + (own_at w 3)) + (own_at w 4)) + (own_at w 5)))]) (lenOf own_pd5 rfl) rfl (by show 2 * 0 + _ ≤ _; exact Nat.le_of_eq rfl) (hb hby at_155) (fun _ _ => ⟨rfl, e16, (by decide : 1 + 0 ≤ _), (by decide : 12 + 0 ≤ _)⟩)
  dsimp only [Pt.U, Pt.locs, Pt.cells, Pt.slots] at X17 l17 y17 z17 st17 hQ17
  subst l17 y17 z17
  obtain ⟨rfl, N17q, e17⟩ := hQ17
  have N17 := Fr.app N16 N17q
  refine own_w (T' := T17) (g' := (mkF m 158 #[.val (.int p'), .val (.int q'), .val (.int r'), .val (.int d), .val (.int e'), .val (.int f'), .val (.ref b1), .val (.int k0), .val (.int k1), .val (.int k2), .val (.int nn), .val (.int (((own_lines k0) + (own_lines k1)) + (own_lines k2))), .unset, .unset] [(.int (own_at w 6)), (.int ((((((own_at w 0) + (own_at w 1)) + (own_at w 2)) + (own_at w 3)) + (own_at w 4)) + (own_at w 5)))])) st17 ?_
  refine own_w (T' := T17) (g' := (mkF m 159 #[.val (.int p'), .val (.int q'), .val (.int r'), .val (.int d), .val (.int e'), .val (.int f'), .val (.ref b1), .val (.int k0), .val (.int k1), .val (.int k2), .val (.int nn), .val (.int (((own_lines k0) + (own_lines k1)) + (own_lines k2))), .unset, .unset] [(.int (((((((own_at w 0) + (own_at w 1)) + (own_at w 2)) + (own_at w 3)) + (own_at w 4)) + (own_at w 5)) + (own_at w 6)))])) (fun _ k_ => XS.iadd X17.here hx rfl (hb hby at_158) rfl k_) ?_
  refine own_w (T' := T17) (g' := (mkF m 161 #[.val (.int p'), .val (.int q'), .val (.int r'), .val (.int d), .val (.int e'), .val (.int f'), .val (.ref b1), .val (.int k0), .val (.int k1), .val (.int k2), .val (.int nn), .val (.int (((own_lines k0) + (own_lines k1)) + (own_lines k2))), .unset, .unset] [(.ref b1), (.int (((((((own_at w 0) + (own_at w 1)) + (own_at w 2)) + (own_at w 3)) + (own_at w 4)) + (own_at w 5)) + (own_at w 6)))])) (fun _ k_ => XS.aload X17.here hx rfl (hb hby at_159) rfl rfl k_) ?_
  refine own_w (T' := T17) (g' := (mkF m 163 #[.val (.int p'), .val (.int q'), .val (.int r'), .val (.int d), .val (.int e'), .val (.int f'), .val (.ref b1), .val (.int k0), .val (.int k1), .val (.int k2), .val (.int nn), .val (.int (((own_lines k0) + (own_lines k1)) + (own_lines k2))), .unset, .unset] [(.int nn), (.ref b1), (.int (((((((own_at w 0) + (own_at w 1)) + (own_at w 2)) + (own_at w 3)) + (own_at w 4)) + (own_at w 5)) + (own_at w 6)))])) (fun _ k_ => XS.iload X17.here hx rfl (hb hby at_161) rfl k_) ?_
  refine own_w (T' := T17) (g' := (mkF m 165 #[.val (.int p'), .val (.int q'), .val (.int r'), .val (.int d), .val (.int e'), .val (.int f'), .val (.ref b1), .val (.int k0), .val (.int k1), .val (.int k2), .val (.int nn), .val (.int (((own_lines k0) + (own_lines k1)) + (own_lines k2))), .unset, .unset] [(.int (7 : Int32)), (.int nn), (.ref b1), (.int (((((((own_at w 0) + (own_at w 1)) + (own_at w 2)) + (own_at w 3)) + (own_at w 4)) + (own_at w 5)) + (own_at w 6)))])) (fun _ k_ => XS.bipush X17.here hx rfl (hb hby at_163) k_) ?_
  obtain ⟨_, _, ⟨T18, L18, k18, n18⟩, -, X18, ⟨Lc18, hQ18, l18, y18, z18⟩, st18⟩ := Jvm.LawKit.callS X17 hx (y := (⟨"com/example/holdfast/holdfast/LineBreaksEndsPinLaw", "at", "([CII)I"⟩ : MethodName)) hown (mvT hZ (hw _ (List.mem_of_getElem? (i := 15) rfl))) (mvT hZ (hw _ (List.mem_of_getElem? (i := 16) rfl))) (mvT hZ (hw _ (List.mem_of_getElem? (i := 3) rfl))) (mvT hZ (hw _ (List.mem_of_getElem? (i := 17) rfl))) (by decide) (backOf (W := 1) (own_rm5 l Z a0 hw [] b1 nn (7 : Int32) w zs 7 h7 n0 Z7 V7 hn2 (by decide) (by decide)) hZ (hw _ (List.mem_of_getElem? (i := 17) rfl)) (hw _ (List.mem_of_getElem? (i := 3) rfl)) (by decide) (by decide)) (g := (mkF m 165 #[.val (.int p'), .val (.int q'), .val (.int r'), .val (.int d), .val (.int e'), .val (.int f'), .val (.ref b1), .val (.int k0), .val (.int k1), .val (.int k2), .val (.int nn), .val (.int (((own_lines k0) + (own_lines k1)) + (own_lines k2))), .unset, .unset] [(.int (7 : Int32)), (.int nn), (.ref b1), (.int (((((((own_at w 0) + (own_at w 1)) + (own_at w 2)) + (own_at w 3)) + (own_at w 4)) + (own_at w 5)) + (own_at w 6)))])) rfl (by rw [hml]; rfl) (argsL := [(.ref b1), (.int nn), (.int (7 : Int32))]) (rest := [(.int (((((((own_at w 0) + (own_at w 1)) + (own_at w 2)) + (own_at w 3)) + (own_at w 4)) + (own_at w 5)) + (own_at w 6)))]) (lenOf own_pd5 rfl) rfl (by show 2 * 0 + _ ≤ _; exact Nat.le_of_eq rfl) (hb hby at_165) (fun _ _ => ⟨rfl, e17, (by decide : 1 + 0 ≤ _), (by decide : 12 + 0 ≤ _)⟩)
  dsimp only [Pt.U, Pt.locs, Pt.cells, Pt.slots] at X18 l18 y18 z18 st18 hQ18
  subst l18 y18 z18
  obtain ⟨rfl, N18q, e18⟩ := hQ18
  have N18 := Fr.app N17 N18q
  refine own_w (T' := T18) (g' := (mkF m 168 #[.val (.int p'), .val (.int q'), .val (.int r'), .val (.int d), .val (.int e'), .val (.int f'), .val (.ref b1), .val (.int k0), .val (.int k1), .val (.int k2), .val (.int nn), .val (.int (((own_lines k0) + (own_lines k1)) + (own_lines k2))), .unset, .unset] [(.int (own_at w 7)), (.int (((((((own_at w 0) + (own_at w 1)) + (own_at w 2)) + (own_at w 3)) + (own_at w 4)) + (own_at w 5)) + (own_at w 6)))])) st18 ?_
  refine own_w (T' := T18) (g' := (mkF m 169 #[.val (.int p'), .val (.int q'), .val (.int r'), .val (.int d), .val (.int e'), .val (.int f'), .val (.ref b1), .val (.int k0), .val (.int k1), .val (.int k2), .val (.int nn), .val (.int (((own_lines k0) + (own_lines k1)) + (own_lines k2))), .unset, .unset] [(.int ((((((((own_at w 0) + (own_at w 1)) + (own_at w 2)) + (own_at w 3)) + (own_at w 4)) + (own_at w 5)) + (own_at w 6)) + (own_at w 7)))])) (fun _ k_ => XS.iadd X18.here hx rfl (hb hby at_168) rfl k_) ?_
  refine own_w (T' := T18) (g' := (mkF m 171 #[.val (.int p'), .val (.int q'), .val (.int r'), .val (.int d), .val (.int e'), .val (.int f'), .val (.ref b1), .val (.int k0), .val (.int k1), .val (.int k2), .val (.int nn), .val (.int (((own_lines k0) + (own_lines k1)) + (own_lines k2))), .unset, .unset] [(.ref b1), (.int ((((((((own_at w 0) + (own_at w 1)) + (own_at w 2)) + (own_at w 3)) + (own_at w 4)) + (own_at w 5)) + (own_at w 6)) + (own_at w 7)))])) (fun _ k_ => XS.aload X18.here hx rfl (hb hby at_169) rfl rfl k_) ?_
  refine own_w (T' := T18) (g' := (mkF m 173 #[.val (.int p'), .val (.int q'), .val (.int r'), .val (.int d), .val (.int e'), .val (.int f'), .val (.ref b1), .val (.int k0), .val (.int k1), .val (.int k2), .val (.int nn), .val (.int (((own_lines k0) + (own_lines k1)) + (own_lines k2))), .unset, .unset] [(.int nn), (.ref b1), (.int ((((((((own_at w 0) + (own_at w 1)) + (own_at w 2)) + (own_at w 3)) + (own_at w 4)) + (own_at w 5)) + (own_at w 6)) + (own_at w 7)))])) (fun _ k_ => XS.iload X18.here hx rfl (hb hby at_171) rfl k_) ?_
  refine own_w (T' := T18) (g' := (mkF m 175 #[.val (.int p'), .val (.int q'), .val (.int r'), .val (.int d), .val (.int e'), .val (.int f'), .val (.ref b1), .val (.int k0), .val (.int k1), .val (.int k2), .val (.int nn), .val (.int (((own_lines k0) + (own_lines k1)) + (own_lines k2))), .unset, .unset] [(.int (8 : Int32)), (.int nn), (.ref b1), (.int ((((((((own_at w 0) + (own_at w 1)) + (own_at w 2)) + (own_at w 3)) + (own_at w 4)) + (own_at w 5)) + (own_at w 6)) + (own_at w 7)))])) (fun _ k_ => XS.bipush X18.here hx rfl (hb hby at_173) k_) ?_
  obtain ⟨_, _, ⟨T19, L19, k19, n19⟩, -, X19, ⟨Lc19, hQ19, l19, y19, z19⟩, st19⟩ := Jvm.LawKit.callS X18 hx (y := (⟨"com/example/holdfast/holdfast/LineBreaksEndsPinLaw", "at", "([CII)I"⟩ : MethodName)) hown (mvT hZ (hw _ (List.mem_of_getElem? (i := 15) rfl))) (mvT hZ (hw _ (List.mem_of_getElem? (i := 16) rfl))) (mvT hZ (hw _ (List.mem_of_getElem? (i := 3) rfl))) (mvT hZ (hw _ (List.mem_of_getElem? (i := 17) rfl))) (by decide) (backOf (W := 1) (own_rm5 l Z a0 hw [] b1 nn (8 : Int32) w zs 8 h7 n0 Z7 V7 hn2 (by decide) (by decide)) hZ (hw _ (List.mem_of_getElem? (i := 17) rfl)) (hw _ (List.mem_of_getElem? (i := 3) rfl)) (by decide) (by decide)) (g := (mkF m 175 #[.val (.int p'), .val (.int q'), .val (.int r'), .val (.int d), .val (.int e'), .val (.int f'), .val (.ref b1), .val (.int k0), .val (.int k1), .val (.int k2), .val (.int nn), .val (.int (((own_lines k0) + (own_lines k1)) + (own_lines k2))), .unset, .unset] [(.int (8 : Int32)), (.int nn), (.ref b1), (.int ((((((((own_at w 0) + (own_at w 1)) + (own_at w 2)) + (own_at w 3)) + (own_at w 4)) + (own_at w 5)) + (own_at w 6)) + (own_at w 7)))])) rfl (by rw [hml]; rfl) (argsL := [(.ref b1), (.int nn), (.int (8 : Int32))]) (rest := [(.int ((((((((own_at w 0) + (own_at w 1)) + (own_at w 2)) + (own_at w 3)) + (own_at w 4)) + (own_at w 5)) + (own_at w 6)) + (own_at w 7)))]) (lenOf own_pd5 rfl) rfl (by show 2 * 0 + _ ≤ _; exact Nat.le_of_eq rfl) (hb hby at_175) (fun _ _ => ⟨rfl, e18, (by decide : 1 + 0 ≤ _), (by decide : 12 + 0 ≤ _)⟩)
  dsimp only [Pt.U, Pt.locs, Pt.cells, Pt.slots] at X19 l19 y19 z19 st19 hQ19
  subst l19 y19 z19
  obtain ⟨rfl, N19q, e19⟩ := hQ19
  have N19 := Fr.app N18 N19q
  refine own_w (T' := T19) (g' := (mkF m 178 #[.val (.int p'), .val (.int q'), .val (.int r'), .val (.int d), .val (.int e'), .val (.int f'), .val (.ref b1), .val (.int k0), .val (.int k1), .val (.int k2), .val (.int nn), .val (.int (((own_lines k0) + (own_lines k1)) + (own_lines k2))), .unset, .unset] [(.int (own_at w 8)), (.int ((((((((own_at w 0) + (own_at w 1)) + (own_at w 2)) + (own_at w 3)) + (own_at w 4)) + (own_at w 5)) + (own_at w 6)) + (own_at w 7)))])) st19 ?_
  refine own_w (T' := T19) (g' := (mkF m 179 #[.val (.int p'), .val (.int q'), .val (.int r'), .val (.int d), .val (.int e'), .val (.int f'), .val (.ref b1), .val (.int k0), .val (.int k1), .val (.int k2), .val (.int nn), .val (.int (((own_lines k0) + (own_lines k1)) + (own_lines k2))), .unset, .unset] [(.int (((((((((own_at w 0) + (own_at w 1)) + (own_at w 2)) + (own_at w 3)) + (own_at w 4)) + (own_at w 5)) + (own_at w 6)) + (own_at w 7)) + (own_at w 8)))])) (fun _ k_ => XS.iadd X19.here hx rfl (hb hby at_178) rfl k_) ?_
  refine own_w (T' := T19) (g' := (mkF m 181 #[.val (.int p'), .val (.int q'), .val (.int r'), .val (.int d), .val (.int e'), .val (.int f'), .val (.ref b1), .val (.int k0), .val (.int k1), .val (.int k2), .val (.int nn), .val (.int (((own_lines k0) + (own_lines k1)) + (own_lines k2))), .unset, .unset] [(.ref b1), (.int (((((((((own_at w 0) + (own_at w 1)) + (own_at w 2)) + (own_at w 3)) + (own_at w 4)) + (own_at w 5)) + (own_at w 6)) + (own_at w 7)) + (own_at w 8)))])) (fun _ k_ => XS.aload X19.here hx rfl (hb hby at_179) rfl rfl k_) ?_
  refine own_w (T' := T19) (g' := (mkF m 183 #[.val (.int p'), .val (.int q'), .val (.int r'), .val (.int d), .val (.int e'), .val (.int f'), .val (.ref b1), .val (.int k0), .val (.int k1), .val (.int k2), .val (.int nn), .val (.int (((own_lines k0) + (own_lines k1)) + (own_lines k2))), .unset, .unset] [(.int nn), (.ref b1), (.int (((((((((own_at w 0) + (own_at w 1)) + (own_at w 2)) + (own_at w 3)) + (own_at w 4)) + (own_at w 5)) + (own_at w 6)) + (own_at w 7)) + (own_at w 8)))])) (fun _ k_ => XS.iload X19.here hx rfl (hb hby at_181) rfl k_) ?_
  refine own_w (T' := T19) (g' := (mkF m 185 #[.val (.int p'), .val (.int q'), .val (.int r'), .val (.int d), .val (.int e'), .val (.int f'), .val (.ref b1), .val (.int k0), .val (.int k1), .val (.int k2), .val (.int nn), .val (.int (((own_lines k0) + (own_lines k1)) + (own_lines k2))), .unset, .unset] [(.int (9 : Int32)), (.int nn), (.ref b1), (.int (((((((((own_at w 0) + (own_at w 1)) + (own_at w 2)) + (own_at w 3)) + (own_at w 4)) + (own_at w 5)) + (own_at w 6)) + (own_at w 7)) + (own_at w 8)))])) (fun _ k_ => XS.bipush X19.here hx rfl (hb hby at_183) k_) ?_
  obtain ⟨_, _, ⟨T20, L20, k20, n20⟩, -, X20, ⟨Lc20, hQ20, l20, y20, z20⟩, st20⟩ := Jvm.LawKit.callS X19 hx (y := (⟨"com/example/holdfast/holdfast/LineBreaksEndsPinLaw", "at", "([CII)I"⟩ : MethodName)) hown (mvT hZ (hw _ (List.mem_of_getElem? (i := 15) rfl))) (mvT hZ (hw _ (List.mem_of_getElem? (i := 16) rfl))) (mvT hZ (hw _ (List.mem_of_getElem? (i := 3) rfl))) (mvT hZ (hw _ (List.mem_of_getElem? (i := 17) rfl))) (by decide) (backOf (W := 1) (own_rm5 l Z a0 hw [] b1 nn (9 : Int32) w zs 9 h7 n0 Z7 V7 hn2 (by decide) (by decide)) hZ (hw _ (List.mem_of_getElem? (i := 17) rfl)) (hw _ (List.mem_of_getElem? (i := 3) rfl)) (by decide) (by decide)) (g := (mkF m 185 #[.val (.int p'), .val (.int q'), .val (.int r'), .val (.int d), .val (.int e'), .val (.int f'), .val (.ref b1), .val (.int k0), .val (.int k1), .val (.int k2), .val (.int nn), .val (.int (((own_lines k0) + (own_lines k1)) + (own_lines k2))), .unset, .unset] [(.int (9 : Int32)), (.int nn), (.ref b1), (.int (((((((((own_at w 0) + (own_at w 1)) + (own_at w 2)) + (own_at w 3)) + (own_at w 4)) + (own_at w 5)) + (own_at w 6)) + (own_at w 7)) + (own_at w 8)))])) rfl (by rw [hml]; rfl) (argsL := [(.ref b1), (.int nn), (.int (9 : Int32))]) (rest := [(.int (((((((((own_at w 0) + (own_at w 1)) + (own_at w 2)) + (own_at w 3)) + (own_at w 4)) + (own_at w 5)) + (own_at w 6)) + (own_at w 7)) + (own_at w 8)))]) (lenOf own_pd5 rfl) rfl (by show 2 * 0 + _ ≤ _; exact Nat.le_of_eq rfl) (hb hby at_185) (fun _ _ => ⟨rfl, e19, (by decide : 1 + 0 ≤ _), (by decide : 12 + 0 ≤ _)⟩)
  dsimp only [Pt.U, Pt.locs, Pt.cells, Pt.slots] at X20 l20 y20 z20 st20 hQ20
  subst l20 y20 z20
  obtain ⟨rfl, N20q, e20⟩ := hQ20
  have N20 := Fr.app N19 N20q
  refine own_w (T' := T20) (g' := (mkF m 188 #[.val (.int p'), .val (.int q'), .val (.int r'), .val (.int d), .val (.int e'), .val (.int f'), .val (.ref b1), .val (.int k0), .val (.int k1), .val (.int k2), .val (.int nn), .val (.int (((own_lines k0) + (own_lines k1)) + (own_lines k2))), .unset, .unset] [(.int (own_at w 9)), (.int (((((((((own_at w 0) + (own_at w 1)) + (own_at w 2)) + (own_at w 3)) + (own_at w 4)) + (own_at w 5)) + (own_at w 6)) + (own_at w 7)) + (own_at w 8)))])) st20 ?_
  refine own_w (T' := T20) (g' := (mkF m 189 #[.val (.int p'), .val (.int q'), .val (.int r'), .val (.int d), .val (.int e'), .val (.int f'), .val (.ref b1), .val (.int k0), .val (.int k1), .val (.int k2), .val (.int nn), .val (.int (((own_lines k0) + (own_lines k1)) + (own_lines k2))), .unset, .unset] [(.int ((((((((((own_at w 0) + (own_at w 1)) + (own_at w 2)) + (own_at w 3)) + (own_at w 4)) + (own_at w 5)) + (own_at w 6)) + (own_at w 7)) + (own_at w 8)) + (own_at w 9)))])) (fun _ k_ => XS.iadd X20.here hx rfl (hb hby at_188) rfl k_) ?_
  refine own_w (T' := T20) (g' := (mkF m 191 #[.val (.int p'), .val (.int q'), .val (.int r'), .val (.int d), .val (.int e'), .val (.int f'), .val (.ref b1), .val (.int k0), .val (.int k1), .val (.int k2), .val (.int nn), .val (.int (((own_lines k0) + (own_lines k1)) + (own_lines k2))), .unset, .unset] [(.ref b1), (.int ((((((((((own_at w 0) + (own_at w 1)) + (own_at w 2)) + (own_at w 3)) + (own_at w 4)) + (own_at w 5)) + (own_at w 6)) + (own_at w 7)) + (own_at w 8)) + (own_at w 9)))])) (fun _ k_ => XS.aload X20.here hx rfl (hb hby at_189) rfl rfl k_) ?_
  refine own_w (T' := T20) (g' := (mkF m 193 #[.val (.int p'), .val (.int q'), .val (.int r'), .val (.int d), .val (.int e'), .val (.int f'), .val (.ref b1), .val (.int k0), .val (.int k1), .val (.int k2), .val (.int nn), .val (.int (((own_lines k0) + (own_lines k1)) + (own_lines k2))), .unset, .unset] [(.int nn), (.ref b1), (.int ((((((((((own_at w 0) + (own_at w 1)) + (own_at w 2)) + (own_at w 3)) + (own_at w 4)) + (own_at w 5)) + (own_at w 6)) + (own_at w 7)) + (own_at w 8)) + (own_at w 9)))])) (fun _ k_ => XS.iload X20.here hx rfl (hb hby at_191) rfl k_) ?_
  refine own_w (T' := T20) (g' := (mkF m 195 #[.val (.int p'), .val (.int q'), .val (.int r'), .val (.int d), .val (.int e'), .val (.int f'), .val (.ref b1), .val (.int k0), .val (.int k1), .val (.int k2), .val (.int nn), .val (.int (((own_lines k0) + (own_lines k1)) + (own_lines k2))), .unset, .unset] [(.int (10 : Int32)), (.int nn), (.ref b1), (.int ((((((((((own_at w 0) + (own_at w 1)) + (own_at w 2)) + (own_at w 3)) + (own_at w 4)) + (own_at w 5)) + (own_at w 6)) + (own_at w 7)) + (own_at w 8)) + (own_at w 9)))])) (fun _ k_ => XS.bipush X20.here hx rfl (hb hby at_193) k_) ?_
  obtain ⟨_, _, ⟨T21, L21, k21, n21⟩, -, X21, ⟨Lc21, hQ21, l21, y21, z21⟩, st21⟩ := Jvm.LawKit.callS X20 hx (y := (⟨"com/example/holdfast/holdfast/LineBreaksEndsPinLaw", "at", "([CII)I"⟩ : MethodName)) hown (mvT hZ (hw _ (List.mem_of_getElem? (i := 15) rfl))) (mvT hZ (hw _ (List.mem_of_getElem? (i := 16) rfl))) (mvT hZ (hw _ (List.mem_of_getElem? (i := 3) rfl))) (mvT hZ (hw _ (List.mem_of_getElem? (i := 17) rfl))) (by decide) (backOf (W := 1) (own_rm5 l Z a0 hw [] b1 nn (10 : Int32) w zs 10 h7 n0 Z7 V7 hn2 (by decide) (by decide)) hZ (hw _ (List.mem_of_getElem? (i := 17) rfl)) (hw _ (List.mem_of_getElem? (i := 3) rfl)) (by decide) (by decide)) (g := (mkF m 195 #[.val (.int p'), .val (.int q'), .val (.int r'), .val (.int d), .val (.int e'), .val (.int f'), .val (.ref b1), .val (.int k0), .val (.int k1), .val (.int k2), .val (.int nn), .val (.int (((own_lines k0) + (own_lines k1)) + (own_lines k2))), .unset, .unset] [(.int (10 : Int32)), (.int nn), (.ref b1), (.int ((((((((((own_at w 0) + (own_at w 1)) + (own_at w 2)) + (own_at w 3)) + (own_at w 4)) + (own_at w 5)) + (own_at w 6)) + (own_at w 7)) + (own_at w 8)) + (own_at w 9)))])) rfl (by rw [hml]; rfl) (argsL := [(.ref b1), (.int nn), (.int (10 : Int32))]) (rest := [(.int ((((((((((own_at w 0) + (own_at w 1)) + (own_at w 2)) + (own_at w 3)) + (own_at w 4)) + (own_at w 5)) + (own_at w 6)) + (own_at w 7)) + (own_at w 8)) + (own_at w 9)))]) (lenOf own_pd5 rfl) rfl (by show 2 * 0 + _ ≤ _; exact Nat.le_of_eq rfl) (hb hby at_195) (fun _ _ => ⟨rfl, e20, (by decide : 1 + 0 ≤ _), (by decide : 12 + 0 ≤ _)⟩)
  dsimp only [Pt.U, Pt.locs, Pt.cells, Pt.slots] at X21 l21 y21 z21 st21 hQ21
  subst l21 y21 z21
  obtain ⟨rfl, N21q, e21⟩ := hQ21
  have N21 := Fr.app N20 N21q
  refine own_w (T' := T21) (g' := (mkF m 198 #[.val (.int p'), .val (.int q'), .val (.int r'), .val (.int d), .val (.int e'), .val (.int f'), .val (.ref b1), .val (.int k0), .val (.int k1), .val (.int k2), .val (.int nn), .val (.int (((own_lines k0) + (own_lines k1)) + (own_lines k2))), .unset, .unset] [(.int (own_at w 10)), (.int ((((((((((own_at w 0) + (own_at w 1)) + (own_at w 2)) + (own_at w 3)) + (own_at w 4)) + (own_at w 5)) + (own_at w 6)) + (own_at w 7)) + (own_at w 8)) + (own_at w 9)))])) st21 ?_
  refine own_w (T' := T21) (g' := (mkF m 199 #[.val (.int p'), .val (.int q'), .val (.int r'), .val (.int d), .val (.int e'), .val (.int f'), .val (.ref b1), .val (.int k0), .val (.int k1), .val (.int k2), .val (.int nn), .val (.int (((own_lines k0) + (own_lines k1)) + (own_lines k2))), .unset, .unset] [(.int (((((((((((own_at w 0) + (own_at w 1)) + (own_at w 2)) + (own_at w 3)) + (own_at w 4)) + (own_at w 5)) + (own_at w 6)) + (own_at w 7)) + (own_at w 8)) + (own_at w 9)) + (own_at w 10)))])) (fun _ k_ => XS.iadd X21.here hx rfl (hb hby at_198) rfl k_) ?_
  refine own_w (T' := T21) (g' := (mkF m 201 #[.val (.int p'), .val (.int q'), .val (.int r'), .val (.int d), .val (.int e'), .val (.int f'), .val (.ref b1), .val (.int k0), .val (.int k1), .val (.int k2), .val (.int nn), .val (.int (((own_lines k0) + (own_lines k1)) + (own_lines k2))), .unset, .unset] [(.ref b1), (.int (((((((((((own_at w 0) + (own_at w 1)) + (own_at w 2)) + (own_at w 3)) + (own_at w 4)) + (own_at w 5)) + (own_at w 6)) + (own_at w 7)) + (own_at w 8)) + (own_at w 9)) + (own_at w 10)))])) (fun _ k_ => XS.aload X21.here hx rfl (hb hby at_199) rfl rfl k_) ?_
  refine own_w (T' := T21) (g' := (mkF m 203 #[.val (.int p'), .val (.int q'), .val (.int r'), .val (.int d), .val (.int e'), .val (.int f'), .val (.ref b1), .val (.int k0), .val (.int k1), .val (.int k2), .val (.int nn), .val (.int (((own_lines k0) + (own_lines k1)) + (own_lines k2))), .unset, .unset] [(.int nn), (.ref b1), (.int (((((((((((own_at w 0) + (own_at w 1)) + (own_at w 2)) + (own_at w 3)) + (own_at w 4)) + (own_at w 5)) + (own_at w 6)) + (own_at w 7)) + (own_at w 8)) + (own_at w 9)) + (own_at w 10)))])) (fun _ k_ => XS.iload X21.here hx rfl (hb hby at_201) rfl k_) ?_
  refine own_w (T' := T21) (g' := (mkF m 205 #[.val (.int p'), .val (.int q'), .val (.int r'), .val (.int d), .val (.int e'), .val (.int f'), .val (.ref b1), .val (.int k0), .val (.int k1), .val (.int k2), .val (.int nn), .val (.int (((own_lines k0) + (own_lines k1)) + (own_lines k2))), .unset, .unset] [(.int (11 : Int32)), (.int nn), (.ref b1), (.int (((((((((((own_at w 0) + (own_at w 1)) + (own_at w 2)) + (own_at w 3)) + (own_at w 4)) + (own_at w 5)) + (own_at w 6)) + (own_at w 7)) + (own_at w 8)) + (own_at w 9)) + (own_at w 10)))])) (fun _ k_ => XS.bipush X21.here hx rfl (hb hby at_203) k_) ?_
  obtain ⟨_, _, ⟨T22, L22, k22, n22⟩, -, X22, ⟨Lc22, hQ22, l22, y22, z22⟩, st22⟩ := Jvm.LawKit.callS X21 hx (y := (⟨"com/example/holdfast/holdfast/LineBreaksEndsPinLaw", "at", "([CII)I"⟩ : MethodName)) hown (mvT hZ (hw _ (List.mem_of_getElem? (i := 15) rfl))) (mvT hZ (hw _ (List.mem_of_getElem? (i := 16) rfl))) (mvT hZ (hw _ (List.mem_of_getElem? (i := 3) rfl))) (mvT hZ (hw _ (List.mem_of_getElem? (i := 17) rfl))) (by decide) (backOf (W := 1) (own_rm5 l Z a0 hw [] b1 nn (11 : Int32) w zs 11 h7 n0 Z7 V7 hn2 (by decide) (by decide)) hZ (hw _ (List.mem_of_getElem? (i := 17) rfl)) (hw _ (List.mem_of_getElem? (i := 3) rfl)) (by decide) (by decide)) (g := (mkF m 205 #[.val (.int p'), .val (.int q'), .val (.int r'), .val (.int d), .val (.int e'), .val (.int f'), .val (.ref b1), .val (.int k0), .val (.int k1), .val (.int k2), .val (.int nn), .val (.int (((own_lines k0) + (own_lines k1)) + (own_lines k2))), .unset, .unset] [(.int (11 : Int32)), (.int nn), (.ref b1), (.int (((((((((((own_at w 0) + (own_at w 1)) + (own_at w 2)) + (own_at w 3)) + (own_at w 4)) + (own_at w 5)) + (own_at w 6)) + (own_at w 7)) + (own_at w 8)) + (own_at w 9)) + (own_at w 10)))])) rfl (by rw [hml]; rfl) (argsL := [(.ref b1), (.int nn), (.int (11 : Int32))]) (rest := [(.int (((((((((((own_at w 0) + (own_at w 1)) + (own_at w 2)) + (own_at w 3)) + (own_at w 4)) + (own_at w 5)) + (own_at w 6)) + (own_at w 7)) + (own_at w 8)) + (own_at w 9)) + (own_at w 10)))]) (lenOf own_pd5 rfl) rfl (by show 2 * 0 + _ ≤ _; exact Nat.le_of_eq rfl) (hb hby at_205) (fun _ _ => ⟨rfl, e21, (by decide : 1 + 0 ≤ _), (by decide : 12 + 0 ≤ _)⟩)
  dsimp only [Pt.U, Pt.locs, Pt.cells, Pt.slots] at X22 l22 y22 z22 st22 hQ22
  subst l22 y22 z22
  obtain ⟨rfl, N22q, e22⟩ := hQ22
  have N22 := Fr.app N21 N22q
  refine own_w (T' := T22) (g' := (mkF m 208 #[.val (.int p'), .val (.int q'), .val (.int r'), .val (.int d), .val (.int e'), .val (.int f'), .val (.ref b1), .val (.int k0), .val (.int k1), .val (.int k2), .val (.int nn), .val (.int (((own_lines k0) + (own_lines k1)) + (own_lines k2))), .unset, .unset] [(.int (own_at w 11)), (.int (((((((((((own_at w 0) + (own_at w 1)) + (own_at w 2)) + (own_at w 3)) + (own_at w 4)) + (own_at w 5)) + (own_at w 6)) + (own_at w 7)) + (own_at w 8)) + (own_at w 9)) + (own_at w 10)))])) st22 ?_
  refine own_w (T' := T22) (g' := (mkF m 209 #[.val (.int p'), .val (.int q'), .val (.int r'), .val (.int d), .val (.int e'), .val (.int f'), .val (.ref b1), .val (.int k0), .val (.int k1), .val (.int k2), .val (.int nn), .val (.int (((own_lines k0) + (own_lines k1)) + (own_lines k2))), .unset, .unset] [(.int ((((((((((((own_at w 0) + (own_at w 1)) + (own_at w 2)) + (own_at w 3)) + (own_at w 4)) + (own_at w 5)) + (own_at w 6)) + (own_at w 7)) + (own_at w 8)) + (own_at w 9)) + (own_at w 10)) + (own_at w 11)))])) (fun _ k_ => XS.iadd X22.here hx rfl (hb hby at_208) rfl k_) ?_
  refine own_w (T' := T22) (g' := (mkF m 211 #[.val (.int p'), .val (.int q'), .val (.int r'), .val (.int d), .val (.int e'), .val (.int f'), .val (.ref b1), .val (.int k0), .val (.int k1), .val (.int k2), .val (.int nn), .val (.int (((own_lines k0) + (own_lines k1)) + (own_lines k2))), .val (.int ((((((((((((own_at w 0) + (own_at w 1)) + (own_at w 2)) + (own_at w 3)) + (own_at w 4)) + (own_at w 5)) + (own_at w 6)) + (own_at w 7)) + (own_at w 8)) + (own_at w 9)) + (own_at w 10)) + (own_at w 11))), .unset] [])) (fun _ k_ => XS.istore X22.here hx rfl (hb hby at_209) rfl (l' := #[.val (.int p'), .val (.int q'), .val (.int r'), .val (.int d), .val (.int e'), .val (.int f'), .val (.ref b1), .val (.int k0), .val (.int k1), .val (.int k2), .val (.int nn), .val (.int (((own_lines k0) + (own_lines k1)) + (own_lines k2))), .val (.int ((((((((((((own_at w 0) + (own_at w 1)) + (own_at w 2)) + (own_at w 3)) + (own_at w 4)) + (own_at w 5)) + (own_at w 6)) + (own_at w 7)) + (own_at w 8)) + (own_at w 9)) + (own_at w 10)) + (own_at w 11))), .unset]) rfl k_) ?_
  refine own_w (T' := T22) (g' := (mkF m 213 #[.val (.int p'), .val (.int q'), .val (.int r'), .val (.int d), .val (.int e'), .val (.int f'), .val (.ref b1), .val (.int k0), .val (.int k1), .val (.int k2), .val (.int nn), .val (.int (((own_lines k0) + (own_lines k1)) + (own_lines k2))), .val (.int ((((((((((((own_at w 0) + (own_at w 1)) + (own_at w 2)) + (own_at w 3)) + (own_at w 4)) + (own_at w 5)) + (own_at w 6)) + (own_at w 7)) + (own_at w 8)) + (own_at w 9)) + (own_at w 10)) + (own_at w 11))), .unset] [(.int e')])) (fun _ k_ => XS.iload X22.here hx rfl (hb hby at_211) rfl k_) ?_
  refine own_w (T' := T22) (g' := (mkF m 215 #[.val (.int p'), .val (.int q'), .val (.int r'), .val (.int d), .val (.int e'), .val (.int f'), .val (.ref b1), .val (.int k0), .val (.int k1), .val (.int k2), .val (.int nn), .val (.int (((own_lines k0) + (own_lines k1)) + (own_lines k2))), .val (.int ((((((((((((own_at w 0) + (own_at w 1)) + (own_at w 2)) + (own_at w 3)) + (own_at w 4)) + (own_at w 5)) + (own_at w 6)) + (own_at w 7)) + (own_at w 8)) + (own_at w 9)) + (own_at w 10)) + (own_at w 11))), .unset] [(.int (10 : Int32)), (.int e')])) (fun _ k_ => XS.bipush X22.here hx rfl (hb hby at_213) k_) ?_
  by_cases hc215 : e' = (10 : Int32)
  · refine own_w (T' := T22) (g' := (mkF m 235 #[.val (.int p'), .val (.int q'), .val (.int r'), .val (.int d), .val (.int e'), .val (.int f'), .val (.ref b1), .val (.int k0), .val (.int k1), .val (.int k2), .val (.int nn), .val (.int (((own_lines k0) + (own_lines k1)) + (own_lines k2))), .val (.int ((((((((((((own_at w 0) + (own_at w 1)) + (own_at w 2)) + (own_at w 3)) + (own_at w 4)) + (own_at w 5)) + (own_at w 6)) + (own_at w 7)) + (own_at w 8)) + (own_at w 9)) + (own_at w 10)) + (own_at w 11))), .unset] [])) (fun _ k_ => XS.icmpYes X22.here hx rfl (pc0 := 215) (pc' := 235) rfl (hb hby at_215) rfl (teq hc215).1 (by decide) (by decide) k_) ?_
    refine own_w (T' := T22) (g' := (mkF m 236 #[.val (.int p'), .val (.int q'), .val (.int r'), .val (.int d), .val (.int e'), .val (.int f'), .val (.ref b1), .val (.int k0), .val (.int k1), .val (.int k2), .val (.int nn), .val (.int (((own_lines k0) + (own_lines k1)) + (own_lines k2))), .val (.int ((((((((((((own_at w 0) + (own_at w 1)) + (own_at w 2)) + (own_at w 3)) + (own_at w 4)) + (own_at w 5)) + (own_at w 6)) + (own_at w 7)) + (own_at w 8)) + (own_at w 9)) + (own_at w 10)) + (own_at w 11))), .unset] [(.int (1 : Int32))])) (fun _ k_ => XS.iconst X22.here hx rfl (hb hby at_235) k_) ?_
    refine own_w (T' := T22) (g' := (mkF m 240 #[.val (.int p'), .val (.int q'), .val (.int r'), .val (.int d), .val (.int e'), .val (.int f'), .val (.ref b1), .val (.int k0), .val (.int k1), .val (.int k2), .val (.int nn), .val (.int (((own_lines k0) + (own_lines k1)) + (own_lines k2))), .val (.int ((((((((((((own_at w 0) + (own_at w 1)) + (own_at w 2)) + (own_at w 3)) + (own_at w 4)) + (own_at w 5)) + (own_at w 6)) + (own_at w 7)) + (own_at w 8)) + (own_at w 9)) + (own_at w 10)) + (own_at w 11))), .unset] [(.int (1 : Int32))])) (fun _ k_ => XS.goto X22.here hx rfl (pc0 := 236) (pc' := 240) rfl (hb hby at_236) (by decide) (by decide) k_) ?_
    refine own_w (T' := T22) (g' := (mkF m 242 #[.val (.int p'), .val (.int q'), .val (.int r'), .val (.int d), .val (.int e'), .val (.int f'), .val (.ref b1), .val (.int k0), .val (.int k1), .val (.int k2), .val (.int nn), .val (.int (((own_lines k0) + (own_lines k1)) + (own_lines k2))), .val (.int ((((((((((((own_at w 0) + (own_at w 1)) + (own_at w 2)) + (own_at w 3)) + (own_at w 4)) + (own_at w 5)) + (own_at w 6)) + (own_at w 7)) + (own_at w 8)) + (own_at w 9)) + (own_at w 10)) + (own_at w 11))), .val (.int (1 : Int32))] [])) (fun _ k_ => XS.istore X22.here hx rfl (hb hby at_240) rfl (l' := #[.val (.int p'), .val (.int q'), .val (.int r'), .val (.int d), .val (.int e'), .val (.int f'), .val (.ref b1), .val (.int k0), .val (.int k1), .val (.int k2), .val (.int nn), .val (.int (((own_lines k0) + (own_lines k1)) + (own_lines k2))), .val (.int ((((((((((((own_at w 0) + (own_at w 1)) + (own_at w 2)) + (own_at w 3)) + (own_at w 4)) + (own_at w 5)) + (own_at w 6)) + (own_at w 7)) + (own_at w 8)) + (own_at w 9)) + (own_at w 10)) + (own_at w 11))), .val (.int (1 : Int32))]) rfl k_) ?_
    refine own_w (T' := T22) (g' := (mkF m 244 #[.val (.int p'), .val (.int q'), .val (.int r'), .val (.int d), .val (.int e'), .val (.int f'), .val (.ref b1), .val (.int k0), .val (.int k1), .val (.int k2), .val (.int nn), .val (.int (((own_lines k0) + (own_lines k1)) + (own_lines k2))), .val (.int ((((((((((((own_at w 0) + (own_at w 1)) + (own_at w 2)) + (own_at w 3)) + (own_at w 4)) + (own_at w 5)) + (own_at w 6)) + (own_at w 7)) + (own_at w 8)) + (own_at w 9)) + (own_at w 10)) + (own_at w 11))), .val (.int (1 : Int32))] [(.int ((((((((((((own_at w 0) + (own_at w 1)) + (own_at w 2)) + (own_at w 3)) + (own_at w 4)) + (own_at w 5)) + (own_at w 6)) + (own_at w 7)) + (own_at w 8)) + (own_at w 9)) + (own_at w 10)) + (own_at w 11)))])) (fun _ k_ => XS.iload X22.here hx rfl (hb hby at_242) rfl k_) ?_
    refine own_w (T' := T22) (g' := (mkF m 246 #[.val (.int p'), .val (.int q'), .val (.int r'), .val (.int d), .val (.int e'), .val (.int f'), .val (.ref b1), .val (.int k0), .val (.int k1), .val (.int k2), .val (.int nn), .val (.int (((own_lines k0) + (own_lines k1)) + (own_lines k2))), .val (.int ((((((((((((own_at w 0) + (own_at w 1)) + (own_at w 2)) + (own_at w 3)) + (own_at w 4)) + (own_at w 5)) + (own_at w 6)) + (own_at w 7)) + (own_at w 8)) + (own_at w 9)) + (own_at w 10)) + (own_at w 11))), .val (.int (1 : Int32))] [(.int (((own_lines k0) + (own_lines k1)) + (own_lines k2))), (.int ((((((((((((own_at w 0) + (own_at w 1)) + (own_at w 2)) + (own_at w 3)) + (own_at w 4)) + (own_at w 5)) + (own_at w 6)) + (own_at w 7)) + (own_at w 8)) + (own_at w 9)) + (own_at w 10)) + (own_at w 11)))])) (fun _ k_ => XS.iload X22.here hx rfl (hb hby at_244) rfl k_) ?_
    refine own_w (T' := T22) (g' := (mkF m 249 #[.val (.int p'), .val (.int q'), .val (.int r'), .val (.int d), .val (.int e'), .val (.int f'), .val (.ref b1), .val (.int k0), .val (.int k1), .val (.int k2), .val (.int nn), .val (.int (((own_lines k0) + (own_lines k1)) + (own_lines k2))), .val (.int ((((((((((((own_at w 0) + (own_at w 1)) + (own_at w 2)) + (own_at w 3)) + (own_at w 4)) + (own_at w 5)) + (own_at w 6)) + (own_at w 7)) + (own_at w 8)) + (own_at w 9)) + (own_at w 10)) + (own_at w 11))), .val (.int (1 : Int32))] [])) (fun _ k_ => XS.icmpNo X22.here hx rfl (hb hby at_246) rfl (teq hlaw).2 k_) ?_
    refine own_w (T' := T22) (g' := (mkF m 251 #[.val (.int p'), .val (.int q'), .val (.int r'), .val (.int d), .val (.int e'), .val (.int f'), .val (.ref b1), .val (.int k0), .val (.int k1), .val (.int k2), .val (.int nn), .val (.int (((own_lines k0) + (own_lines k1)) + (own_lines k2))), .val (.int ((((((((((((own_at w 0) + (own_at w 1)) + (own_at w 2)) + (own_at w 3)) + (own_at w 4)) + (own_at w 5)) + (own_at w 6)) + (own_at w 7)) + (own_at w 8)) + (own_at w 9)) + (own_at w 10)) + (own_at w 11))), .val (.int (1 : Int32))] [(.int (1 : Int32))])) (fun _ k_ => XS.iload X22.here hx rfl (hb hby at_249) rfl k_) ?_
    refine own_w (T' := T22) (g' := (mkF m 254 #[.val (.int p'), .val (.int q'), .val (.int r'), .val (.int d), .val (.int e'), .val (.int f'), .val (.ref b1), .val (.int k0), .val (.int k1), .val (.int k2), .val (.int nn), .val (.int (((own_lines k0) + (own_lines k1)) + (own_lines k2))), .val (.int ((((((((((((own_at w 0) + (own_at w 1)) + (own_at w 2)) + (own_at w 3)) + (own_at w 4)) + (own_at w 5)) + (own_at w 6)) + (own_at w 7)) + (own_at w 8)) + (own_at w 9)) + (own_at w 10)) + (own_at w 11))), .val (.int (1 : Int32))] [])) (fun _ k_ => XS.ifNo X22.here hx rfl (hb hby at_251) rfl ((if0 _ _).trans (feq (by decide)).1) k_) ?_
    refine own_w (T' := T22) (g' := (mkF m 255 #[.val (.int p'), .val (.int q'), .val (.int r'), .val (.int d), .val (.int e'), .val (.int f'), .val (.ref b1), .val (.int k0), .val (.int k1), .val (.int k2), .val (.int nn), .val (.int (((own_lines k0) + (own_lines k1)) + (own_lines k2))), .val (.int ((((((((((((own_at w 0) + (own_at w 1)) + (own_at w 2)) + (own_at w 3)) + (own_at w 4)) + (own_at w 5)) + (own_at w 6)) + (own_at w 7)) + (own_at w 8)) + (own_at w 9)) + (own_at w 10)) + (own_at w 11))), .val (.int (1 : Int32))] [(.int (1 : Int32))])) (fun _ k_ => XS.iconst X22.here hx rfl (hb hby at_254) k_) ?_
    refine own_w (T' := T22) (g' := (mkF m 259 #[.val (.int p'), .val (.int q'), .val (.int r'), .val (.int d), .val (.int e'), .val (.int f'), .val (.ref b1), .val (.int k0), .val (.int k1), .val (.int k2), .val (.int nn), .val (.int (((own_lines k0) + (own_lines k1)) + (own_lines k2))), .val (.int ((((((((((((own_at w 0) + (own_at w 1)) + (own_at w 2)) + (own_at w 3)) + (own_at w 4)) + (own_at w 5)) + (own_at w 6)) + (own_at w 7)) + (own_at w 8)) + (own_at w 9)) + (own_at w 10)) + (own_at w 11))), .val (.int (1 : Int32))] [(.int (1 : Int32))])) (fun _ k_ => XS.goto X22.here hx rfl (pc0 := 255) (pc' := 259) rfl (hb hby at_255) (by decide) (by decide) k_) ?_
    obtain ⟨fs, hr, hrun, hended, hW, hsame⟩ := X22.leave (v := some (.int (1 : Int32))) (fun h => by rw [Bd.returns] at h; cases h)
    exact ⟨_, _, retOut X22 hx Bd.returns rfl (Or.inl ⟨rfl, Or.inr (Or.inl rfl), _, rfl⟩) (hb hby at_259) hr, hrun, hended, _, _, rfl, (by show own_Q0 Z p' q' r' d e' f' h0 n0 _ T22.heap _; rw [e22]; exact ⟨rfl, N22⟩), ⟨_, rfl⟩, hW, hsame.mono (by decide) (by decide)⟩
  · refine own_w (T' := T22) (g' := (mkF m 218 #[.val (.int p'), .val (.int q'), .val (.int r'), .val (.int d), .val (.int e'), .val (.int f'), .val (.ref b1), .val (.int k0), .val (.int k1), .val (.int k2), .val (.int nn), .val (.int (((own_lines k0) + (own_lines k1)) + (own_lines k2))), .val (.int ((((((((((((own_at w 0) + (own_at w 1)) + (own_at w 2)) + (own_at w 3)) + (own_at w 4)) + (own_at w 5)) + (own_at w 6)) + (own_at w 7)) + (own_at w 8)) + (own_at w 9)) + (own_at w 10)) + (own_at w 11))), .unset] [])) (fun _ k_ => XS.icmpNo X22.here hx rfl (hb hby at_215) rfl (feq hc215).1 k_) ?_
    refine own_w (T' := T22) (g' := (mkF m 220 #[.val (.int p'), .val (.int q'), .val (.int r'), .val (.int d), .val (.int e'), .val (.int f'), .val (.ref b1), .val (.int k0), .val (.int k1), .val (.int k2), .val (.int nn), .val (.int (((own_lines k0) + (own_lines k1)) + (own_lines k2))), .val (.int ((((((((((((own_at w 0) + (own_at w 1)) + (own_at w 2)) + (own_at w 3)) + (own_at w 4)) + (own_at w 5)) + (own_at w 6)) + (own_at w 7)) + (own_at w 8)) + (own_at w 9)) + (own_at w 10)) + (own_at w 11))), .unset] [(.int e')])) (fun _ k_ => XS.iload X22.here hx rfl (hb hby at_218) rfl k_) ?_
    refine own_w (T' := T22) (g' := (mkF m 222 #[.val (.int p'), .val (.int q'), .val (.int r'), .val (.int d), .val (.int e'), .val (.int f'), .val (.ref b1), .val (.int k0), .val (.int k1), .val (.int k2), .val (.int nn), .val (.int (((own_lines k0) + (own_lines k1)) + (own_lines k2))), .val (.int ((((((((((((own_at w 0) + (own_at w 1)) + (own_at w 2)) + (own_at w 3)) + (own_at w 4)) + (own_at w 5)) + (own_at w 6)) + (own_at w 7)) + (own_at w 8)) + (own_at w 9)) + (own_at w 10)) + (own_at w 11))), .unset] [(.int (13 : Int32)), (.int e')])) (fun _ k_ => XS.bipush X22.here hx rfl (hb hby at_220) k_) ?_
    by_cases hc222 : e' = (13 : Int32)
    · refine own_w (T' := T22) (g' := (mkF m 235 #[.val (.int p'), .val (.int q'), .val (.int r'), .val (.int d), .val (.int e'), .val (.int f'), .val (.ref b1), .val (.int k0), .val (.int k1), .val (.int k2), .val (.int nn), .val (.int (((own_lines k0) + (own_lines k1)) + (own_lines k2))), .val (.int ((((((((((((own_at w 0) + (own_at w 1)) + (own_at w 2)) + (own_at w 3)) + (own_at w 4)) + (own_at w 5)) + (own_at w 6)) + (own_at w 7)) + (own_at w 8)) + (own_at w 9)) + (own_at w 10)) + (own_at w 11))), .unset] [])) (fun _ k_ => XS.icmpYes X22.here hx rfl (pc0 := 222) (pc' := 235) rfl (hb hby at_222) rfl (teq hc222).1 (by decide) (by decide) k_) ?_
      refine own_w (T' := T22) (g' := (mkF m 236 #[.val (.int p'), .val (.int q'), .val (.int r'), .val (.int d), .val (.int e'), .val (.int f'), .val (.ref b1), .val (.int k0), .val (.int k1), .val (.int k2), .val (.int nn), .val (.int (((own_lines k0) + (own_lines k1)) + (own_lines k2))), .val (.int ((((((((((((own_at w 0) + (own_at w 1)) + (own_at w 2)) + (own_at w 3)) + (own_at w 4)) + (own_at w 5)) + (own_at w 6)) + (own_at w 7)) + (own_at w 8)) + (own_at w 9)) + (own_at w 10)) + (own_at w 11))), .unset] [(.int (1 : Int32))])) (fun _ k_ => XS.iconst X22.here hx rfl (hb hby at_235) k_) ?_
      refine own_w (T' := T22) (g' := (mkF m 240 #[.val (.int p'), .val (.int q'), .val (.int r'), .val (.int d), .val (.int e'), .val (.int f'), .val (.ref b1), .val (.int k0), .val (.int k1), .val (.int k2), .val (.int nn), .val (.int (((own_lines k0) + (own_lines k1)) + (own_lines k2))), .val (.int ((((((((((((own_at w 0) + (own_at w 1)) + (own_at w 2)) + (own_at w 3)) + (own_at w 4)) + (own_at w 5)) + (own_at w 6)) + (own_at w 7)) + (own_at w 8)) + (own_at w 9)) + (own_at w 10)) + (own_at w 11))), .unset] [(.int (1 : Int32))])) (fun _ k_ => XS.goto X22.here hx rfl (pc0 := 236) (pc' := 240) rfl (hb hby at_236) (by decide) (by decide) k_) ?_
      refine own_w (T' := T22) (g' := (mkF m 242 #[.val (.int p'), .val (.int q'), .val (.int r'), .val (.int d), .val (.int e'), .val (.int f'), .val (.ref b1), .val (.int k0), .val (.int k1), .val (.int k2), .val (.int nn), .val (.int (((own_lines k0) + (own_lines k1)) + (own_lines k2))), .val (.int ((((((((((((own_at w 0) + (own_at w 1)) + (own_at w 2)) + (own_at w 3)) + (own_at w 4)) + (own_at w 5)) + (own_at w 6)) + (own_at w 7)) + (own_at w 8)) + (own_at w 9)) + (own_at w 10)) + (own_at w 11))), .val (.int (1 : Int32))] [])) (fun _ k_ => XS.istore X22.here hx rfl (hb hby at_240) rfl (l' := #[.val (.int p'), .val (.int q'), .val (.int r'), .val (.int d), .val (.int e'), .val (.int f'), .val (.ref b1), .val (.int k0), .val (.int k1), .val (.int k2), .val (.int nn), .val (.int (((own_lines k0) + (own_lines k1)) + (own_lines k2))), .val (.int ((((((((((((own_at w 0) + (own_at w 1)) + (own_at w 2)) + (own_at w 3)) + (own_at w 4)) + (own_at w 5)) + (own_at w 6)) + (own_at w 7)) + (own_at w 8)) + (own_at w 9)) + (own_at w 10)) + (own_at w 11))), .val (.int (1 : Int32))]) rfl k_) ?_
      refine own_w (T' := T22) (g' := (mkF m 244 #[.val (.int p'), .val (.int q'), .val (.int r'), .val (.int d), .val (.int e'), .val (.int f'), .val (.ref b1), .val (.int k0), .val (.int k1), .val (.int k2), .val (.int nn), .val (.int (((own_lines k0) + (own_lines k1)) + (own_lines k2))), .val (.int ((((((((((((own_at w 0) + (own_at w 1)) + (own_at w 2)) + (own_at w 3)) + (own_at w 4)) + (own_at w 5)) + (own_at w 6)) + (own_at w 7)) + (own_at w 8)) + (own_at w 9)) + (own_at w 10)) + (own_at w 11))), .val (.int (1 : Int32))] [(.int ((((((((((((own_at w 0) + (own_at w 1)) + (own_at w 2)) + (own_at w 3)) + (own_at w 4)) + (own_at w 5)) + (own_at w 6)) + (own_at w 7)) + (own_at w 8)) + (own_at w 9)) + (own_at w 10)) + (own_at w 11)))])) (fun _ k_ => XS.iload X22.here hx rfl (hb hby at_242) rfl k_) ?_
      refine own_w (T' := T22) (g' := (mkF m 246 #[.val (.int p'), .val (.int q'), .val (.int r'), .val (.int d), .val (.int e'), .val (.int f'), .val (.ref b1), .val (.int k0), .val (.int k1), .val (.int k2), .val (.int nn), .val (.int (((own_lines k0) + (own_lines k1)) + (own_lines k2))), .val (.int ((((((((((((own_at w 0) + (own_at w 1)) + (own_at w 2)) + (own_at w 3)) + (own_at w 4)) + (own_at w 5)) + (own_at w 6)) + (own_at w 7)) + (own_at w 8)) + (own_at w 9)) + (own_at w 10)) + (own_at w 11))), .val (.int (1 : Int32))] [(.int (((own_lines k0) + (own_lines k1)) + (own_lines k2))), (.int ((((((((((((own_at w 0) + (own_at w 1)) + (own_at w 2)) + (own_at w 3)) + (own_at w 4)) + (own_at w 5)) + (own_at w 6)) + (own_at w 7)) + (own_at w 8)) + (own_at w 9)) + (own_at w 10)) + (own_at w 11)))])) (fun _ k_ => XS.iload X22.here hx rfl (hb hby at_244) rfl k_) ?_
      refine own_w (T' := T22) (g' := (mkF m 249 #[.val (.int p'), .val (.int q'), .val (.int r'), .val (.int d), .val (.int e'), .val (.int f'), .val (.ref b1), .val (.int k0), .val (.int k1), .val (.int k2), .val (.int nn), .val (.int (((own_lines k0) + (own_lines k1)) + (own_lines k2))), .val (.int ((((((((((((own_at w 0) + (own_at w 1)) + (own_at w 2)) + (own_at w 3)) + (own_at w 4)) + (own_at w 5)) + (own_at w 6)) + (own_at w 7)) + (own_at w 8)) + (own_at w 9)) + (own_at w 10)) + (own_at w 11))), .val (.int (1 : Int32))] [])) (fun _ k_ => XS.icmpNo X22.here hx rfl (hb hby at_246) rfl (teq hlaw).2 k_) ?_
      refine own_w (T' := T22) (g' := (mkF m 251 #[.val (.int p'), .val (.int q'), .val (.int r'), .val (.int d), .val (.int e'), .val (.int f'), .val (.ref b1), .val (.int k0), .val (.int k1), .val (.int k2), .val (.int nn), .val (.int (((own_lines k0) + (own_lines k1)) + (own_lines k2))), .val (.int ((((((((((((own_at w 0) + (own_at w 1)) + (own_at w 2)) + (own_at w 3)) + (own_at w 4)) + (own_at w 5)) + (own_at w 6)) + (own_at w 7)) + (own_at w 8)) + (own_at w 9)) + (own_at w 10)) + (own_at w 11))), .val (.int (1 : Int32))] [(.int (1 : Int32))])) (fun _ k_ => XS.iload X22.here hx rfl (hb hby at_249) rfl k_) ?_
      refine own_w (T' := T22) (g' := (mkF m 254 #[.val (.int p'), .val (.int q'), .val (.int r'), .val (.int d), .val (.int e'), .val (.int f'), .val (.ref b1), .val (.int k0), .val (.int k1), .val (.int k2), .val (.int nn), .val (.int (((own_lines k0) + (own_lines k1)) + (own_lines k2))), .val (.int ((((((((((((own_at w 0) + (own_at w 1)) + (own_at w 2)) + (own_at w 3)) + (own_at w 4)) + (own_at w 5)) + (own_at w 6)) + (own_at w 7)) + (own_at w 8)) + (own_at w 9)) + (own_at w 10)) + (own_at w 11))), .val (.int (1 : Int32))] [])) (fun _ k_ => XS.ifNo X22.here hx rfl (hb hby at_251) rfl ((if0 _ _).trans (feq (by decide)).1) k_) ?_
      refine own_w (T' := T22) (g' := (mkF m 255 #[.val (.int p'), .val (.int q'), .val (.int r'), .val (.int d), .val (.int e'), .val (.int f'), .val (.ref b1), .val (.int k0), .val (.int k1), .val (.int k2), .val (.int nn), .val (.int (((own_lines k0) + (own_lines k1)) + (own_lines k2))), .val (.int ((((((((((((own_at w 0) + (own_at w 1)) + (own_at w 2)) + (own_at w 3)) + (own_at w 4)) + (own_at w 5)) + (own_at w 6)) + (own_at w 7)) + (own_at w 8)) + (own_at w 9)) + (own_at w 10)) + (own_at w 11))), .val (.int (1 : Int32))] [(.int (1 : Int32))])) (fun _ k_ => XS.iconst X22.here hx rfl (hb hby at_254) k_) ?_
      refine own_w (T' := T22) (g' := (mkF m 259 #[.val (.int p'), .val (.int q'), .val (.int r'), .val (.int d), .val (.int e'), .val (.int f'), .val (.ref b1), .val (.int k0), .val (.int k1), .val (.int k2), .val (.int nn), .val (.int (((own_lines k0) + (own_lines k1)) + (own_lines k2))), .val (.int ((((((((((((own_at w 0) + (own_at w 1)) + (own_at w 2)) + (own_at w 3)) + (own_at w 4)) + (own_at w 5)) + (own_at w 6)) + (own_at w 7)) + (own_at w 8)) + (own_at w 9)) + (own_at w 10)) + (own_at w 11))), .val (.int (1 : Int32))] [(.int (1 : Int32))])) (fun _ k_ => XS.goto X22.here hx rfl (pc0 := 255) (pc' := 259) rfl (hb hby at_255) (by decide) (by decide) k_) ?_
      obtain ⟨fs, hr, hrun, hended, hW, hsame⟩ := X22.leave (v := some (.int (1 : Int32))) (fun h => by rw [Bd.returns] at h; cases h)
      exact ⟨_, _, retOut X22 hx Bd.returns rfl (Or.inl ⟨rfl, Or.inr (Or.inl rfl), _, rfl⟩) (hb hby at_259) hr, hrun, hended, _, _, rfl, (by show own_Q0 Z p' q' r' d e' f' h0 n0 _ T22.heap _; rw [e22]; exact ⟨rfl, N22⟩), ⟨_, rfl⟩, hW, hsame.mono (by decide) (by decide)⟩
    · refine own_w (T' := T22) (g' := (mkF m 225 #[.val (.int p'), .val (.int q'), .val (.int r'), .val (.int d), .val (.int e'), .val (.int f'), .val (.ref b1), .val (.int k0), .val (.int k1), .val (.int k2), .val (.int nn), .val (.int (((own_lines k0) + (own_lines k1)) + (own_lines k2))), .val (.int ((((((((((((own_at w 0) + (own_at w 1)) + (own_at w 2)) + (own_at w 3)) + (own_at w 4)) + (own_at w 5)) + (own_at w 6)) + (own_at w 7)) + (own_at w 8)) + (own_at w 9)) + (own_at w 10)) + (own_at w 11))), .unset] [])) (fun _ k_ => XS.icmpNo X22.here hx rfl (hb hby at_222) rfl (feq hc222).1 k_) ?_
      refine own_w (T' := T22) (g' := (mkF m 227 #[.val (.int p'), .val (.int q'), .val (.int r'), .val (.int d), .val (.int e'), .val (.int f'), .val (.ref b1), .val (.int k0), .val (.int k1), .val (.int k2), .val (.int nn), .val (.int (((own_lines k0) + (own_lines k1)) + (own_lines k2))), .val (.int ((((((((((((own_at w 0) + (own_at w 1)) + (own_at w 2)) + (own_at w 3)) + (own_at w 4)) + (own_at w 5)) + (own_at w 6)) + (own_at w 7)) + (own_at w 8)) + (own_at w 9)) + (own_at w 10)) + (own_at w 11))), .unset] [(.int e')])) (fun _ k_ => XS.iload X22.here hx rfl (hb hby at_225) rfl k_) ?_
      refine own_w (T' := T22) (g' := (mkF m 229 #[.val (.int p'), .val (.int q'), .val (.int r'), .val (.int d), .val (.int e'), .val (.int f'), .val (.ref b1), .val (.int k0), .val (.int k1), .val (.int k2), .val (.int nn), .val (.int (((own_lines k0) + (own_lines k1)) + (own_lines k2))), .val (.int ((((((((((((own_at w 0) + (own_at w 1)) + (own_at w 2)) + (own_at w 3)) + (own_at w 4)) + (own_at w 5)) + (own_at w 6)) + (own_at w 7)) + (own_at w 8)) + (own_at w 9)) + (own_at w 10)) + (own_at w 11))), .unset] [(.int f'), (.int e')])) (fun _ k_ => XS.iload X22.here hx rfl (hb hby at_227) rfl k_) ?_
      obtain ⟨_, _, ⟨T23, L23, k23, n23⟩, -, X23, ⟨Lc23, hQ23, l23, y23, z23⟩, st23⟩ := Jvm.LawKit.callS X22 hx (y := (⟨"com/example/holdfast/holdfast/LineBreaks", "ends", "(II)Z"⟩ : MethodName)) hown (mvT hZ (hw _ (List.mem_of_getElem? (i := 18) rfl))) (mvT hZ (hw _ (List.mem_of_getElem? (i := 19) rfl))) (mvT hZ (hw _ (List.mem_of_getElem? (i := 20) rfl))) (mvT hZ (hw _ (List.mem_of_getElem? (i := 21) rfl))) (by decide) (backOf (W := 0) (own_rm6 l Z a0 hw [] e' f'  h7 n0 Z7 ) hZ (hw _ (List.mem_of_getElem? (i := 21) rfl)) (hw _ (List.mem_of_getElem? (i := 20) rfl)) (by decide) (by decide)) (g := (mkF m 229 #[.val (.int p'), .val (.int q'), .val (.int r'), .val (.int d), .val (.int e'), .val (.int f'), .val (.ref b1), .val (.int k0), .val (.int k1), .val (.int k2), .val (.int nn), .val (.int (((own_lines k0) + (own_lines k1)) + (own_lines k2))), .val (.int ((((((((((((own_at w 0) + (own_at w 1)) + (own_at w 2)) + (own_at w 3)) + (own_at w 4)) + (own_at w 5)) + (own_at w 6)) + (own_at w 7)) + (own_at w 8)) + (own_at w 9)) + (own_at w 10)) + (own_at w 11))), .unset] [(.int f'), (.int e')])) rfl (by rw [hml]; rfl) (argsL := [(.int e'), (.int f')]) (rest := []) (lenOf own_pd1 rfl) rfl (by show 2 * 0 + _ ≤ _; exact Nat.le_of_eq rfl) (hb hby at_229) (fun _ _ => ⟨rfl, e22, (by decide : 1 + 0 ≤ _), (by decide : 12 + 0 ≤ _)⟩)
      dsimp only [Pt.U, Pt.locs, Pt.cells, Pt.slots] at X23 l23 y23 z23 st23 hQ23
      subst l23 y23 z23
      obtain ⟨rfl, N23q, e23⟩ := hQ23
      have N23 := Fr.app N22 N23q
      refine own_w (T' := T23) (g' := (mkF m 232 #[.val (.int p'), .val (.int q'), .val (.int r'), .val (.int d), .val (.int e'), .val (.int f'), .val (.ref b1), .val (.int k0), .val (.int k1), .val (.int k2), .val (.int nn), .val (.int (((own_lines k0) + (own_lines k1)) + (own_lines k2))), .val (.int ((((((((((((own_at w 0) + (own_at w 1)) + (own_at w 2)) + (own_at w 3)) + (own_at w 4)) + (own_at w 5)) + (own_at w 6)) + (own_at w 7)) + (own_at w 8)) + (own_at w 9)) + (own_at w 10)) + (own_at w 11))), .unset] [(.int (own_e e' f'))])) st23 ?_
      refine own_w (T' := T23) (g' := (mkF m 235 #[.val (.int p'), .val (.int q'), .val (.int r'), .val (.int d), .val (.int e'), .val (.int f'), .val (.ref b1), .val (.int k0), .val (.int k1), .val (.int k2), .val (.int nn), .val (.int (((own_lines k0) + (own_lines k1)) + (own_lines k2))), .val (.int ((((((((((((own_at w 0) + (own_at w 1)) + (own_at w 2)) + (own_at w 3)) + (own_at w 4)) + (own_at w 5)) + (own_at w 6)) + (own_at w 7)) + (own_at w 8)) + (own_at w 9)) + (own_at w 10)) + (own_at w 11))), .unset] [])) (fun _ k_ => XS.ifNo X23.here hx rfl (hb hby at_232) rfl ((if0 _ _).trans (teq (if_neg fun q => q.elim hc215 fun q => hc222 q.1)).2) k_) ?_
      refine own_w (T' := T23) (g' := (mkF m 236 #[.val (.int p'), .val (.int q'), .val (.int r'), .val (.int d), .val (.int e'), .val (.int f'), .val (.ref b1), .val (.int k0), .val (.int k1), .val (.int k2), .val (.int nn), .val (.int (((own_lines k0) + (own_lines k1)) + (own_lines k2))), .val (.int ((((((((((((own_at w 0) + (own_at w 1)) + (own_at w 2)) + (own_at w 3)) + (own_at w 4)) + (own_at w 5)) + (own_at w 6)) + (own_at w 7)) + (own_at w 8)) + (own_at w 9)) + (own_at w 10)) + (own_at w 11))), .unset] [(.int (1 : Int32))])) (fun _ k_ => XS.iconst X23.here hx rfl (hb hby at_235) k_) ?_
      refine own_w (T' := T23) (g' := (mkF m 240 #[.val (.int p'), .val (.int q'), .val (.int r'), .val (.int d), .val (.int e'), .val (.int f'), .val (.ref b1), .val (.int k0), .val (.int k1), .val (.int k2), .val (.int nn), .val (.int (((own_lines k0) + (own_lines k1)) + (own_lines k2))), .val (.int ((((((((((((own_at w 0) + (own_at w 1)) + (own_at w 2)) + (own_at w 3)) + (own_at w 4)) + (own_at w 5)) + (own_at w 6)) + (own_at w 7)) + (own_at w 8)) + (own_at w 9)) + (own_at w 10)) + (own_at w 11))), .unset] [(.int (1 : Int32))])) (fun _ k_ => XS.goto X23.here hx rfl (pc0 := 236) (pc' := 240) rfl (hb hby at_236) (by decide) (by decide) k_) ?_
      refine own_w (T' := T23) (g' := (mkF m 242 #[.val (.int p'), .val (.int q'), .val (.int r'), .val (.int d), .val (.int e'), .val (.int f'), .val (.ref b1), .val (.int k0), .val (.int k1), .val (.int k2), .val (.int nn), .val (.int (((own_lines k0) + (own_lines k1)) + (own_lines k2))), .val (.int ((((((((((((own_at w 0) + (own_at w 1)) + (own_at w 2)) + (own_at w 3)) + (own_at w 4)) + (own_at w 5)) + (own_at w 6)) + (own_at w 7)) + (own_at w 8)) + (own_at w 9)) + (own_at w 10)) + (own_at w 11))), .val (.int (1 : Int32))] [])) (fun _ k_ => XS.istore X23.here hx rfl (hb hby at_240) rfl (l' := #[.val (.int p'), .val (.int q'), .val (.int r'), .val (.int d), .val (.int e'), .val (.int f'), .val (.ref b1), .val (.int k0), .val (.int k1), .val (.int k2), .val (.int nn), .val (.int (((own_lines k0) + (own_lines k1)) + (own_lines k2))), .val (.int ((((((((((((own_at w 0) + (own_at w 1)) + (own_at w 2)) + (own_at w 3)) + (own_at w 4)) + (own_at w 5)) + (own_at w 6)) + (own_at w 7)) + (own_at w 8)) + (own_at w 9)) + (own_at w 10)) + (own_at w 11))), .val (.int (1 : Int32))]) rfl k_) ?_
      refine own_w (T' := T23) (g' := (mkF m 244 #[.val (.int p'), .val (.int q'), .val (.int r'), .val (.int d), .val (.int e'), .val (.int f'), .val (.ref b1), .val (.int k0), .val (.int k1), .val (.int k2), .val (.int nn), .val (.int (((own_lines k0) + (own_lines k1)) + (own_lines k2))), .val (.int ((((((((((((own_at w 0) + (own_at w 1)) + (own_at w 2)) + (own_at w 3)) + (own_at w 4)) + (own_at w 5)) + (own_at w 6)) + (own_at w 7)) + (own_at w 8)) + (own_at w 9)) + (own_at w 10)) + (own_at w 11))), .val (.int (1 : Int32))] [(.int ((((((((((((own_at w 0) + (own_at w 1)) + (own_at w 2)) + (own_at w 3)) + (own_at w 4)) + (own_at w 5)) + (own_at w 6)) + (own_at w 7)) + (own_at w 8)) + (own_at w 9)) + (own_at w 10)) + (own_at w 11)))])) (fun _ k_ => XS.iload X23.here hx rfl (hb hby at_242) rfl k_) ?_
      refine own_w (T' := T23) (g' := (mkF m 246 #[.val (.int p'), .val (.int q'), .val (.int r'), .val (.int d), .val (.int e'), .val (.int f'), .val (.ref b1), .val (.int k0), .val (.int k1), .val (.int k2), .val (.int nn), .val (.int (((own_lines k0) + (own_lines k1)) + (own_lines k2))), .val (.int ((((((((((((own_at w 0) + (own_at w 1)) + (own_at w 2)) + (own_at w 3)) + (own_at w 4)) + (own_at w 5)) + (own_at w 6)) + (own_at w 7)) + (own_at w 8)) + (own_at w 9)) + (own_at w 10)) + (own_at w 11))), .val (.int (1 : Int32))] [(.int (((own_lines k0) + (own_lines k1)) + (own_lines k2))), (.int ((((((((((((own_at w 0) + (own_at w 1)) + (own_at w 2)) + (own_at w 3)) + (own_at w 4)) + (own_at w 5)) + (own_at w 6)) + (own_at w 7)) + (own_at w 8)) + (own_at w 9)) + (own_at w 10)) + (own_at w 11)))])) (fun _ k_ => XS.iload X23.here hx rfl (hb hby at_244) rfl k_) ?_
      refine own_w (T' := T23) (g' := (mkF m 249 #[.val (.int p'), .val (.int q'), .val (.int r'), .val (.int d), .val (.int e'), .val (.int f'), .val (.ref b1), .val (.int k0), .val (.int k1), .val (.int k2), .val (.int nn), .val (.int (((own_lines k0) + (own_lines k1)) + (own_lines k2))), .val (.int ((((((((((((own_at w 0) + (own_at w 1)) + (own_at w 2)) + (own_at w 3)) + (own_at w 4)) + (own_at w 5)) + (own_at w 6)) + (own_at w 7)) + (own_at w 8)) + (own_at w 9)) + (own_at w 10)) + (own_at w 11))), .val (.int (1 : Int32))] [])) (fun _ k_ => XS.icmpNo X23.here hx rfl (hb hby at_246) rfl (teq hlaw).2 k_) ?_
      refine own_w (T' := T23) (g' := (mkF m 251 #[.val (.int p'), .val (.int q'), .val (.int r'), .val (.int d), .val (.int e'), .val (.int f'), .val (.ref b1), .val (.int k0), .val (.int k1), .val (.int k2), .val (.int nn), .val (.int (((own_lines k0) + (own_lines k1)) + (own_lines k2))), .val (.int ((((((((((((own_at w 0) + (own_at w 1)) + (own_at w 2)) + (own_at w 3)) + (own_at w 4)) + (own_at w 5)) + (own_at w 6)) + (own_at w 7)) + (own_at w 8)) + (own_at w 9)) + (own_at w 10)) + (own_at w 11))), .val (.int (1 : Int32))] [(.int (1 : Int32))])) (fun _ k_ => XS.iload X23.here hx rfl (hb hby at_249) rfl k_) ?_
      refine own_w (T' := T23) (g' := (mkF m 254 #[.val (.int p'), .val (.int q'), .val (.int r'), .val (.int d), .val (.int e'), .val (.int f'), .val (.ref b1), .val (.int k0), .val (.int k1), .val (.int k2), .val (.int nn), .val (.int (((own_lines k0) + (own_lines k1)) + (own_lines k2))), .val (.int ((((((((((((own_at w 0) + (own_at w 1)) + (own_at w 2)) + (own_at w 3)) + (own_at w 4)) + (own_at w 5)) + (own_at w 6)) + (own_at w 7)) + (own_at w 8)) + (own_at w 9)) + (own_at w 10)) + (own_at w 11))), .val (.int (1 : Int32))] [])) (fun _ k_ => XS.ifNo X23.here hx rfl (hb hby at_251) rfl ((if0 _ _).trans (feq (by decide)).1) k_) ?_
      refine own_w (T' := T23) (g' := (mkF m 255 #[.val (.int p'), .val (.int q'), .val (.int r'), .val (.int d), .val (.int e'), .val (.int f'), .val (.ref b1), .val (.int k0), .val (.int k1), .val (.int k2), .val (.int nn), .val (.int (((own_lines k0) + (own_lines k1)) + (own_lines k2))), .val (.int ((((((((((((own_at w 0) + (own_at w 1)) + (own_at w 2)) + (own_at w 3)) + (own_at w 4)) + (own_at w 5)) + (own_at w 6)) + (own_at w 7)) + (own_at w 8)) + (own_at w 9)) + (own_at w 10)) + (own_at w 11))), .val (.int (1 : Int32))] [(.int (1 : Int32))])) (fun _ k_ => XS.iconst X23.here hx rfl (hb hby at_254) k_) ?_
      refine own_w (T' := T23) (g' := (mkF m 259 #[.val (.int p'), .val (.int q'), .val (.int r'), .val (.int d), .val (.int e'), .val (.int f'), .val (.ref b1), .val (.int k0), .val (.int k1), .val (.int k2), .val (.int nn), .val (.int (((own_lines k0) + (own_lines k1)) + (own_lines k2))), .val (.int ((((((((((((own_at w 0) + (own_at w 1)) + (own_at w 2)) + (own_at w 3)) + (own_at w 4)) + (own_at w 5)) + (own_at w 6)) + (own_at w 7)) + (own_at w 8)) + (own_at w 9)) + (own_at w 10)) + (own_at w 11))), .val (.int (1 : Int32))] [(.int (1 : Int32))])) (fun _ k_ => XS.goto X23.here hx rfl (pc0 := 255) (pc' := 259) rfl (hb hby at_255) (by decide) (by decide) k_) ?_
      obtain ⟨fs, hr, hrun, hended, hW, hsame⟩ := X23.leave (v := some (.int (1 : Int32))) (fun h => by rw [Bd.returns] at h; cases h)
      exact ⟨_, _, retOut X23 hx Bd.returns rfl (Or.inl ⟨rfl, Or.inr (Or.inl rfl), _, rfl⟩) (hb hby at_259) hr, hrun, hended, _, _, rfl, (by show own_Q0 Z p' q' r' d e' f' h0 n0 _ T23.heap _; rw [e23]; exact ⟨rfl, N23⟩), ⟨_, rfl⟩, hW, hsame.mono (by decide) (by decide)⟩
set_option maxRecDepth 65536 in
set_option maxHeartbeats 40000000 in
theorem comes_1 {Post : Tables → Env → Array Value → State → Outcome → State → Prop} (hpost : ∀ tb e args s v u, (limb_1_1.after args s (.returned v) u = true ∧ limb_1_2.after args s (.returned v) u = true ∧ True) → FrameEnd s (.returned v) u (Jvm.fieldLocs frame_1_writes args s ++ Jvm.arrayLocs frame_1_arrays args s ++ Jvm.staticLocs frame_1_statics s) 16 128 → Post tb e args s (.returned v) u) :
    ArmFor flags0 classFile x code maxLocals ret World_1 tables_1 room_1 Calls_1 rest_1 Pre_1 Post := by
  intro l hfl _ _ p e ha hc hk s m args below hf hA hF happ hP
  obtain ⟨hcalls, hrest, hpre⟩ := hP
  obtain ⟨-, -, -, hnamed, -, -, -, hat⟩ := (Spec.applies_iff hf).mp happ
  obtain ⟨hg, hn⟩ := and_e (Cond.before_iff.mp (show (Jvm.Cond.and given_1 narrow_1).before args s = true from hpre))
  obtain ⟨hcount, hr0⟩ := and_e hg
  obtain ⟨ga0, hr1⟩ := and_e hr0
  obtain ⟨ga1, hr2⟩ := and_e hr1
  obtain ⟨ga2, hr3⟩ := and_e hr2
  obtain ⟨ga3, hr4⟩ := and_e hr3
  obtain ⟨ga4, hr5⟩ := and_e hr4
  have ga5 := hr5
  obtain ⟨w0, w1, w2, w3, w4, w5, rfl⟩ : ∃ w0 w1 w2 w3 w4 w5 : Value, args = #[w0, w1, w2, w3, w4, w5] := by
    have hs : args.size = 6 := by simpa [Cond.value, given_1] using hcount
    obtain ⟨L⟩ := args
    match L, hs with
    | [w0, w1, w2, w3, w4, w5], _ => exact ⟨w0, w1, w2, w3, w4, w5, rfl⟩
  have hw := fun d (hd : d ∈ tables_1) => atoms_spec (ws := Jvm.Cond.code x code maxLocals ret :: tables_1) hat d (List.mem_cons_of_mem _ hd)
  obtain ⟨i0, ei0⟩ := is_v ga0
  obtain rfl : w0 = (.int i0) := Option.some.inj ei0
  obtain ⟨i1, ei1⟩ := is_v ga1
  obtain rfl : w1 = (.int i1) := Option.some.inj ei1
  obtain ⟨i2, ei2⟩ := is_v ga2
  obtain rfl : w2 = (.int i2) := Option.some.inj ei2
  obtain ⟨i3, ei3⟩ := is_v ga3
  obtain rfl : w3 = (.int i3) := Option.some.inj ei3
  obtain ⟨i4, ei4⟩ := is_v ga4
  obtain rfl : w4 = (.int i4) := Option.some.inj ei4
  obtain ⟨i5, ei5⟩ := is_v ga5
  obtain rfl : w5 = (.int i5) := Option.some.inj ei5
  obtain ⟨n, o, h1, h2, h3, _, L, rfl, ⟨rfl, N⟩, hq⟩ := own_rm0 l s _ hw tables_1 i0 i1 i2 i3 i4 i5 s.heap s.heap.size (Nat.le_refl _) p e ha hc hk s m _ below hf ((Spec.applies_iff_loose hf).mp happ).1 ⟨rfl, State.Warmed39.refl s, rfl⟩ trivial
  refine ⟨n, _, h1, h2, h3, hpost _ _ _ _ _ _ ⟨Cond.after_iff.mpr rfl, Cond.after_iff.mpr (eq_i res_at (Term.int_eval (1)) rfl), trivial⟩ ⟨hq.1, hq.2.1, (hq.2.2.sift fun y hy => Or.inr (N y hy)).mono (by decide) (by decide)⟩⟩
theorem main_1_1 : Claimed_1_1 := comes_1 fun _ _ _ _ _ _ h hF => ⟨h.1, hF⟩
theorem main_1_2 : Claimed_1_2 := comes_1 fun _ _ _ _ _ _ h hF => ⟨h.2.1, hF⟩
end Jvm.Pilot.@@N@@
namespace Jvm.Pilot.@@N@@
open Jvm Jvm.ClassFile Sem Op Lib Jvm.Free Jvm.Stand Jvm.Pilot.@@N@@.Jvm.D
/-! MADE BY PROGRAM (witnessworld.py) out of the Statement's table words and the real class files: 11 classes; the members and pool entries that the words name. The judged class is class 1, her method 1. -/
namespace start1
open Jvm.ClassFile
def u (s : String) : CpInfo := .utf8 (stringToUtf16 s)
/-- a pool by its gaps: so many unusable entries, then the entry; so many at the end -/
def gap : Nat → List CpInfo → List CpInfo
  | 0, r => r
  | n + 1, r => .unusable :: gap n r
def poolList (es : List (Nat × CpInfo)) (last : Nat) : List CpInfo := es.foldr (fun e r => gap e.1 (e.2 :: r)) (gap last [])
def pool (es : List (Nat × CpInfo)) (last : Nat) : Array CpInfo := ⟨poolList es last⟩
def fileOf (pool : Array CpInfo) (this : Nat) (attrs : Array Attribute := #[]) (ms : Array MethodInfo := #[]) (fl : Nat := 33) (sup : Nat := 0) (ifs : Array Nat := #[]) (fds : Array FieldInfo := #[]) : ClassFile where
  minorVersion := 0
  majorVersion := 65
  constantPool := pool
  accessFlags := fl
  thisClass := this
  superClass := sup
  interfaces := ifs
  fields := fds
  methods := ms
  attributes := attrs
def plain (name : String) (sup : Option ClassId) : Class where
  name := name
  kind := .ordinary
  loader := none
  accessFlags := 33
  super := sup
  interfaces := #[]
  cf := none
  fields := #[]
  methods := #[]
  instanceTypes := #[]
  staticTypes := #[]
  resolved := #[]
  callSites := []
  init := .initialized
  statics := none
  mirror := none

def pool0 : Array CpInfo := pool [(5, u "<init>"), (0, u "()V"), (1, .class_ 10), (1, u "java/lang/Object")] 113

def k0m0 : Method := { name := "<init>", desc := "()V", sig := { parameters := [], returnType := none }, accessFlags := 1, code := none }
/-- java/lang/Object -/
def k0 : Class := { plain "java/lang/Object" none with
  accessFlags := 33
  interfaces := #[]
  cf := some (fileOf pool0 8 #[] #[{ accessFlags := 1, nameIndex := 5, descriptorIndex := 6, attributes := #[] }] 33 0 #[] #[])
  fields := #[]
  methods := #[k0m0]
  instanceTypes := #[]
  staticTypes := #[]
  resolved := Array.replicate 124 none
  statics := none }

def pool1 : Array CpInfo := pool [(2, .class_ 4), (1, u "java/lang/Object"), (0, u "<init>"), (0, u "()V"), (0, .methodref 8 9), (0, .class_ 10), (0, .nameAndType 11 12), (0, u "com/example/holdfast/holdfast/LineBreaksEndsPinLaw"), (0, u "letter"), (0, u "(I)C"), (0, .methodref 8 14), (0, .nameAndType 15 16), (0, u "put"), (0, u "([CICI)I"), (0, .methodref 8 18), (0, .nameAndType 19 20), (0, u "lines"), (0, u "(I)I"), (0, .methodref 8 22), (0, .nameAndType 23 24), (0, u "at"), (0, u "([CII)I"), (0, .methodref 26 27), (0, .class_ 28), (0, .nameAndType 29 30), (0, u "com/example/holdfast/holdfast/LineBreaks"), (0, u "ends"), (0, u "(II)Z"), (0, .integer 65535), (0, .methodref 8 33), (0, .nameAndType 34 35), (0, u "add"), (0, u "([CIC)I"), (2, u "law"), (0, u "(IIIIII)Z")] 5

def k1m0 : Method := { name := "<init>", desc := "()V", sig := { parameters := [], returnType := none }, accessFlags := 2, code := none }
def k1c1 : Code := { maxStack := 4, maxLocals := 14, code := code, exceptionTable := #[], attributes := #[] }
def k1m1 : Method := { name := "law", desc := "(IIIIII)Z", sig := { parameters := [.int, .int, .int, .int, .int, .int], returnType := some .boolean }, accessFlags := 9, code := some k1c1 }
def k1c2 : Code := { maxStack := 2, maxLocals := 2, code := method_3_code, exceptionTable := #[], attributes := #[] }
def k1m2 : Method := { name := "letter", desc := "(I)C", sig := { parameters := [.int], returnType := some .char }, accessFlags := 10, code := some k1c2 }
def k1c3 : Code := { maxStack := 2, maxLocals := 1, code := method_4_code, exceptionTable := #[], attributes := #[] }
def k1m3 : Method := { name := "lines", desc := "(I)I", sig := { parameters := [.int], returnType := some .int }, accessFlags := 10, code := some k1c3 }
def k1c4 : Code := { maxStack := 3, maxLocals := 3, code := method_5_code, exceptionTable := #[], attributes := #[] }
def k1m4 : Method := { name := "add", desc := "([CIC)I", sig := { parameters := [(.array .char), .int, .char], returnType := some .int }, accessFlags := 10, code := some k1c4 }
def k1c5 : Code := { maxStack := 3, maxLocals := 5, code := method_6_code, exceptionTable := #[], attributes := #[] }
def k1m5 : Method := { name := "put", desc := "([CICI)I", sig := { parameters := [(.array .char), .int, .char, .int], returnType := some .int }, accessFlags := 10, code := some k1c5 }
def k1c6 : Code := { maxStack := 3, maxLocals := 4, code := method_7_code, exceptionTable := #[], attributes := #[] }
def k1m6 : Method := { name := "at", desc := "([CII)I", sig := { parameters := [(.array .char), .int, .int], returnType := some .int }, accessFlags := 10, code := some k1c6 }
/-- com/example/holdfast/holdfast/LineBreaksEndsPinLaw -/
def k1 : Class := { plain "com/example/holdfast/holdfast/LineBreaksEndsPinLaw" (some 0) with
  accessFlags := 49
  interfaces := #[]
  cf := some (fileOf pool1 8 #[] #[{ accessFlags := 2, nameIndex := 5, descriptorIndex := 6, attributes := #[] }, { accessFlags := 9, nameIndex := 38, descriptorIndex := 39, attributes := #[] }, { accessFlags := 10, nameIndex := 11, descriptorIndex := 12, attributes := #[] }, { accessFlags := 10, nameIndex := 19, descriptorIndex := 20, attributes := #[] }, { accessFlags := 10, nameIndex := 34, descriptorIndex := 35, attributes := #[] }, { accessFlags := 10, nameIndex := 15, descriptorIndex := 16, attributes := #[] }, { accessFlags := 10, nameIndex := 23, descriptorIndex := 24, attributes := #[] }] 49 2 #[] #[])
  fields := #[]
  methods := #[k1m0, k1m1, k1m2, k1m3, k1m4, k1m5, k1m6]
  instanceTypes := #[]
  staticTypes := #[]
  resolved := Array.replicate 45 none
  statics := none }

def pool2 : Array CpInfo := pool [(2, .class_ 4), (1, u "java/lang/Object"), (0, u "<init>"), (0, u "()V"), (0, .class_ 8), (0, u "com/example/holdfast/holdfast/LineBreaks"), (2, u "ends"), (0, u "(II)Z")] 3

def k2m0 : Method := { name := "<init>", desc := "()V", sig := { parameters := [], returnType := none }, accessFlags := 2, code := none }
def k2c1 : Code := { maxStack := 2, maxLocals := 2, code := prog_4_method_2_code, exceptionTable := #[], attributes := #[] }
def k2m1 : Method := { name := "ends", desc := "(II)Z", sig := { parameters := [.int, .int], returnType := some .boolean }, accessFlags := 9, code := some k2c1 }
/-- com/example/holdfast/holdfast/LineBreaks -/
def k2 : Class := { plain "com/example/holdfast/holdfast/LineBreaks" (some 0) with
  accessFlags := 49
  interfaces := #[]
  cf := some (fileOf pool2 7 #[] #[{ accessFlags := 2, nameIndex := 5, descriptorIndex := 6, attributes := #[] }, { accessFlags := 9, nameIndex := 11, descriptorIndex := 12, attributes := #[] }] 49 2 #[] #[])
  fields := #[]
  methods := #[k2m0, k2m1]
  instanceTypes := #[]
  staticTypes := #[]
  resolved := Array.replicate 16 none
  statics := none }

def pool3 : Array CpInfo := pool [(1, u "java/lang/Cloneable"), (0, .class_ 1), (0, u "java/lang/Object"), (0, .class_ 3)] 3

/-- java/lang/Cloneable -/
def k3 : Class := { plain "java/lang/Cloneable" (some 0) with
  accessFlags := 1537
  interfaces := #[]
  cf := some (fileOf pool3 2 #[] #[] 1537 4 #[] #[])
  fields := #[]
  methods := #[]
  instanceTypes := #[]
  staticTypes := #[]
  resolved := Array.replicate 8 none
  statics := none }

def pool4 : Array CpInfo := pool [(1, u "java/io/Serializable"), (0, .class_ 1), (0, u "java/lang/Object"), (0, .class_ 3)] 3

/-- java/io/Serializable -/
def k4 : Class := { plain "java/io/Serializable" (some 0) with
  accessFlags := 1537
  interfaces := #[]
  cf := some (fileOf pool4 2 #[] #[] 1537 4 #[] #[])
  fields := #[]
  methods := #[]
  instanceTypes := #[]
  staticTypes := #[]
  resolved := Array.replicate 8 none
  statics := none }

/-- the primitive byte -/
def k5 : Class := { plain "byte" none with kind := .primitive 'B', accessFlags := 0x411 }
/-- [B -/
def k6 : Class := { plain "[B" (some 0) with kind := .array 5 .byte, interfaces := #[3, 4], accessFlags := 1041 }

/-- the primitive char -/
def k7 : Class := { plain "char" none with kind := .primitive 'C', accessFlags := 0x411 }
/-- [C -/
def k8 : Class := { plain "[C" (some 0) with kind := .array 7 .char, interfaces := #[3, 4], accessFlags := 1041 }

/-- the primitive int -/
def k9 : Class := { plain "int" none with kind := .primitive 'I', accessFlags := 0x411 }
/-- [I -/
def k10 : Class := { plain "[I" (some 0) with kind := .array 9 .int, interfaces := #[3, 4], accessFlags := 1041 }

def heap : Heap := #[]
def classes : Array Class := #[k0, k1, k2, k3, k4, k5, k6, k7, k8, k9, k10]
def interned : List (Array UInt16 × Addr) := []
def slotsUsed : Nat := 0
def theMethod : MethodId := ⟨1, 1⟩
def args0 : Array Value := #[.int 5, .int 7, .int 9, .int 100, .int 65, .int 66]
def aboutOver (below : List Frame) : State where
  vm := { classes := classes, interned := interned.toArray }
  heap := heap
  slotsUsed := slotsUsed
  threads := #[{ frames := .invoking theMethod args0 :: below }]
def below0 : List Frame := [.native { method := ⟨0, 0⟩, args := #[] }]
def about1 : State := aboutOver below0
def p0 : Program := .bare "" "" ""
def e0 : Env := launch0.env 0 0 0
theorem w_frames : about1.frames = Frame.invoking theMethod args0 :: below0 := rfl
set_option maxRecDepth 65536 in
theorem w_args : argsFit about1.vm theMethod args0 = true := by decide +kernel
set_option maxRecDepth 65536 in
theorem w_heap : heapFits about1 = true := by decide +kernel
set_option maxRecDepth 65536 in
theorem w_runnable : about1.curStatus? = some .runnable := by decide +kernel
set_option maxRecDepth 65536 in
theorem w_alone : about1.alone = true := by decide +kernel
set_option maxRecDepth 65536 in
theorem w_named : about1.methodNamed? x = some theMethod := by decide +kernel
set_option maxRecDepth 65536 in
theorem w_hears : about1.hears theMethod below0 = true := by decide +kernel
set_option maxRecDepth 65536 in
theorem w_ripe : about1.ripe theMethod args0 below0 = true := by decide +kernel
theorem w_running : about1.status = .running := rfl
set_option maxRecDepth 65536 in
theorem w_room : about1.hasRoom e0.platform room_1 = true :=
  launch0.hasRoom_least _ room_1 (by decide +kernel) (by decide +kernel) (by decide +kernel) (by decide +kernel) (by decide +kernel) (by decide +kernel)
theorem allAtoms_all (ts : List Jvm.Cond) (a : Array Jvm.Value) (st : Jvm.State) : (allAtoms ts).before a st = ts.all (fun c => c.before a st) := by
  induction ts with
  | nil => rfl
  | cons c t ih =>
    show (Jvm.Cond.and c (allAtoms t)).before a st = _
    rw [Jvm.Cond.before_and, ih, List.all_cons]
def words1 : List Jvm.Cond := Jvm.Cond.code x code maxLocals ret :: tables_1
/-- a 'code' word, met by the world's own term for the bytes: nothing is compared byte by byte -/
theorem code_word {y : MethodName} {bytes : ByteArray} {mx : Nat} {rt : Option FieldType} {a : Array Value} {s : State} {m : MethodId} {meth : Method} {c : Code} (h1 : s.methodNamed? y = some m) (h2 : s.vm.method? m = some meth) (h3 : meth.code = some c) (h4 : c.code = bytes)
    (h5 : (c.maxLocals == mx && c.exceptionTable.isEmpty && decide (c.maxStack ≤ mostOperands) && decide (meth.sig.returnType = rt) && !meth.locks && decide (parseMethodDescriptor y.desc = some meth.sig)) = true) : (Jvm.Cond.code y bytes mx rt).before a s = true := by
  simp only [Bool.and_eq_true, beq_iff_eq, Bool.not_eq_true', decide_eq_true_eq] at h5
  obtain ⟨⟨⟨⟨⟨g1, g2⟩, g3⟩, g4⟩, g5⟩, g6⟩ := h5
  simp [Cond.before, Cond.holds, Cond.value, h1, h2, h3, h4, g1, g2, g3, g4, g5, g6]
def isCode : Jvm.Cond → Bool
  | .code _ _ _ _ => true
  | _ => false
theorem all_split {L : List Jvm.Cond} {P : Jvm.Cond → Bool} (h1 : L.all (fun c => isCode c || P c) = true) (h2 : ∀ c ∈ L.filter isCode, P c = true) : L.all P = true := by
  refine List.all_eq_true.mpr fun c hc => ?_
  have h := List.all_eq_true.mp h1 c hc
  rcases Bool.eq_false_or_eq_true (isCode c) with hi | hi
  · exact h2 c (List.mem_filter.mpr ⟨hc, hi⟩)
  · simpa [hi] using h
set_option maxRecDepth 65536 in
theorem w_c0 : (Jvm.Cond.code x code maxLocals ret).before args0 about1 = true := code_word (m := ⟨1, 1⟩) (meth := k1m1) (c := k1c1) (by decide +kernel) rfl rfl rfl (by decide +kernel)
set_option maxRecDepth 65536 in
theorem w_c1 : (Jvm.Cond.code ({ cls := "com/example/holdfast/holdfast/LineBreaksEndsPinLaw", name := "letter", desc := "(I)C" } : Jvm.MethodName) method_3_code (2 : Nat) (Option.some Jvm.ClassFile.FieldType.char)).before args0 about1 = true := code_word (m := ⟨1, 2⟩) (meth := k1m2) (c := k1c2) (by decide +kernel) rfl rfl rfl (by decide +kernel)
set_option maxRecDepth 65536 in
theorem w_c2 : (Jvm.Cond.code ({ cls := "com/example/holdfast/holdfast/LineBreaksEndsPinLaw", name := "put", desc := "([CICI)I" } : Jvm.MethodName) method_6_code (5 : Nat) (Option.some Jvm.ClassFile.FieldType.int)).before args0 about1 = true := code_word (m := ⟨1, 5⟩) (meth := k1m5) (c := k1c5) (by decide +kernel) rfl rfl rfl (by decide +kernel)
set_option maxRecDepth 65536 in
theorem w_c3 : (Jvm.Cond.code ({ cls := "com/example/holdfast/holdfast/LineBreaksEndsPinLaw", name := "add", desc := "([CIC)I" } : Jvm.MethodName) method_5_code (3 : Nat) (Option.some Jvm.ClassFile.FieldType.int)).before args0 about1 = true := code_word (m := ⟨1, 4⟩) (meth := k1m4) (c := k1c4) (by decide +kernel) rfl rfl rfl (by decide +kernel)
set_option maxRecDepth 65536 in
theorem w_c4 : (Jvm.Cond.code ({ cls := "com/example/holdfast/holdfast/LineBreaksEndsPinLaw", name := "lines", desc := "(I)I" } : Jvm.MethodName) method_4_code (1 : Nat) (Option.some Jvm.ClassFile.FieldType.int)).before args0 about1 = true := code_word (m := ⟨1, 3⟩) (meth := k1m3) (c := k1c3) (by decide +kernel) rfl rfl rfl (by decide +kernel)
set_option maxRecDepth 65536 in
theorem w_c5 : (Jvm.Cond.code ({ cls := "com/example/holdfast/holdfast/LineBreaksEndsPinLaw", name := "at", desc := "([CII)I" } : Jvm.MethodName) method_7_code (4 : Nat) (Option.some Jvm.ClassFile.FieldType.int)).before args0 about1 = true := code_word (m := ⟨1, 6⟩) (meth := k1m6) (c := k1c6) (by decide +kernel) rfl rfl rfl (by decide +kernel)
set_option maxRecDepth 65536 in
theorem w_c6 : (Jvm.Cond.code ({ cls := "com/example/holdfast/holdfast/LineBreaks", name := "ends", desc := "(II)Z" } : Jvm.MethodName) prog_4_method_2_code (2 : Nat) (Option.some Jvm.ClassFile.FieldType.boolean)).before args0 about1 = true := code_word (m := ⟨2, 1⟩) (meth := k2m1) (c := k2c1) (by decide +kernel) rfl rfl rfl (by decide +kernel)
def codes1 : List Jvm.Cond := [Jvm.Cond.code x code maxLocals ret, Jvm.Cond.code ({ cls := "com/example/holdfast/holdfast/LineBreaksEndsPinLaw", name := "letter", desc := "(I)C" } : Jvm.MethodName) method_3_code (2 : Nat) (Option.some Jvm.ClassFile.FieldType.char), Jvm.Cond.code ({ cls := "com/example/holdfast/holdfast/LineBreaksEndsPinLaw", name := "put", desc := "([CICI)I" } : Jvm.MethodName) method_6_code (5 : Nat) (Option.some Jvm.ClassFile.FieldType.int), Jvm.Cond.code ({ cls := "com/example/holdfast/holdfast/LineBreaksEndsPinLaw", name := "add", desc := "([CIC)I" } : Jvm.MethodName) method_5_code (3 : Nat) (Option.some Jvm.ClassFile.FieldType.int), Jvm.Cond.code ({ cls := "com/example/holdfast/holdfast/LineBreaksEndsPinLaw", name := "lines", desc := "(I)I" } : Jvm.MethodName) method_4_code (1 : Nat) (Option.some Jvm.ClassFile.FieldType.int), Jvm.Cond.code ({ cls := "com/example/holdfast/holdfast/LineBreaksEndsPinLaw", name := "at", desc := "([CII)I" } : Jvm.MethodName) method_7_code (4 : Nat) (Option.some Jvm.ClassFile.FieldType.int), Jvm.Cond.code ({ cls := "com/example/holdfast/holdfast/LineBreaks", name := "ends", desc := "(II)Z" } : Jvm.MethodName) prog_4_method_2_code (2 : Nat) (Option.some Jvm.ClassFile.FieldType.boolean)]
set_option maxRecDepth 65536 in
theorem codes_eq : words1.filter isCode = codes1 := rfl
theorem w_codes : ∀ c ∈ words1.filter isCode, c.before args0 about1 = true := by
  rw [codes_eq]
  intro c hc
  simp only [codes1, List.mem_cons, List.not_mem_nil, or_false] at hc
  rcases hc with rfl | rfl | rfl | rfl | rfl | rfl | rfl
  · exact w_c0
  · exact w_c1
  · exact w_c2
  · exact w_c3
  · exact w_c4
  · exact w_c5
  · exact w_c6
set_option maxRecDepth 65536 in
theorem w_t1 : words1.all (fun c => isCode c || c.before args0 about1) = true := by decide +kernel
theorem w_tables : (allAtoms (Jvm.Cond.code x code maxLocals ret :: tables_1)).before args0 about1 = true := by
  rw [allAtoms_all]
  show words1.all (fun c => c.before args0 about1) = true
  refine all_split ?_ w_codes
  rw [w_t1]
set_option maxRecDepth 65536 in
theorem w_case : (Jvm.Cond.and given_1 narrow_1).before args0 about1 = true := by decide +kernel
theorem w_applies : (headSpec (Jvm.Cond.code x code maxLocals ret :: tables_1) room_1).applies x e0.platform about1 = true :=
  (Spec.applies_iff w_frames).mpr ⟨w_running, w_runnable, w_alone, w_named, w_hears, w_ripe, w_room, w_tables⟩
theorem atStart : AtStart classFile x code maxLocals ret World_1 tables_1 room_1 Calls_1 rest_1 Pre_1 launch0 p0 e0 about1 theMethod args0 below0 :=
  ⟨lists_1, trivial, launch0.admits_env _ _ _, launch0.least_env, fairChoices_fair.cas, fairChoices_fair.clock, w_frames, w_args, w_heap, w_applies, trivial, trivial, w_case⟩
end start1
theorem witness_1 : WitnessClaimed_1 := ⟨start1.p0, start1.e0, start1.about1, start1.theMethod, start1.args0, start1.below0, start1.atStart⟩
end Jvm.Pilot.@@N@@
