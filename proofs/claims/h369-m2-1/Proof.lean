import JvmDerived
import JvmDerived.Pilot.@@N@@Statement
import JvmDerived.Pilot.@@N@@Code
set_option linter.unusedVariables false
set_option linter.unusedSimpArgs false
namespace Jvm.Pilot.@@N@@
open Jvm Jvm.ClassFile Sem Op Lib Jvm.Free Jvm.Stand Jvm.LawKit Jvm.RoadKit Bundle Jvm.Pilot.@@N@@.Jvm.D
/-- what is left to show at a frame of the walk: the run from there ends as the contract says -/
def own_G (p : Program) (e : Env) (below : List Frame) (s : State) (Q : Option Value → Heap → List Loc → Prop) (ce sl : Nat) (T : State) (g : JFrame) : Prop :=
  ∃ s₂ o, Steps p.tables e below (T.setTop g) s₂ ∧ s₂.status = .running ∧ Ended s₂ below o ∧ ∃ v L, o = .returned v ∧ Q v s₂.heap L ∧ FrameEnd s o s₂ L ce sl
theorem own_w {p : Program} {e : Env} {below : List Frame} {s : State} {Q : Option Value → Heap → List Loc → Prop} {ce sl : Nat} {T T' : State} {g g' : JFrame}
    (st : ∀ target, Steps p.tables e below (T'.setTop g') target → Steps p.tables e below (T.setTop g) target) (k : own_G p e below s Q ce sl T' g') : own_G p e below s Q ce sl T g := by
  obtain ⟨u, o, a, r⟩ := k
  exact ⟨u, o, st u a, r⟩
theorem own_t {p : Program} {e : Env} {below : List Frame} {s : State} {Q : Option Value → Heap → List Loc → Prop} {ce sl : Nat} {T T' : State} {g g' : JFrame}
    (st : Steps p.tables e below (T.setTop g) (T'.setTop g')) (k : own_G p e below s Q ce sl T' g') : own_G p e below s Q ce sl T g := own_w (fun _ k => st.trans k) k
theorem own_sta {Z : State} {h h' : Heap} {C n d : String} {v : Value} {a : Addr} (F : Sta Z h C n d v) (K : Keep h h' [a]) (na : ∀ cell : Cell, h[a]? = some cell → cell.vm.isStatics = false) : Sta Z h' C n d v := by
  obtain ⟨cf, i, k, f, st, cell, h1, h2, h3, h4, h5, h6, h7⟩ := F
  refine ⟨cf, i, k, f, st, cell, h1, h2, h3, h4, K.2.1 st cell h5 (fun q => ?_), h6, h7⟩
  have e : st = a := List.mem_singleton.mp q
  subst e
  rw [na _ h5] at h6; cases h6
theorem own_nb {P : Prop} [Decidable P] : narrow .boolean (.int (if P then (1 : Int32) else 0)) = .int (if P then (1 : Int32) else 0) := by split <;> rfl
theorem own_ite0 {P : Prop} [Decidable P] : ((if P then (1 : Int32) else 0) = 0) = ¬ P := by by_cases h : P <;> simp [h]
def own_Ar (Z : State) (h : Heap) (a : Addr) (ty : FieldType) (xs : List Int32) : Prop := ∃ c : Cell, Arr Z h a c ty ∧ c.slots = (xs.map Value.int).toArray
section Arrays
variable {Z : State} {h h' : Heap} {a b : Addr} {ty : FieldType} {xs : List Int32} {c : Cell} {i : Nat} {j x y v : Int32} {sl : Nat} {u : Value} {ws : List Addr}
theorem own_Ar_lt (V : own_Ar Z h a ty xs) : a < h.size := by obtain ⟨c, A, -⟩ := V; exact A.lt
theorem own_Ar_ext (V : own_Ar Z h a ty xs) (E : Ext h h') : own_Ar Z h' a ty xs := by obtain ⟨c, A, r⟩ := V; exact ⟨c, A.ext E, r⟩
theorem own_Ar_other (V : own_Ar Z h b ty xs) (W : Wr h h' a sl u) (q : b ≠ a) : own_Ar Z h' b ty xs := by obtain ⟨c, A, r⟩ := V; exact ⟨c, A.other W q, r⟩
theorem own_Ar_keep (V : own_Ar Z h a ty xs) (K : Keep h h' ws) (q : a ∉ ws) : own_Ar Z h' a ty xs := by obtain ⟨c, A, r⟩ := V; exact ⟨c, ⟨K.2.1 a c A.1 q, A.2⟩, r⟩
theorem own_Ar_new {cA : ClassId} {n : Int32} {k : Nat} (A : Arr Z h a (newA cA ty n) ty) (hd : defaultValue ty = .int 0) (hn : n.toNatClampNeg = k) : own_Ar Z h a ty (List.replicate k 0) := by
  refine ⟨_, A, ?_⟩
  show Array.replicate n.toNatClampNeg (defaultValue ty) = _
  rw [hd, hn]; simp
theorem own_ix (hj : j.toInt = (i : Int)) : j.toNatClampNeg = i := by show j.toInt.toNat = i; rw [hj]; rfl
theorem own_Ar_set (V : own_Ar Z h a ty xs) (W : Wr h h' a j.toNatClampNeg (.int y)) (hj : j.toInt = (i : Int)) (hv : y = v) : own_Ar Z h' a ty (xs.set i v) := by
  obtain ⟨c, A, hs⟩ := V
  subst hv
  refine ⟨_, A.same W, ?_⟩
  show c.slots.setIfInBounds _ _ = _
  rw [hs, own_ix hj]; simp [List.map_set]
theorem own_Ar_in (hs : c.slots = (xs.map Value.int).toArray) (hj : j.toInt = (i : Int)) (hi : i < xs.length) : ¬ (j < 0 ∨ c.slots.size ≤ j.toNatClampNeg) := by
  rw [hs, own_ix hj, Int32.lt_iff_toInt_lt, hj, show (0 : Int32).toInt = 0 from rfl]
  simp; omega
theorem own_Ar_at (hs : c.slots = (xs.map Value.int).toArray) (hj : j.toInt = (i : Int)) (hx : xs[i]? = some x) : c.slots[j.toNatClampNeg]? = some (.int x) := by
  rw [hs, own_ix hj]; simp [hx]
theorem own_fitc (A : Arr Z h a c ty) (hs : c.slots = (xs.map Value.int).toArray) (hf : ∀ x ∈ xs, fits ty (.int x) = true) : FitC Z c := fitC_of A fun i hi v hv => by
  rw [hs] at hv
  simp only [List.getElem?_toArray, List.getElem?_map, Option.map_eq_some_iff] at hv
  obtain ⟨x, hx, rfl⟩ := hv
  exact hf x (List.mem_of_getElem? hx)
theorem own_get_lt (hx : xs[i]? = some x) : i < xs.length := (List.getElem?_eq_some_iff.mp hx).1
end Arrays
theorem own_rem {x y : Int32} (d : Nat) (hy : y.toInt = d) (hd : 0 < d) (hx : 0 ≤ x.toInt) : (x - (x / y) * y).toInt = x.toInt % d := by
  have q := (c_idiv x y d hy (by intro h; rw [h] at hy; have : (-1 : Int32).toInt = -1 := by decide
                                 omega)).1 hx
  have m := c_imul (x / y) y
  have s := c_isub x (x / y * y)
  rw [q, hy] at m
  have e := Int.mul_ediv_add_emod x.toInt d
  have r0 := Int.emod_nonneg x.toInt (show (d : Int) ≠ 0 by omega)
  have r1 := Int.emod_lt_of_pos x.toInt (show (0 : Int) < d by omega)
  have p0 : 0 ≤ x.toInt / d := Int.ediv_nonneg hx (by omega)
  have p1 : 0 ≤ (d : Int) * (x.toInt / d) := Int.mul_nonneg (by omega) p0
  rw [Int.mul_comm (x.toInt / d) d] at m
  have l1 := x.toInt_lt; have l2 := (x / y * y).toInt_lt; have l3 := (x / y * y).le_toInt; have l4 := (x - x / y * y).toInt_lt; have l5 := (x - x / y * y).le_toInt
  have hy2 := y.toInt_lt
  generalize (d : Int) * (x.toInt / d) = P at *
  generalize x.toInt % (d : Int) = r at *
  omega
def own_lst (f : Nat → Nat) : List Int32 := (List.range 5).map fun i => Int32.ofNat (f i)
def own_up (f : Nat → Nat) (i v : Nat) : Nat → Nat := fun j => if j = i then v else f j
def own_rl (l : Nat → Nat) (x y m : Nat) : Nat → Nat := fun j => if j < m ∧ l j = x then y else l j
def own_inv (p l r : Nat → Nat) (B : Nat) : Prop := ∀ i, i < 5 → p i < 5 ∧ l i < 5 ∧ l (p i) = l i ∧ p (l i) = l i ∧ (p i ≠ i → r i < r (p i)) ∧ r i ≤ B ∧ (p i = i → l i = i)
theorem own_lst_ext {f g : Nat → Nat} (h : ∀ i, i < 5 → f i = g i) : own_lst f = own_lst g := by
  unfold own_lst
  apply List.map_congr_left
  intro i hi
  rw [h i (List.mem_range.mp hi)]
theorem own_lst_len (f : Nat → Nat) : (own_lst f).length = 5 := by simp [own_lst]
theorem own_lst_get {f : Nat → Nat} {i : Nat} (h : i < 5) : (own_lst f)[i]? = some (Int32.ofNat (f i)) := by
  simp [own_lst, List.getElem?_range h]
theorem own_lst_set {f : Nat → Nat} {i v : Nat} (h : i < 5) : (own_lst f).set i (Int32.ofNat v) = own_lst (own_up f i v) := by
  apply List.ext_getElem?
  intro j
  by_cases hj : j < 5
  · rw [own_lst_get hj]
    by_cases e : i = j
    · subst e
      rw [List.getElem?_set_self (by rw [own_lst_len]; exact h)]
      simp [own_up]
    · rw [List.getElem?_set_ne e, own_lst_get hj]
      simp [own_up, show ¬ j = i from fun q => e q.symm]
  · rw [List.getElem?_eq_none (by rw [List.length_set, own_lst_len]; omega), List.getElem?_eq_none (by rw [own_lst_len]; omega)]
theorem own_of {v : Nat} (h : v < 5) : (Int32.ofNat v).toInt = (v : Int) := Int32.toInt_ofNat_of_lt (by omega)
theorem own_ofi {x y : Nat} (hx : x < 5) (hy : y < 5) : Int32.ofNat x = Int32.ofNat y ↔ x = y := by
  rw [← Int32.toInt_inj, own_of hx, own_of hy]; omega
theorem own_rl0 (l : Nat → Nat) (x y : Nat) : own_lst (own_rl l x y 0) = own_lst l := own_lst_ext fun i _ => by simp [own_rl]
theorem own_rl_yes {l : Nat → Nat} {x y m : Nat} (h : l m = x) : own_up (own_rl l x y m) m y = own_rl l x y (m + 1) := by
  funext j
  unfold own_up own_rl
  by_cases e : j = m
  · subst e; simp [h]
  · simp only [if_neg e]
    by_cases q : j < m
    · simp [q, show j < m + 1 by omega]
    · simp [q, show ¬ j < m + 1 by omega]
theorem own_rl_no {l : Nat → Nat} {x y m : Nat} (h : ¬ l m = x) : own_rl l x y m = own_rl l x y (m + 1) := by
  funext j
  unfold own_rl
  by_cases e : j = m
  · subst e; simp [h]
  · by_cases q : j < m
    · simp [q, show j < m + 1 by omega]
    · simp [q, show ¬ j < m + 1 by omega]
theorem own_rl_at {l : Nat → Nat} {x y m : Nat} : own_rl l x y m m = l m := by simp [own_rl]
theorem own_rl5 (l : Nat → Nat) (x y : Nat) : own_lst (own_rl l x y 5) = own_lst (fun i => if l i = x then y else l i) := own_lst_ext fun i hi => by simp [own_rl, hi]
theorem own_half {p l r : Nat → Nat} {B x : Nat} (I : own_inv p l r B) (hx : x < 5) (hp : p x ≠ x) : own_inv (own_up p x (p (p x))) l r B ∧ r x < r (p (p x)) ∧ l (p (p x)) = l x ∧ p (p x) < 5 := by
  obtain ⟨a1, a2, a3, a4, a5, a6, a7⟩ := I x hx
  obtain ⟨b1, b2, b3, b4, b5, b6, b7⟩ := I (p x) a1
  have hr : r x < r (p (p x)) := by
    by_cases q : p (p x) = p x
    · rw [q]; exact a5 hp
    · exact Nat.lt_trans (a5 hp) (b5 q)
  refine ⟨fun i hi => ?_, hr, b3.trans a3, b1⟩
  obtain ⟨c1, c2, c3, c4, c5, c6, c7⟩ := I i hi
  have hl : own_up p x (p (p x)) (l i) = l i := by
    unfold own_up
    by_cases q : l i = x
    · exact absurd (q ▸ c4) hp
    · rw [if_neg q]; exact c4
  by_cases e : i = x
  · subst e
    have e1 : own_up p i (p (p i)) i = p (p i) := if_pos rfl
    rw [e1]
    refine ⟨b1, c2, b3.trans a3, hl, fun _ => hr, c6, fun q => ?_⟩
    rw [q] at hr; exact absurd hr (Nat.lt_irrefl _)
  · have e1 : own_up p x (p (p x)) i = p i := if_neg e
    rw [e1]
    exact ⟨c1, c2, c3, hl, c5, c6, c7⟩
theorem own_link {p l r : Nat → Nat} {B a b : Nat} (I : own_inv p l r B) (ha : a < 5) (hb : b < 5) (hne : l a ≠ l b) :
    own_inv (own_up p (l a) (l b)) (fun i => if l i = l a then l b else l i) (fun i => if l i = l b then r i + (B + 1) else r i) (B + (B + 1)) := by
  obtain ⟨-, a2, -, a4, -⟩ := I a ha
  obtain ⟨-, b2, -, b4, -⟩ := I b hb
  obtain ⟨-, -, -, -, -, ra, la⟩ := I (l a) a2
  obtain ⟨-, -, -, -, -, -, lb⟩ := I (l b) b2
  have la := la a4
  have lb := lb b4
  intro i hi
  obtain ⟨c1, c2, c3, c4, c5, c6, c7⟩ := I i hi
  have hl : own_up p (l a) (l b) (if l i = l a then l b else l i) = if l i = l a then l b else l i := by
    unfold own_up
    by_cases q : l i = l a
    · rw [if_pos q, if_neg hne.symm]; exact b4
    · rw [if_neg q, if_neg q]; exact c4
  have hc : (if l i = l a then l b else l i) < 5 := by split <;> assumption
  have hr : (if l i = l b then r i + (B + 1) else r i) ≤ B + (B + 1) := by split <;> omega
  by_cases e : i = l a
  · have e1 : own_up p (l a) (l b) i = l b := if_pos e
    rw [e1]
    have e2 : l i = l a := by rw [e]; exact la
    refine ⟨b2, hc, ?_, hl, fun _ => ?_, hr, fun q => absurd (q.trans e) hne.symm⟩
    · simp only [lb, e2, if_true, if_neg hne.symm]
    · simp only [lb, if_true]
      rw [if_neg (show ¬ l i = l b by rw [e2]; exact hne)]; omega
  · have e1 : own_up p (l a) (l b) i = p i := if_neg e
    rw [e1]
    refine ⟨c1, hc, ?_, hl, fun q => ?_, hr, fun q => ?_⟩
    · simp only [c3]
    · have := c5 q
      simp only [c3]
      split <;> omega
    · have := c7 q
      show (if l i = l a then l b else l i) = i
      rw [if_neg (show ¬ l i = l a by rw [this]; exact e)]; exact this
theorem own_inv0 : own_inv (fun i => i) (fun i => i) (fun _ => 0) 0 := fun i hi => ⟨hi, hi, rfl, rfl, fun q => absurd rfl q, Nat.le_refl _, fun _ => rfl⟩
theorem own_id : List.set (List.set (List.set (List.set (List.set (List.replicate 5 (0 : Int32)) 0 0) 1 1) 2 2) 3 3) 4 4 = own_lst (fun i => i) := by decide
theorem own_d1_0 : decode prog_8_method_1_code 0 = .ok (.aload_n 0, 1) := by decide +kernel
theorem own_d1_1 : decode prog_8_method_1_code 1 = .ok (.invokespecial 1, 3) := by decide +kernel
theorem own_d1_4 : decode prog_8_method_1_code 4 = .ok (.aload_n 0, 1) := by decide +kernel
theorem own_d1_5 : decode prog_8_method_1_code 5 = .ok (.iload_n 1, 1) := by decide +kernel
theorem own_d1_6 : decode prog_8_method_1_code 6 = .ok (.newarray .int, 2) := by decide +kernel
theorem own_d1_8 : decode prog_8_method_1_code 8 = .ok (.putfield 7, 3) := by decide +kernel
theorem own_d1_11 : decode prog_8_method_1_code 11 = .ok (.iconst 0, 1) := by decide +kernel
theorem own_d1_12 : decode prog_8_method_1_code 12 = .ok (.istore_n 2, 1) := by decide +kernel
theorem own_d1_13 : decode prog_8_method_1_code 13 = .ok (.iload_n 2, 1) := by decide +kernel
theorem own_d1_14 : decode prog_8_method_1_code 14 = .ok (.iload_n 1, 1) := by decide +kernel
theorem own_d1_15 : decode prog_8_method_1_code 15 = .ok (.if_icmp .ge 16, 3) := by decide +kernel
theorem own_d1_18 : decode prog_8_method_1_code 18 = .ok (.aload_n 0, 1) := by decide +kernel
theorem own_d1_19 : decode prog_8_method_1_code 19 = .ok (.getfield 7, 3) := by decide +kernel
theorem own_d1_22 : decode prog_8_method_1_code 22 = .ok (.iload_n 2, 1) := by decide +kernel
theorem own_d1_23 : decode prog_8_method_1_code 23 = .ok (.iload_n 2, 1) := by decide +kernel
theorem own_d1_24 : decode prog_8_method_1_code 24 = .ok (.iastore, 1) := by decide +kernel
theorem own_d1_25 : decode prog_8_method_1_code 25 = .ok (.iinc 2 1, 3) := by decide +kernel
theorem own_d1_28 : decode prog_8_method_1_code 28 = .ok (.goto (-15), 3) := by decide +kernel
theorem own_d1_31 : decode prog_8_method_1_code 31 = .ok (.return_, 1) := by decide +kernel
theorem own_pn_com_example_eigenvote_eigenvote_graph_Forest : plainName "com/example/eigenvote/eigenvote/graph/Forest" = true := by first | (simp [plainName, overriddenIn]; done) | decide +kernel
theorem own_rm1_ef (m : MethodId) (f : Addr) : entryFrame m #[(.ref f), (.int (5 : Int32))] 3 = mkF m 0 #[.val (.ref f), .val (.int (5 : Int32)), .unset] [] := by first | (simp [entryFrame, mkF, argsToLocals, Value.category]; done) | rfl
def own_Q1 (Z : State) (f : Addr) (u : Value) (h0 : Heap) (n0 : Nat) (v_ : Option Value) (h : Heap) (L_ : List Loc) : Prop := v_ = none ∧ Fr n0 L_ ∧ (Keep h0 h [f]) ∧ (∃ pa, h0.size ≤ pa ∧ Fld Z h f "com/example/eigenvote/eigenvote/graph/Forest" "parents" "[I" (.ref pa) ∧ own_Ar Z h pa .int (own_lst (fun i => i)))
set_option maxRecDepth 65536 in
set_option maxHeartbeats 40000000 in
theorem own_rm1 (l : Launch) (Z : State) (a0 : Array Value) (hw : ∀ d ∈ tables_1, d.before a0 Z = true) (ws : List Jvm.Cond) (f : Addr) (u : Value) (h0 : Heap) (n0 : Nat) (Z0 : n0 ≤ h0.size) (G : Fld Z h0 f "com/example/eigenvote/eigenvote/graph/Forest" "parents" "[I" u) (E : Exa Z h0 f "com/example/eigenvote/eigenvote/graph/Forest") (g_f : n0 ≤ f) :
    MetFree l (⟨"com/example/eigenvote/eigenvote/graph/Forest", "<init>", "(I)V"⟩ : MethodName) (head1 (Jvm.Cond.code (⟨"com/example/eigenvote/eigenvote/graph/Forest", "<init>", "(I)V"⟩ : MethodName) prog_8_method_1_code 3 none :: ws) ({ frames := 1, cells := 1, slots := 5, locals := 12 } : Room)) (fun a_ U_ => a_ = #[(.ref f), (.int (5 : Int32))] ∧ Z.Warmed39 U_.vm ∧ U_.heap = h0) (fun _ _ _ _ _ => True) (fun _ U_ o_ V_ => ∃ v_ L_, o_ = .returned v_ ∧ own_Q1 Z f u h0 n0 v_ V_.heap L_ ∧ FrameEnd U_ o_ V_ L_ ({ frames := 1, cells := 1, slots := 5, locals := 12 } : Room).cells ({ frames := 1, cells := 1, slots := 5, locals := 12 } : Room).slots) := by
  refine MetFree.of_bodySF (plainFor_of_name own_pn_com_example_eigenvote_eigenvote_graph_Forest) hisR ?_
  intro p e s m args below meth c s₁ Bd hml0 hP hK
  obtain ⟨rfl, hZ, hh⟩ := hP
  have hx := Bd.exec
  have hby := Bd.bytes
  have hml : c.maxLocals = 3 := hml0
  have hown : s.vm.findClass "com/example/eigenvote/eigenvote/graph/Forest" = some m.cls := findClass_of_methodNamed Bd.named
  have hnm := (name_of_methodNamed Bd.named Bd.method).1
  have X0 : Stand p l e ({ frames := 1, cells := 1, slots := 5, locals := 12 } : Room) s m #[(.ref f), (.int (5 : Int32))] below meth c s₁ [] 0 0 := Stand.of_body Bd
  have e0 : s₁.heap = h0 := by rw [← hh, Bd.state]; rfl
  have N0 := Fr.nil n0
  show own_G p e below s (own_Q1 Z f u h0 n0) ({ frames := 1, cells := 1, slots := 5, locals := 12 } : Room).cells ({ frames := 1, cells := 1, slots := 5, locals := 12 } : Room).slots s₁ (entryFrame m #[(.ref f), (.int (5 : Int32))] 3)
  rw [own_rm1_ef]
  refine own_w (T' := s₁) (g' := (mkF m 1 #[.val (.ref f), .val (.int (5 : Int32)), .unset] [(.ref f)])) (fun _ k_ => XS.aloadN X0.here hx rfl (hb hby own_d1_0) rfl rfl k_) ?_
  obtain ⟨T1, X1, e1, st1⟩ := initO X0 hx hZ hown (hw _ (List.mem_of_getElem? (i := 6) rfl)) (hw _ (List.mem_of_getElem? (i := 7) rfl)) (hw _ (List.mem_of_getElem? (i := 8) rfl)) e0 (g := (mkF m 1 #[.val (.ref f), .val (.int (5 : Int32)), .unset] [(.ref f)])) rfl (by rw [hml]; rfl) rfl (hb hby own_d1_1) (by decide) (W := 0) (by show 2 * 0 + _ ≤ _; exact Nat.le_of_eq rfl) (by decide)
  refine own_w (T' := T1) (g' := (mkF m 4 #[.val (.ref f), .val (.int (5 : Int32)), .unset] [])) st1 ?_
  refine own_w (T' := T1) (g' := (mkF m 5 #[.val (.ref f), .val (.int (5 : Int32)), .unset] [(.ref f)])) (fun _ k_ => XS.aloadN X1.here hx rfl (hb hby own_d1_4) rfl rfl k_) ?_
  refine own_w (T' := T1) (g' := (mkF m 6 #[.val (.ref f), .val (.int (5 : Int32)), .unset] [(.int (5 : Int32)), (.ref f)])) (fun _ k_ => XS.iloadN X1.here hx rfl (hb hby own_d1_5) rfl k_) ?_
  obtain ⟨T2, h2, k2, X2, e2, E2, A2, st2⟩ := newP X1 hx hZ (hw _ (List.mem_of_getElem? (i := 9) rfl)) e1 (g := (mkF m 6 #[.val (.ref f), .val (.int (5 : Int32)), .unset] [(.int (5 : Int32)), (.ref f)])) rfl (hb hby own_d1_6) rfl (by decide) (cap := 5) (by decide) (by decide) (by decide) (by decide)
  obtain ⟨b2, gq2⟩ : ∃ z, z = h0.size := ⟨_, rfl⟩
  rw [← gq2] at A2 st2
  have V_b2 := own_Ar_new A2 rfl (k := 5) rfl
  have g_b2 : n0 ≤ b2 := Nat.le_trans Z0 (Nat.le_of_eq gq2.symm)
  have Z2 : n0 ≤ h2.size := Nat.le_trans Z0 E2.1
  refine own_w (T' := T2) (g' := (mkF m 8 #[.val (.ref f), .val (.int (5 : Int32)), .unset] [(.ref b2), (.ref f)])) st2 ?_
  have ne : f ≠ b2 := Nat.ne_of_lt (Nat.lt_of_lt_of_le G.lt (Nat.le_of_eq gq2.symm))
  have sz : h0.size ≤ b2 := Nat.le_of_eq gq2.symm
  have K2 : Keep h0 h2 [f] := (Keep.refl h0 [f]).ext E2
  obtain ⟨T3, h3, X3, e3, W3, st3⟩ := putF X2 hx hZ hown (host := "") (Or.inl (hw _ (List.mem_of_getElem? (i := 10) rfl))) Via.refl e2 (G.ext E2) (E.ext E2) (Or.inr ⟨(hw _ (List.mem_of_getElem? (i := 11) rfl)), rfl, hnm⟩) (hw _ (List.mem_of_getElem? (i := 1) rfl)) (ty := (.array .int)) (by decide) rfl rfl (g := (mkF m 8 #[.val (.ref f), .val (.int (5 : Int32)), .unset] [(.ref b2), (.ref f)])) rfl rfl (hb hby own_d1_8)
  have N3 := Fr.snoc X3 N0 g_f
  refine own_w (T' := T3) (g' := (mkF m 11 #[.val (.ref f), .val (.int (5 : Int32)), .unset] [])) st3 ?_
  have Z3 : n0 ≤ h3.size := Nat.le_trans Z2 (Keep.of_wr W3).1
  have P3 := (G.ext E2).same W3
  have V3 := own_Ar_other V_b2 W3 ne.symm
  have K3 := K2.wr W3 (Or.inl (List.mem_singleton.mpr rfl))
  refine own_w (T' := T3) (g' := (mkF m 12 #[.val (.ref f), .val (.int (5 : Int32)), .unset] [(.int (0 : Int32))])) (fun _ k_ => XS.iconst X3.here hx rfl (hb hby own_d1_11) k_) ?_
  refine own_w (T' := T3) (g' := (mkF m 13 #[.val (.ref f), .val (.int (5 : Int32)), .val (.int (0 : Int32))] [])) (fun _ k_ => XS.istoreN X3.here hx rfl (hb hby own_d1_12) rfl (l' := #[.val (.ref f), .val (.int (5 : Int32)), .val (.int (0 : Int32))]) rfl k_) ?_
  refine own_w (T' := T3) (g' := (mkF m 14 #[.val (.ref f), .val (.int (5 : Int32)), .val (.int (0 : Int32))] [(.int (0 : Int32))])) (fun _ k_ => XS.iloadN X3.here hx rfl (hb hby own_d1_13) rfl k_) ?_
  refine own_w (T' := T3) (g' := (mkF m 15 #[.val (.ref f), .val (.int (5 : Int32)), .val (.int (0 : Int32))] [(.int (5 : Int32)), (.int (0 : Int32))])) (fun _ k_ => XS.iloadN X3.here hx rfl (hb hby own_d1_14) rfl k_) ?_
  refine own_w (T' := T3) (g' := (mkF m 18 #[.val (.ref f), .val (.int (5 : Int32)), .val (.int (0 : Int32))] [])) (fun _ k_ => XS.icmpNo X3.here hx rfl (hb hby own_d1_15) rfl (tlt (by decide)).2.1 k_) ?_
  refine own_w (T' := T3) (g' := (mkF m 19 #[.val (.ref f), .val (.int (5 : Int32)), .val (.int (0 : Int32))] [(.ref f)])) (fun _ k_ => XS.aloadN X3.here hx rfl (hb hby own_d1_18) rfl rfl k_) ?_
  obtain ⟨T4, X4, e4, st4⟩ := getF X3 hx hZ hown (host := "") (Or.inl (hw _ (List.mem_of_getElem? (i := 10) rfl))) Via.refl e3 P3 (g := (mkF m 19 #[.val (.ref f), .val (.int (5 : Int32)), .val (.int (0 : Int32))] [(.ref f)])) rfl rfl (hb hby own_d1_19)
  refine own_w (T' := T4) (g' := (mkF m 22 #[.val (.ref f), .val (.int (5 : Int32)), .val (.int (0 : Int32))] [(.ref b2)])) st4 ?_
  refine own_w (T' := T4) (g' := (mkF m 23 #[.val (.ref f), .val (.int (5 : Int32)), .val (.int (0 : Int32))] [(.int (0 : Int32)), (.ref b2)])) (fun _ k_ => XS.iloadN X4.here hx rfl (hb hby own_d1_22) rfl k_) ?_
  refine own_w (T' := T4) (g' := (mkF m 24 #[.val (.ref f), .val (.int (5 : Int32)), .val (.int (0 : Int32))] [(.int (0 : Int32)), (.int (0 : Int32)), (.ref b2)])) (fun _ k_ => XS.iloadN X4.here hx rfl (hb hby own_d1_23) rfl k_) ?_
  obtain ⟨cl5, Ar5, hs5⟩ := id V3
  obtain ⟨T5, h5, X5, e5, W5, st5⟩ := stI X4 hx hZ e4 Ar5 (j := (0 : Int32)) (own_Ar_in (i := 0) hs5 (by decide) (by simp)) (g := (mkF m 24 #[.val (.ref f), .val (.int (5 : Int32)), .val (.int (0 : Int32))] [(.int (0 : Int32)), (.int (0 : Int32)), (.ref b2)])) rfl rfl (hb hby own_d1_24)
  have V5 := own_Ar_set (i := 0) V3 W5 (by decide) rfl
  have N5 := Fr.snoc X5 N3 g_b2
  have Z5 : n0 ≤ h5.size := Nat.le_trans Z3 (Keep.of_wr W5).1
  refine own_w (T' := T5) (g' := (mkF m 25 #[.val (.ref f), .val (.int (5 : Int32)), .val (.int (0 : Int32))] [])) st5 ?_
  have P5 := P3.other W5 (Or.inl ne)
  have K5 := K3.wr W5 (Or.inr sz)
  refine own_w (T' := T5) (g' := (mkF m 28 #[.val (.ref f), .val (.int (5 : Int32)), .val (.int (1 : Int32))] [])) (fun _ k_ => XS.iinc X5.here hx rfl (hb hby own_d1_25) rfl (l' := #[.val (.ref f), .val (.int (5 : Int32)), .val (.int (1 : Int32))]) rfl k_) ?_
  refine own_w (T' := T5) (g' := (mkF m 13 #[.val (.ref f), .val (.int (5 : Int32)), .val (.int (1 : Int32))] [])) (fun _ k_ => XS.goto X5.here hx rfl (pc0 := 28) (pc' := 13) rfl (hb hby own_d1_28) (by decide) (by decide) k_) ?_
  refine own_w (T' := T5) (g' := (mkF m 14 #[.val (.ref f), .val (.int (5 : Int32)), .val (.int (1 : Int32))] [(.int (1 : Int32))])) (fun _ k_ => XS.iloadN X5.here hx rfl (hb hby own_d1_13) rfl k_) ?_
  refine own_w (T' := T5) (g' := (mkF m 15 #[.val (.ref f), .val (.int (5 : Int32)), .val (.int (1 : Int32))] [(.int (5 : Int32)), (.int (1 : Int32))])) (fun _ k_ => XS.iloadN X5.here hx rfl (hb hby own_d1_14) rfl k_) ?_
  refine own_w (T' := T5) (g' := (mkF m 18 #[.val (.ref f), .val (.int (5 : Int32)), .val (.int (1 : Int32))] [])) (fun _ k_ => XS.icmpNo X5.here hx rfl (hb hby own_d1_15) rfl (tlt (by decide)).2.1 k_) ?_
  refine own_w (T' := T5) (g' := (mkF m 19 #[.val (.ref f), .val (.int (5 : Int32)), .val (.int (1 : Int32))] [(.ref f)])) (fun _ k_ => XS.aloadN X5.here hx rfl (hb hby own_d1_18) rfl rfl k_) ?_
  obtain ⟨T6, X6, e6, st6⟩ := getF X5 hx hZ hown (host := "") (Or.inl (hw _ (List.mem_of_getElem? (i := 10) rfl))) Via.refl e5 P5 (g := (mkF m 19 #[.val (.ref f), .val (.int (5 : Int32)), .val (.int (1 : Int32))] [(.ref f)])) rfl rfl (hb hby own_d1_19)
  refine own_w (T' := T6) (g' := (mkF m 22 #[.val (.ref f), .val (.int (5 : Int32)), .val (.int (1 : Int32))] [(.ref b2)])) st6 ?_
  refine own_w (T' := T6) (g' := (mkF m 23 #[.val (.ref f), .val (.int (5 : Int32)), .val (.int (1 : Int32))] [(.int (1 : Int32)), (.ref b2)])) (fun _ k_ => XS.iloadN X6.here hx rfl (hb hby own_d1_22) rfl k_) ?_
  refine own_w (T' := T6) (g' := (mkF m 24 #[.val (.ref f), .val (.int (5 : Int32)), .val (.int (1 : Int32))] [(.int (1 : Int32)), (.int (1 : Int32)), (.ref b2)])) (fun _ k_ => XS.iloadN X6.here hx rfl (hb hby own_d1_23) rfl k_) ?_
  obtain ⟨cl7, Ar7, hs7⟩ := id V5
  obtain ⟨T7, h7, X7, e7, W7, st7⟩ := stI X6 hx hZ e6 Ar7 (j := (1 : Int32)) (own_Ar_in (i := 1) hs7 (by decide) (by simp)) (g := (mkF m 24 #[.val (.ref f), .val (.int (5 : Int32)), .val (.int (1 : Int32))] [(.int (1 : Int32)), (.int (1 : Int32)), (.ref b2)])) rfl rfl (hb hby own_d1_24)
  have V7 := own_Ar_set (i := 1) V5 W7 (by decide) rfl
  have N7 := Fr.snoc X7 N5 g_b2
  have Z7 : n0 ≤ h7.size := Nat.le_trans Z5 (Keep.of_wr W7).1
  refine own_w (T' := T7) (g' := (mkF m 25 #[.val (.ref f), .val (.int (5 : Int32)), .val (.int (1 : Int32))] [])) st7 ?_
  have P7 := P5.other W7 (Or.inl ne)
  have K7 := K5.wr W7 (Or.inr sz)
  refine own_w (T' := T7) (g' := (mkF m 28 #[.val (.ref f), .val (.int (5 : Int32)), .val (.int (2 : Int32))] [])) (fun _ k_ => XS.iinc X7.here hx rfl (hb hby own_d1_25) rfl (l' := #[.val (.ref f), .val (.int (5 : Int32)), .val (.int (2 : Int32))]) rfl k_) ?_
  refine own_w (T' := T7) (g' := (mkF m 13 #[.val (.ref f), .val (.int (5 : Int32)), .val (.int (2 : Int32))] [])) (fun _ k_ => XS.goto X7.here hx rfl (pc0 := 28) (pc' := 13) rfl (hb hby own_d1_28) (by decide) (by decide) k_) ?_
  refine own_w (T' := T7) (g' := (mkF m 14 #[.val (.ref f), .val (.int (5 : Int32)), .val (.int (2 : Int32))] [(.int (2 : Int32))])) (fun _ k_ => XS.iloadN X7.here hx rfl (hb hby own_d1_13) rfl k_) ?_
  refine own_w (T' := T7) (g' := (mkF m 15 #[.val (.ref f), .val (.int (5 : Int32)), .val (.int (2 : Int32))] [(.int (5 : Int32)), (.int (2 : Int32))])) (fun _ k_ => XS.iloadN X7.here hx rfl (hb hby own_d1_14) rfl k_) ?_
  refine own_w (T' := T7) (g' := (mkF m 18 #[.val (.ref f), .val (.int (5 : Int32)), .val (.int (2 : Int32))] [])) (fun _ k_ => XS.icmpNo X7.here hx rfl (hb hby own_d1_15) rfl (tlt (by decide)).2.1 k_) ?_
  refine own_w (T' := T7) (g' := (mkF m 19 #[.val (.ref f), .val (.int (5 : Int32)), .val (.int (2 : Int32))] [(.ref f)])) (fun _ k_ => XS.aloadN X7.here hx rfl (hb hby own_d1_18) rfl rfl k_) ?_
  obtain ⟨T8, X8, e8, st8⟩ := getF X7 hx hZ hown (host := "") (Or.inl (hw _ (List.mem_of_getElem? (i := 10) rfl))) Via.refl e7 P7 (g := (mkF m 19 #[.val (.ref f), .val (.int (5 : Int32)), .val (.int (2 : Int32))] [(.ref f)])) rfl rfl (hb hby own_d1_19)
  refine own_w (T' := T8) (g' := (mkF m 22 #[.val (.ref f), .val (.int (5 : Int32)), .val (.int (2 : Int32))] [(.ref b2)])) st8 ?_
  refine own_w (T' := T8) (g' := (mkF m 23 #[.val (.ref f), .val (.int (5 : Int32)), .val (.int (2 : Int32))] [(.int (2 : Int32)), (.ref b2)])) (fun _ k_ => XS.iloadN X8.here hx rfl (hb hby own_d1_22) rfl k_) ?_
  refine own_w (T' := T8) (g' := (mkF m 24 #[.val (.ref f), .val (.int (5 : Int32)), .val (.int (2 : Int32))] [(.int (2 : Int32)), (.int (2 : Int32)), (.ref b2)])) (fun _ k_ => XS.iloadN X8.here hx rfl (hb hby own_d1_23) rfl k_) ?_
  obtain ⟨cl9, Ar9, hs9⟩ := id V7
  obtain ⟨T9, h9, X9, e9, W9, st9⟩ := stI X8 hx hZ e8 Ar9 (j := (2 : Int32)) (own_Ar_in (i := 2) hs9 (by decide) (by simp)) (g := (mkF m 24 #[.val (.ref f), .val (.int (5 : Int32)), .val (.int (2 : Int32))] [(.int (2 : Int32)), (.int (2 : Int32)), (.ref b2)])) rfl rfl (hb hby own_d1_24)
  have V9 := own_Ar_set (i := 2) V7 W9 (by decide) rfl
  have N9 := Fr.snoc X9 N7 g_b2
  have Z9 : n0 ≤ h9.size := Nat.le_trans Z7 (Keep.of_wr W9).1
  refine own_w (T' := T9) (g' := (mkF m 25 #[.val (.ref f), .val (.int (5 : Int32)), .val (.int (2 : Int32))] [])) st9 ?_
  have P9 := P7.other W9 (Or.inl ne)
  have K9 := K7.wr W9 (Or.inr sz)
  refine own_w (T' := T9) (g' := (mkF m 28 #[.val (.ref f), .val (.int (5 : Int32)), .val (.int (3 : Int32))] [])) (fun _ k_ => XS.iinc X9.here hx rfl (hb hby own_d1_25) rfl (l' := #[.val (.ref f), .val (.int (5 : Int32)), .val (.int (3 : Int32))]) rfl k_) ?_
  refine own_w (T' := T9) (g' := (mkF m 13 #[.val (.ref f), .val (.int (5 : Int32)), .val (.int (3 : Int32))] [])) (fun _ k_ => XS.goto X9.here hx rfl (pc0 := 28) (pc' := 13) rfl (hb hby own_d1_28) (by decide) (by decide) k_) ?_
  refine own_w (T' := T9) (g' := (mkF m 14 #[.val (.ref f), .val (.int (5 : Int32)), .val (.int (3 : Int32))] [(.int (3 : Int32))])) (fun _ k_ => XS.iloadN X9.here hx rfl (hb hby own_d1_13) rfl k_) ?_
  refine own_w (T' := T9) (g' := (mkF m 15 #[.val (.ref f), .val (.int (5 : Int32)), .val (.int (3 : Int32))] [(.int (5 : Int32)), (.int (3 : Int32))])) (fun _ k_ => XS.iloadN X9.here hx rfl (hb hby own_d1_14) rfl k_) ?_
  refine own_w (T' := T9) (g' := (mkF m 18 #[.val (.ref f), .val (.int (5 : Int32)), .val (.int (3 : Int32))] [])) (fun _ k_ => XS.icmpNo X9.here hx rfl (hb hby own_d1_15) rfl (tlt (by decide)).2.1 k_) ?_
  refine own_w (T' := T9) (g' := (mkF m 19 #[.val (.ref f), .val (.int (5 : Int32)), .val (.int (3 : Int32))] [(.ref f)])) (fun _ k_ => XS.aloadN X9.here hx rfl (hb hby own_d1_18) rfl rfl k_) ?_
  obtain ⟨T10, X10, e10, st10⟩ := getF X9 hx hZ hown (host := "") (Or.inl (hw _ (List.mem_of_getElem? (i := 10) rfl))) Via.refl e9 P9 (g := (mkF m 19 #[.val (.ref f), .val (.int (5 : Int32)), .val (.int (3 : Int32))] [(.ref f)])) rfl rfl (hb hby own_d1_19)
  refine own_w (T' := T10) (g' := (mkF m 22 #[.val (.ref f), .val (.int (5 : Int32)), .val (.int (3 : Int32))] [(.ref b2)])) st10 ?_
  refine own_w (T' := T10) (g' := (mkF m 23 #[.val (.ref f), .val (.int (5 : Int32)), .val (.int (3 : Int32))] [(.int (3 : Int32)), (.ref b2)])) (fun _ k_ => XS.iloadN X10.here hx rfl (hb hby own_d1_22) rfl k_) ?_
  refine own_w (T' := T10) (g' := (mkF m 24 #[.val (.ref f), .val (.int (5 : Int32)), .val (.int (3 : Int32))] [(.int (3 : Int32)), (.int (3 : Int32)), (.ref b2)])) (fun _ k_ => XS.iloadN X10.here hx rfl (hb hby own_d1_23) rfl k_) ?_
  obtain ⟨cl11, Ar11, hs11⟩ := id V9
  obtain ⟨T11, h11, X11, e11, W11, st11⟩ := stI X10 hx hZ e10 Ar11 (j := (3 : Int32)) (own_Ar_in (i := 3) hs11 (by decide) (by simp)) (g := (mkF m 24 #[.val (.ref f), .val (.int (5 : Int32)), .val (.int (3 : Int32))] [(.int (3 : Int32)), (.int (3 : Int32)), (.ref b2)])) rfl rfl (hb hby own_d1_24)
  have V11 := own_Ar_set (i := 3) V9 W11 (by decide) rfl
  have N11 := Fr.snoc X11 N9 g_b2
  have Z11 : n0 ≤ h11.size := Nat.le_trans Z9 (Keep.of_wr W11).1
  refine own_w (T' := T11) (g' := (mkF m 25 #[.val (.ref f), .val (.int (5 : Int32)), .val (.int (3 : Int32))] [])) st11 ?_
  have P11 := P9.other W11 (Or.inl ne)
  have K11 := K9.wr W11 (Or.inr sz)
  refine own_w (T' := T11) (g' := (mkF m 28 #[.val (.ref f), .val (.int (5 : Int32)), .val (.int (4 : Int32))] [])) (fun _ k_ => XS.iinc X11.here hx rfl (hb hby own_d1_25) rfl (l' := #[.val (.ref f), .val (.int (5 : Int32)), .val (.int (4 : Int32))]) rfl k_) ?_
  refine own_w (T' := T11) (g' := (mkF m 13 #[.val (.ref f), .val (.int (5 : Int32)), .val (.int (4 : Int32))] [])) (fun _ k_ => XS.goto X11.here hx rfl (pc0 := 28) (pc' := 13) rfl (hb hby own_d1_28) (by decide) (by decide) k_) ?_
  refine own_w (T' := T11) (g' := (mkF m 14 #[.val (.ref f), .val (.int (5 : Int32)), .val (.int (4 : Int32))] [(.int (4 : Int32))])) (fun _ k_ => XS.iloadN X11.here hx rfl (hb hby own_d1_13) rfl k_) ?_
  refine own_w (T' := T11) (g' := (mkF m 15 #[.val (.ref f), .val (.int (5 : Int32)), .val (.int (4 : Int32))] [(.int (5 : Int32)), (.int (4 : Int32))])) (fun _ k_ => XS.iloadN X11.here hx rfl (hb hby own_d1_14) rfl k_) ?_
  refine own_w (T' := T11) (g' := (mkF m 18 #[.val (.ref f), .val (.int (5 : Int32)), .val (.int (4 : Int32))] [])) (fun _ k_ => XS.icmpNo X11.here hx rfl (hb hby own_d1_15) rfl (tlt (by decide)).2.1 k_) ?_
  refine own_w (T' := T11) (g' := (mkF m 19 #[.val (.ref f), .val (.int (5 : Int32)), .val (.int (4 : Int32))] [(.ref f)])) (fun _ k_ => XS.aloadN X11.here hx rfl (hb hby own_d1_18) rfl rfl k_) ?_
  obtain ⟨T12, X12, e12, st12⟩ := getF X11 hx hZ hown (host := "") (Or.inl (hw _ (List.mem_of_getElem? (i := 10) rfl))) Via.refl e11 P11 (g := (mkF m 19 #[.val (.ref f), .val (.int (5 : Int32)), .val (.int (4 : Int32))] [(.ref f)])) rfl rfl (hb hby own_d1_19)
  refine own_w (T' := T12) (g' := (mkF m 22 #[.val (.ref f), .val (.int (5 : Int32)), .val (.int (4 : Int32))] [(.ref b2)])) st12 ?_
  refine own_w (T' := T12) (g' := (mkF m 23 #[.val (.ref f), .val (.int (5 : Int32)), .val (.int (4 : Int32))] [(.int (4 : Int32)), (.ref b2)])) (fun _ k_ => XS.iloadN X12.here hx rfl (hb hby own_d1_22) rfl k_) ?_
  refine own_w (T' := T12) (g' := (mkF m 24 #[.val (.ref f), .val (.int (5 : Int32)), .val (.int (4 : Int32))] [(.int (4 : Int32)), (.int (4 : Int32)), (.ref b2)])) (fun _ k_ => XS.iloadN X12.here hx rfl (hb hby own_d1_23) rfl k_) ?_
  obtain ⟨cl13, Ar13, hs13⟩ := id V11
  obtain ⟨T13, h13, X13, e13, W13, st13⟩ := stI X12 hx hZ e12 Ar13 (j := (4 : Int32)) (own_Ar_in (i := 4) hs13 (by decide) (by simp)) (g := (mkF m 24 #[.val (.ref f), .val (.int (5 : Int32)), .val (.int (4 : Int32))] [(.int (4 : Int32)), (.int (4 : Int32)), (.ref b2)])) rfl rfl (hb hby own_d1_24)
  have V13 := own_Ar_set (i := 4) V11 W13 (by decide) rfl
  have N13 := Fr.snoc X13 N11 g_b2
  have Z13 : n0 ≤ h13.size := Nat.le_trans Z11 (Keep.of_wr W13).1
  refine own_w (T' := T13) (g' := (mkF m 25 #[.val (.ref f), .val (.int (5 : Int32)), .val (.int (4 : Int32))] [])) st13 ?_
  have P13 := P11.other W13 (Or.inl ne)
  have K13 := K11.wr W13 (Or.inr sz)
  refine own_w (T' := T13) (g' := (mkF m 28 #[.val (.ref f), .val (.int (5 : Int32)), .val (.int (5 : Int32))] [])) (fun _ k_ => XS.iinc X13.here hx rfl (hb hby own_d1_25) rfl (l' := #[.val (.ref f), .val (.int (5 : Int32)), .val (.int (5 : Int32))]) rfl k_) ?_
  refine own_w (T' := T13) (g' := (mkF m 13 #[.val (.ref f), .val (.int (5 : Int32)), .val (.int (5 : Int32))] [])) (fun _ k_ => XS.goto X13.here hx rfl (pc0 := 28) (pc' := 13) rfl (hb hby own_d1_28) (by decide) (by decide) k_) ?_
  refine own_w (T' := T13) (g' := (mkF m 14 #[.val (.ref f), .val (.int (5 : Int32)), .val (.int (5 : Int32))] [(.int (5 : Int32))])) (fun _ k_ => XS.iloadN X13.here hx rfl (hb hby own_d1_13) rfl k_) ?_
  refine own_w (T' := T13) (g' := (mkF m 15 #[.val (.ref f), .val (.int (5 : Int32)), .val (.int (5 : Int32))] [(.int (5 : Int32)), (.int (5 : Int32))])) (fun _ k_ => XS.iloadN X13.here hx rfl (hb hby own_d1_14) rfl k_) ?_
  refine own_w (T' := T13) (g' := (mkF m 31 #[.val (.ref f), .val (.int (5 : Int32)), .val (.int (5 : Int32))] [])) (fun _ k_ => XS.icmpYes X13.here hx rfl (pc0 := 15) (pc' := 31) rfl (hb hby own_d1_15) rfl (flt (by decide)).2.1 (by decide) (by decide) k_) ?_
  obtain ⟨fs, hr, hrun, hended, hW, hsame⟩ := X13.leave (v := none) (fun _ => rfl)
  exact ⟨_, _, X13.returnOut hx Bd.returns (hb hby own_d1_31) hr, hrun, hended, _, _, rfl, (by show own_Q1 Z f u h0 n0 _ T13.heap _; rw [e13]; exact ⟨rfl, N13, K13, ⟨_, sz, P13, own_id ▸ V13⟩⟩), ⟨_, rfl⟩, hW, hsame.mono (by decide) (by decide)⟩
theorem own_d4_0 : decode prog_8_method_3_code 0 = .ok (.aload_n 0, 1) := by decide +kernel
theorem own_d4_1 : decode prog_8_method_3_code 1 = .ok (.getfield 7, 3) := by decide +kernel
theorem own_d4_4 : decode prog_8_method_3_code 4 = .ok (.iload_n 1, 1) := by decide +kernel
theorem own_d4_5 : decode prog_8_method_3_code 5 = .ok (.iload_n 2, 1) := by decide +kernel
theorem own_d4_6 : decode prog_8_method_3_code 6 = .ok (.iastore, 1) := by decide +kernel
theorem own_d4_7 : decode prog_8_method_3_code 7 = .ok (.return_, 1) := by decide +kernel
theorem own_rm4_ef (m : MethodId) (f : Addr) (x' : Int32) (y' : Int32) : entryFrame m #[(.ref f), (.int x'), (.int y')] 3 = mkF m 0 #[.val (.ref f), .val (.int x'), .val (.int y')] [] := by first | (simp [entryFrame, mkF, argsToLocals, Value.category]; done) | rfl
def own_Q4 (Z : State) (f : Addr) (x' : Int32) (y' : Int32) (pa : Addr) (pf : Nat → Nat) (i : Nat) (v : Nat) (h0 : Heap) (n0 : Nat) (v_ : Option Value) (h : Heap) (L_ : List Loc) : Prop := v_ = none ∧ Fr n0 L_ ∧ (Keep h0 h [pa]) ∧ (own_Ar Z h pa .int (own_lst (own_up pf i v)))
set_option maxRecDepth 65536 in
set_option maxHeartbeats 40000000 in
theorem own_rm4 (l : Launch) (Z : State) (a0 : Array Value) (hw : ∀ d ∈ tables_1, d.before a0 Z = true) (ws : List Jvm.Cond) (f : Addr) (x' : Int32) (y' : Int32) (pa : Addr) (pf : Nat → Nat) (i : Nat) (v : Nat) (h0 : Heap) (n0 : Nat) (Z0 : n0 ≤ h0.size) (G : Fld Z h0 f "com/example/eigenvote/eigenvote/graph/Forest" "parents" "[I" (.ref pa)) (V : own_Ar Z h0 pa .int (own_lst pf)) (g_pa : n0 ≤ pa) (hi : x'.toInt = (i : Int)) (h5 : i < 5) (hv : y' = Int32.ofNat v) :
    MetFree l (⟨"com/example/eigenvote/eigenvote/graph/Forest", "attach", "(II)V"⟩ : MethodName) (head1 (Jvm.Cond.code (⟨"com/example/eigenvote/eigenvote/graph/Forest", "attach", "(II)V"⟩ : MethodName) prog_8_method_3_code 3 none :: ws) ({ frames := 0, cells := 0, slots := 0, locals := 0 } : Room)) (fun a_ U_ => a_ = #[(.ref f), (.int x'), (.int y')] ∧ Z.Warmed39 U_.vm ∧ U_.heap = h0) (fun _ _ _ _ _ => True) (fun _ U_ o_ V_ => ∃ v_ L_, o_ = .returned v_ ∧ own_Q4 Z f x' y' pa pf i v h0 n0 v_ V_.heap L_ ∧ FrameEnd U_ o_ V_ L_ ({ frames := 0, cells := 0, slots := 0, locals := 0 } : Room).cells ({ frames := 0, cells := 0, slots := 0, locals := 0 } : Room).slots) := by
  refine MetFree.of_bodySF (plainFor_of_name own_pn_com_example_eigenvote_eigenvote_graph_Forest) hisR ?_
  intro p e s m args below meth c s₁ Bd hml0 hP hK
  obtain ⟨rfl, hZ, hh⟩ := hP
  have hx := Bd.exec
  have hby := Bd.bytes
  have hml : c.maxLocals = 3 := hml0
  have hown : s.vm.findClass "com/example/eigenvote/eigenvote/graph/Forest" = some m.cls := findClass_of_methodNamed Bd.named
  have hnm := (name_of_methodNamed Bd.named Bd.method).1
  have X0 : Stand p l e ({ frames := 0, cells := 0, slots := 0, locals := 0 } : Room) s m #[(.ref f), (.int x'), (.int y')] below meth c s₁ [] 0 0 := Stand.of_body Bd
  have e0 : s₁.heap = h0 := by rw [← hh, Bd.state]; rfl
  have N0 := Fr.nil n0
  show own_G p e below s (own_Q4 Z f x' y' pa pf i v h0 n0) ({ frames := 0, cells := 0, slots := 0, locals := 0 } : Room).cells ({ frames := 0, cells := 0, slots := 0, locals := 0 } : Room).slots s₁ (entryFrame m #[(.ref f), (.int x'), (.int y')] 3)
  rw [own_rm4_ef]
  refine own_w (T' := s₁) (g' := (mkF m 1 #[.val (.ref f), .val (.int x'), .val (.int y')] [(.ref f)])) (fun _ k_ => XS.aloadN X0.here hx rfl (hb hby own_d4_0) rfl rfl k_) ?_
  obtain ⟨T1, X1, e1, st1⟩ := getF X0 hx hZ hown (host := "") (Or.inl (hw _ (List.mem_of_getElem? (i := 10) rfl))) Via.refl e0 G (g := (mkF m 1 #[.val (.ref f), .val (.int x'), .val (.int y')] [(.ref f)])) rfl rfl (hb hby own_d4_1)
  refine own_w (T' := T1) (g' := (mkF m 4 #[.val (.ref f), .val (.int x'), .val (.int y')] [(.ref pa)])) st1 ?_
  refine own_w (T' := T1) (g' := (mkF m 5 #[.val (.ref f), .val (.int x'), .val (.int y')] [(.int x'), (.ref pa)])) (fun _ k_ => XS.iloadN X1.here hx rfl (hb hby own_d4_4) rfl k_) ?_
  refine own_w (T' := T1) (g' := (mkF m 6 #[.val (.ref f), .val (.int x'), .val (.int y')] [(.int y'), (.int x'), (.ref pa)])) (fun _ k_ => XS.iloadN X1.here hx rfl (hb hby own_d4_5) rfl k_) ?_
  obtain ⟨cl2, Ar2, hs2⟩ := id V
  obtain ⟨T2, h2, X2, e2, W2, st2⟩ := stI X1 hx hZ e1 Ar2 (j := x') (own_Ar_in (i := i) hs2 hi (by rw [own_lst_len]; exact h5)) (g := (mkF m 6 #[.val (.ref f), .val (.int x'), .val (.int y')] [(.int y'), (.int x'), (.ref pa)])) rfl rfl (hb hby own_d4_6)
  have V2 := own_Ar_set (i := i) (v := (Int32.ofNat v)) V W2 hi hv
  have N2 := Fr.snoc X2 N0 g_pa
  have Z2 : n0 ≤ h2.size := Nat.le_trans Z0 (Keep.of_wr W2).1
  refine own_w (T' := T2) (g' := (mkF m 7 #[.val (.ref f), .val (.int x'), .val (.int y')] [])) st2 ?_
  obtain ⟨fs, hr, hrun, hended, hW, hsame⟩ := X2.leave (v := none) (fun _ => rfl)
  exact ⟨_, _, X2.returnOut hx Bd.returns (hb hby own_d4_7) hr, hrun, hended, _, _, rfl, (by show own_Q4 Z f x' y' pa pf i v h0 n0 _ T2.heap _; rw [e2]; exact ⟨rfl, N2, Keep.of_wr W2, own_lst_set h5 ▸ V2⟩), ⟨_, rfl⟩, hW, hsame.mono (by decide) (by decide)⟩
theorem own_d5_55 : decode method_4_code 55 = .ok (.return_, 1) := by decide +kernel
theorem own_d5_44 : decode method_4_code 44 = .ok (.aload_n 0, 1) := by decide +kernel
theorem own_d5_45 : decode method_4_code 45 = .ok (.iconst 4, 1) := by decide +kernel
theorem own_d5_46 : decode method_4_code 46 = .ok (.iaload, 1) := by decide +kernel
theorem own_d5_47 : decode method_4_code 47 = .ok (.iload_n 1, 1) := by decide +kernel
theorem own_d5_48 : decode method_4_code 48 = .ok (.if_icmp .ne 7, 3) := by decide +kernel
theorem own_d5_51 : decode method_4_code 51 = .ok (.aload_n 0, 1) := by decide +kernel
theorem own_d5_52 : decode method_4_code 52 = .ok (.iconst 4, 1) := by decide +kernel
theorem own_d5_53 : decode method_4_code 53 = .ok (.iload_n 2, 1) := by decide +kernel
theorem own_d5_54 : decode method_4_code 54 = .ok (.iastore, 1) := by decide +kernel
theorem own_d5_33 : decode method_4_code 33 = .ok (.aload_n 0, 1) := by decide +kernel
theorem own_d5_34 : decode method_4_code 34 = .ok (.iconst 3, 1) := by decide +kernel
theorem own_d5_35 : decode method_4_code 35 = .ok (.iaload, 1) := by decide +kernel
theorem own_d5_36 : decode method_4_code 36 = .ok (.iload_n 1, 1) := by decide +kernel
theorem own_d5_37 : decode method_4_code 37 = .ok (.if_icmp .ne 7, 3) := by decide +kernel
theorem own_d5_40 : decode method_4_code 40 = .ok (.aload_n 0, 1) := by decide +kernel
theorem own_d5_41 : decode method_4_code 41 = .ok (.iconst 3, 1) := by decide +kernel
theorem own_d5_42 : decode method_4_code 42 = .ok (.iload_n 2, 1) := by decide +kernel
theorem own_d5_43 : decode method_4_code 43 = .ok (.iastore, 1) := by decide +kernel
theorem own_d5_22 : decode method_4_code 22 = .ok (.aload_n 0, 1) := by decide +kernel
theorem own_d5_23 : decode method_4_code 23 = .ok (.iconst 2, 1) := by decide +kernel
theorem own_d5_24 : decode method_4_code 24 = .ok (.iaload, 1) := by decide +kernel
theorem own_d5_25 : decode method_4_code 25 = .ok (.iload_n 1, 1) := by decide +kernel
theorem own_d5_26 : decode method_4_code 26 = .ok (.if_icmp .ne 7, 3) := by decide +kernel
theorem own_d5_29 : decode method_4_code 29 = .ok (.aload_n 0, 1) := by decide +kernel
theorem own_d5_30 : decode method_4_code 30 = .ok (.iconst 2, 1) := by decide +kernel
theorem own_d5_31 : decode method_4_code 31 = .ok (.iload_n 2, 1) := by decide +kernel
theorem own_d5_32 : decode method_4_code 32 = .ok (.iastore, 1) := by decide +kernel
theorem own_d5_11 : decode method_4_code 11 = .ok (.aload_n 0, 1) := by decide +kernel
theorem own_d5_12 : decode method_4_code 12 = .ok (.iconst 1, 1) := by decide +kernel
theorem own_d5_13 : decode method_4_code 13 = .ok (.iaload, 1) := by decide +kernel
theorem own_d5_14 : decode method_4_code 14 = .ok (.iload_n 1, 1) := by decide +kernel
theorem own_d5_15 : decode method_4_code 15 = .ok (.if_icmp .ne 7, 3) := by decide +kernel
theorem own_d5_18 : decode method_4_code 18 = .ok (.aload_n 0, 1) := by decide +kernel
theorem own_d5_19 : decode method_4_code 19 = .ok (.iconst 1, 1) := by decide +kernel
theorem own_d5_20 : decode method_4_code 20 = .ok (.iload_n 2, 1) := by decide +kernel
theorem own_d5_21 : decode method_4_code 21 = .ok (.iastore, 1) := by decide +kernel
theorem own_d5_0 : decode method_4_code 0 = .ok (.aload_n 0, 1) := by decide +kernel
theorem own_d5_1 : decode method_4_code 1 = .ok (.iconst 0, 1) := by decide +kernel
theorem own_d5_2 : decode method_4_code 2 = .ok (.iaload, 1) := by decide +kernel
theorem own_d5_3 : decode method_4_code 3 = .ok (.iload_n 1, 1) := by decide +kernel
theorem own_d5_4 : decode method_4_code 4 = .ok (.if_icmp .ne 7, 3) := by decide +kernel
theorem own_d5_7 : decode method_4_code 7 = .ok (.aload_n 0, 1) := by decide +kernel
theorem own_d5_8 : decode method_4_code 8 = .ok (.iconst 0, 1) := by decide +kernel
theorem own_d5_9 : decode method_4_code 9 = .ok (.iload_n 2, 1) := by decide +kernel
theorem own_d5_10 : decode method_4_code 10 = .ok (.iastore, 1) := by decide +kernel
theorem own_pn_com_example_eigenvote_eigenvote_graph_ForestRootPinLaw : plainName "com/example/eigenvote/eigenvote/graph/ForestRootPinLaw" = true := by first | (simp [plainName, overriddenIn]; done) | decide +kernel
theorem own_rm5_ef (m : MethodId) (lb : Addr) (x' : Int32) (y' : Int32) : entryFrame m #[(.ref lb), (.int x'), (.int y')] 3 = mkF m 0 #[.val (.ref lb), .val (.int x'), .val (.int y')] [] := by first | (simp [entryFrame, mkF, argsToLocals, Value.category]; done) | rfl
def own_Q5 (Z : State) (lb : Addr) (x' : Int32) (y' : Int32) (lf : Nat → Nat) (x : Nat) (y : Nat) (h0 : Heap) (n0 : Nat) (v_ : Option Value) (h : Heap) (L_ : List Loc) : Prop := v_ = none ∧ Fr n0 L_ ∧ (Keep h0 h [lb]) ∧ (own_Ar Z h lb .int (own_lst (fun i => if lf i = x then y else lf i)))
set_option maxRecDepth 65536 in
set_option maxHeartbeats 40000000 in
theorem own_rm5 (l : Launch) (Z : State) (a0 : Array Value) (hw : ∀ d ∈ tables_1, d.before a0 Z = true) (ws : List Jvm.Cond) (lb : Addr) (x' : Int32) (y' : Int32) (lf : Nat → Nat) (x : Nat) (y : Nat) (h0 : Heap) (n0 : Nat) (Z0 : n0 ≤ h0.size) (V : own_Ar Z h0 lb .int (own_lst lf)) (g_lb : n0 ≤ lb) (hx5 : x < 5) (hl5 : ∀ i, i < 5 → lf i < 5) (hx' : x' = Int32.ofNat x) (hy' : y' = Int32.ofNat y) :
    MetFree l (⟨"com/example/eigenvote/eigenvote/graph/ForestRootPinLaw", "relabel", "([III)V"⟩ : MethodName) (head1 (Jvm.Cond.code (⟨"com/example/eigenvote/eigenvote/graph/ForestRootPinLaw", "relabel", "([III)V"⟩ : MethodName) method_4_code 3 none :: ws) ({ frames := 0, cells := 0, slots := 0, locals := 0 } : Room)) (fun a_ U_ => a_ = #[(.ref lb), (.int x'), (.int y')] ∧ Z.Warmed39 U_.vm ∧ U_.heap = h0) (fun _ _ _ _ _ => True) (fun _ U_ o_ V_ => ∃ v_ L_, o_ = .returned v_ ∧ own_Q5 Z lb x' y' lf x y h0 n0 v_ V_.heap L_ ∧ FrameEnd U_ o_ V_ L_ ({ frames := 0, cells := 0, slots := 0, locals := 0 } : Room).cells ({ frames := 0, cells := 0, slots := 0, locals := 0 } : Room).slots) := by
  refine MetFree.of_bodySF (plainFor_of_name own_pn_com_example_eigenvote_eigenvote_graph_ForestRootPinLaw) hisR ?_
  intro p e s m args below meth c s₁ Bd hml0 hP hK
  obtain ⟨rfl, hZ, hh⟩ := hP
  have hx := Bd.exec
  have hby := Bd.bytes
  have hml : c.maxLocals = 3 := hml0
  have hown : s.vm.findClass "com/example/eigenvote/eigenvote/graph/ForestRootPinLaw" = some m.cls := findClass_of_methodNamed Bd.named
  have hnm := (name_of_methodNamed Bd.named Bd.method).1
  have X0 : Stand p l e ({ frames := 0, cells := 0, slots := 0, locals := 0 } : Room) s m #[(.ref lb), (.int x'), (.int y')] below meth c s₁ [] 0 0 := Stand.of_body Bd
  have e0 : s₁.heap = h0 := by rw [← hh, Bd.state]; rfl
  have N0 := Fr.nil n0
  show own_G p e below s (own_Q5 Z lb x' y' lf x y h0 n0) ({ frames := 0, cells := 0, slots := 0, locals := 0 } : Room).cells ({ frames := 0, cells := 0, slots := 0, locals := 0 } : Room).slots s₁ (entryFrame m #[(.ref lb), (.int x'), (.int y')] 3)
  rw [own_rm5_ef]
  have KJ := Keep.refl h0 [lb]
  have VJ : own_Ar Z h0 lb .int (own_lst (own_rl lf x y 0)) := by rw [own_rl0]; exact V
  have J11 : ∀ (TJ : State) (LJ : List Loc) (hJ : Heap) (XJ : Stand p l e ({ frames := 0, cells := 0, slots := 0, locals := 0 } : Room) s m #[(.ref lb), (.int x'), (.int y')] below meth c TJ LJ 0 0) (eJ : TJ.heap = hJ) (NJ : Fr n0 LJ) (KJ : Keep h0 hJ [lb]) (VJ : own_Ar Z hJ lb .int (own_lst (own_rl lf x y 1))), own_G p e below s (own_Q5 Z lb x' y' lf x y h0 n0) ({ frames := 0, cells := 0, slots := 0, locals := 0 } : Room).cells ({ frames := 0, cells := 0, slots := 0, locals := 0 } : Room).slots TJ (mkF m 11 #[.val (.ref lb), .val (.int x'), .val (.int y')] []) := by
    intro TJ LJ hJ XJ eJ NJ KJ VJ
    have J22 : ∀ (TJ : State) (LJ : List Loc) (hJ : Heap) (XJ : Stand p l e ({ frames := 0, cells := 0, slots := 0, locals := 0 } : Room) s m #[(.ref lb), (.int x'), (.int y')] below meth c TJ LJ 0 0) (eJ : TJ.heap = hJ) (NJ : Fr n0 LJ) (KJ : Keep h0 hJ [lb]) (VJ : own_Ar Z hJ lb .int (own_lst (own_rl lf x y 2))), own_G p e below s (own_Q5 Z lb x' y' lf x y h0 n0) ({ frames := 0, cells := 0, slots := 0, locals := 0 } : Room).cells ({ frames := 0, cells := 0, slots := 0, locals := 0 } : Room).slots TJ (mkF m 22 #[.val (.ref lb), .val (.int x'), .val (.int y')] []) := by
      intro TJ LJ hJ XJ eJ NJ KJ VJ
      have J33 : ∀ (TJ : State) (LJ : List Loc) (hJ : Heap) (XJ : Stand p l e ({ frames := 0, cells := 0, slots := 0, locals := 0 } : Room) s m #[(.ref lb), (.int x'), (.int y')] below meth c TJ LJ 0 0) (eJ : TJ.heap = hJ) (NJ : Fr n0 LJ) (KJ : Keep h0 hJ [lb]) (VJ : own_Ar Z hJ lb .int (own_lst (own_rl lf x y 3))), own_G p e below s (own_Q5 Z lb x' y' lf x y h0 n0) ({ frames := 0, cells := 0, slots := 0, locals := 0 } : Room).cells ({ frames := 0, cells := 0, slots := 0, locals := 0 } : Room).slots TJ (mkF m 33 #[.val (.ref lb), .val (.int x'), .val (.int y')] []) := by
        intro TJ LJ hJ XJ eJ NJ KJ VJ
        have J44 : ∀ (TJ : State) (LJ : List Loc) (hJ : Heap) (XJ : Stand p l e ({ frames := 0, cells := 0, slots := 0, locals := 0 } : Room) s m #[(.ref lb), (.int x'), (.int y')] below meth c TJ LJ 0 0) (eJ : TJ.heap = hJ) (NJ : Fr n0 LJ) (KJ : Keep h0 hJ [lb]) (VJ : own_Ar Z hJ lb .int (own_lst (own_rl lf x y 4))), own_G p e below s (own_Q5 Z lb x' y' lf x y h0 n0) ({ frames := 0, cells := 0, slots := 0, locals := 0 } : Room).cells ({ frames := 0, cells := 0, slots := 0, locals := 0 } : Room).slots TJ (mkF m 44 #[.val (.ref lb), .val (.int x'), .val (.int y')] []) := by
          intro TJ LJ hJ XJ eJ NJ KJ VJ
          have J55 : ∀ (TJ : State) (LJ : List Loc) (hJ : Heap) (XJ : Stand p l e ({ frames := 0, cells := 0, slots := 0, locals := 0 } : Room) s m #[(.ref lb), (.int x'), (.int y')] below meth c TJ LJ 0 0) (eJ : TJ.heap = hJ) (NJ : Fr n0 LJ) (KJ : Keep h0 hJ [lb]) (VJ : own_Ar Z hJ lb .int (own_lst (own_rl lf x y 5))), own_G p e below s (own_Q5 Z lb x' y' lf x y h0 n0) ({ frames := 0, cells := 0, slots := 0, locals := 0 } : Room).cells ({ frames := 0, cells := 0, slots := 0, locals := 0 } : Room).slots TJ (mkF m 55 #[.val (.ref lb), .val (.int x'), .val (.int y')] []) := by
            intro TJ LJ hJ XJ eJ NJ KJ VJ
            obtain ⟨fs, hr, hrun, hended, hW, hsame⟩ := XJ.leave (v := none) (fun _ => rfl)
            exact ⟨_, _, XJ.returnOut hx Bd.returns (hb hby own_d5_55) hr, hrun, hended, _, _, rfl, (by show own_Q5 Z lb x' y' lf x y h0 n0 _ TJ.heap _; rw [eJ]; exact ⟨rfl, NJ, KJ, own_rl5 lf x y ▸ VJ⟩), ⟨_, rfl⟩, hW, hsame.mono (by decide) (by decide)⟩
          refine own_w (T' := TJ) (g' := (mkF m 45 #[.val (.ref lb), .val (.int x'), .val (.int y')] [(.ref lb)])) (fun _ k_ => XS.aloadN XJ.here hx rfl (hb hby own_d5_44) rfl rfl k_) ?_
          refine own_w (T' := TJ) (g' := (mkF m 46 #[.val (.ref lb), .val (.int x'), .val (.int y')] [(.int (4 : Int32)), (.ref lb)])) (fun _ k_ => XS.iconst XJ.here hx rfl (hb hby own_d5_45) k_) ?_
          obtain ⟨cl1, Ar1, hs1⟩ := id VJ
          refine own_w (T' := TJ) (g' := (mkF m 47 #[.val (.ref lb), .val (.int x'), .val (.int y')] [(.int (Int32.ofNat (lf 4)))])) (fun t_ k_ => XJ.iaload hx (j := (4 : Int32)) (v := .int (Int32.ofNat (lf 4))) (by rw [eJ]; exact Ar1.1) (State.isArrayOf_alike hZ.alike Ar1.2.1) Ar1.2.2 (own_Ar_in (i := 4) hs1 (by decide) (own_get_lt (show _ = some (Int32.ofNat (lf 4)) from (by rw [own_lst_get (by decide), own_rl_at])))) (own_Ar_at (i := 4) hs1 (by decide) (show _ = some (Int32.ofNat (lf 4)) from (by rw [own_lst_get (by decide), own_rl_at]))) (g := (mkF m 46 #[.val (.ref lb), .val (.int x'), .val (.int y')] [(.int (4 : Int32)), (.ref lb)])) rfl rfl (hb hby own_d5_46) t_ k_) ?_
          refine own_w (T' := TJ) (g' := (mkF m 48 #[.val (.ref lb), .val (.int x'), .val (.int y')] [(.int x'), (.int (Int32.ofNat (lf 4)))])) (fun _ k_ => XS.iloadN XJ.here hx rfl (hb hby own_d5_47) rfl k_) ?_
          by_cases hc48 : (Int32.ofNat (lf 4)) = x'
          · refine own_w (T' := TJ) (g' := (mkF m 51 #[.val (.ref lb), .val (.int x'), .val (.int y')] [])) (fun _ k_ => XS.icmpNo XJ.here hx rfl (hb hby own_d5_48) rfl (teq hc48).2 k_) ?_
            have hm : lf 4 = x := (own_ofi (hl5 _ (by decide)) hx5).mp (hc48.trans hx')
            refine own_w (T' := TJ) (g' := (mkF m 52 #[.val (.ref lb), .val (.int x'), .val (.int y')] [(.ref lb)])) (fun _ k_ => XS.aloadN XJ.here hx rfl (hb hby own_d5_51) rfl rfl k_) ?_
            refine own_w (T' := TJ) (g' := (mkF m 53 #[.val (.ref lb), .val (.int x'), .val (.int y')] [(.int (4 : Int32)), (.ref lb)])) (fun _ k_ => XS.iconst XJ.here hx rfl (hb hby own_d5_52) k_) ?_
            refine own_w (T' := TJ) (g' := (mkF m 54 #[.val (.ref lb), .val (.int x'), .val (.int y')] [(.int y'), (.int (4 : Int32)), (.ref lb)])) (fun _ k_ => XS.iloadN XJ.here hx rfl (hb hby own_d5_53) rfl k_) ?_
            obtain ⟨cl2, Ar2, hs2⟩ := id VJ
            obtain ⟨T2, h2, X2, e2, W2, st2⟩ := stI XJ hx hZ eJ Ar2 (j := (4 : Int32)) (own_Ar_in (i := 4) hs2 (by decide) (by rw [own_lst_len]; decide)) (g := (mkF m 54 #[.val (.ref lb), .val (.int x'), .val (.int y')] [(.int y'), (.int (4 : Int32)), (.ref lb)])) rfl rfl (hb hby own_d5_54)
            have V2 := own_Ar_set (i := 4) (v := (Int32.ofNat y)) VJ W2 (by decide) hy'
            have N2 := Fr.snoc X2 NJ g_lb
            have Z2 : n0 ≤ h2.size := Nat.le_trans (Nat.le_trans Z0 KJ.1) (Keep.of_wr W2).1
            refine own_w (T' := T2) (g' := (mkF m 55 #[.val (.ref lb), .val (.int x'), .val (.int y')] [])) st2 ?_
            have V2' := V2
            rw [own_lst_set (f := own_rl lf x y 4) (i := 4) (v := y) (by decide)] at V2'
            rw [own_rl_yes hm] at V2'
            exact J55 _ _ _ X2 e2 N2 (KJ.wr W2 (Or.inl (List.mem_singleton.mpr rfl))) V2'
          · refine own_w (T' := TJ) (g' := (mkF m 55 #[.val (.ref lb), .val (.int x'), .val (.int y')] [])) (fun _ k_ => XS.icmpYes XJ.here hx rfl (pc0 := 48) (pc' := 55) rfl (hb hby own_d5_48) rfl (feq hc48).2 (by decide) (by decide) k_) ?_
            have hm : ¬ lf 4 = x := fun q => hc48 (hx'.symm ▸ congrArg Int32.ofNat q)
            have V' := VJ
            rw [own_rl_no hm] at V'
            exact J55 _ _ _ XJ eJ NJ KJ V'
        refine own_w (T' := TJ) (g' := (mkF m 34 #[.val (.ref lb), .val (.int x'), .val (.int y')] [(.ref lb)])) (fun _ k_ => XS.aloadN XJ.here hx rfl (hb hby own_d5_33) rfl rfl k_) ?_
        refine own_w (T' := TJ) (g' := (mkF m 35 #[.val (.ref lb), .val (.int x'), .val (.int y')] [(.int (3 : Int32)), (.ref lb)])) (fun _ k_ => XS.iconst XJ.here hx rfl (hb hby own_d5_34) k_) ?_
        obtain ⟨cl3, Ar3, hs3⟩ := id VJ
        refine own_w (T' := TJ) (g' := (mkF m 36 #[.val (.ref lb), .val (.int x'), .val (.int y')] [(.int (Int32.ofNat (lf 3)))])) (fun t_ k_ => XJ.iaload hx (j := (3 : Int32)) (v := .int (Int32.ofNat (lf 3))) (by rw [eJ]; exact Ar3.1) (State.isArrayOf_alike hZ.alike Ar3.2.1) Ar3.2.2 (own_Ar_in (i := 3) hs3 (by decide) (own_get_lt (show _ = some (Int32.ofNat (lf 3)) from (by rw [own_lst_get (by decide), own_rl_at])))) (own_Ar_at (i := 3) hs3 (by decide) (show _ = some (Int32.ofNat (lf 3)) from (by rw [own_lst_get (by decide), own_rl_at]))) (g := (mkF m 35 #[.val (.ref lb), .val (.int x'), .val (.int y')] [(.int (3 : Int32)), (.ref lb)])) rfl rfl (hb hby own_d5_35) t_ k_) ?_
        refine own_w (T' := TJ) (g' := (mkF m 37 #[.val (.ref lb), .val (.int x'), .val (.int y')] [(.int x'), (.int (Int32.ofNat (lf 3)))])) (fun _ k_ => XS.iloadN XJ.here hx rfl (hb hby own_d5_36) rfl k_) ?_
        by_cases hc37 : (Int32.ofNat (lf 3)) = x'
        · refine own_w (T' := TJ) (g' := (mkF m 40 #[.val (.ref lb), .val (.int x'), .val (.int y')] [])) (fun _ k_ => XS.icmpNo XJ.here hx rfl (hb hby own_d5_37) rfl (teq hc37).2 k_) ?_
          have hm : lf 3 = x := (own_ofi (hl5 _ (by decide)) hx5).mp (hc37.trans hx')
          refine own_w (T' := TJ) (g' := (mkF m 41 #[.val (.ref lb), .val (.int x'), .val (.int y')] [(.ref lb)])) (fun _ k_ => XS.aloadN XJ.here hx rfl (hb hby own_d5_40) rfl rfl k_) ?_
          refine own_w (T' := TJ) (g' := (mkF m 42 #[.val (.ref lb), .val (.int x'), .val (.int y')] [(.int (3 : Int32)), (.ref lb)])) (fun _ k_ => XS.iconst XJ.here hx rfl (hb hby own_d5_41) k_) ?_
          refine own_w (T' := TJ) (g' := (mkF m 43 #[.val (.ref lb), .val (.int x'), .val (.int y')] [(.int y'), (.int (3 : Int32)), (.ref lb)])) (fun _ k_ => XS.iloadN XJ.here hx rfl (hb hby own_d5_42) rfl k_) ?_
          obtain ⟨cl4, Ar4, hs4⟩ := id VJ
          obtain ⟨T4, h4, X4, e4, W4, st4⟩ := stI XJ hx hZ eJ Ar4 (j := (3 : Int32)) (own_Ar_in (i := 3) hs4 (by decide) (by rw [own_lst_len]; decide)) (g := (mkF m 43 #[.val (.ref lb), .val (.int x'), .val (.int y')] [(.int y'), (.int (3 : Int32)), (.ref lb)])) rfl rfl (hb hby own_d5_43)
          have V4 := own_Ar_set (i := 3) (v := (Int32.ofNat y)) VJ W4 (by decide) hy'
          have N4 := Fr.snoc X4 NJ g_lb
          have Z4 : n0 ≤ h4.size := Nat.le_trans (Nat.le_trans Z0 KJ.1) (Keep.of_wr W4).1
          refine own_w (T' := T4) (g' := (mkF m 44 #[.val (.ref lb), .val (.int x'), .val (.int y')] [])) st4 ?_
          have V4' := V4
          rw [own_lst_set (f := own_rl lf x y 3) (i := 3) (v := y) (by decide)] at V4'
          rw [own_rl_yes hm] at V4'
          exact J44 _ _ _ X4 e4 N4 (KJ.wr W4 (Or.inl (List.mem_singleton.mpr rfl))) V4'
        · refine own_w (T' := TJ) (g' := (mkF m 44 #[.val (.ref lb), .val (.int x'), .val (.int y')] [])) (fun _ k_ => XS.icmpYes XJ.here hx rfl (pc0 := 37) (pc' := 44) rfl (hb hby own_d5_37) rfl (feq hc37).2 (by decide) (by decide) k_) ?_
          have hm : ¬ lf 3 = x := fun q => hc37 (hx'.symm ▸ congrArg Int32.ofNat q)
          have V' := VJ
          rw [own_rl_no hm] at V'
          exact J44 _ _ _ XJ eJ NJ KJ V'
      refine own_w (T' := TJ) (g' := (mkF m 23 #[.val (.ref lb), .val (.int x'), .val (.int y')] [(.ref lb)])) (fun _ k_ => XS.aloadN XJ.here hx rfl (hb hby own_d5_22) rfl rfl k_) ?_
      refine own_w (T' := TJ) (g' := (mkF m 24 #[.val (.ref lb), .val (.int x'), .val (.int y')] [(.int (2 : Int32)), (.ref lb)])) (fun _ k_ => XS.iconst XJ.here hx rfl (hb hby own_d5_23) k_) ?_
      obtain ⟨cl5, Ar5, hs5⟩ := id VJ
      refine own_w (T' := TJ) (g' := (mkF m 25 #[.val (.ref lb), .val (.int x'), .val (.int y')] [(.int (Int32.ofNat (lf 2)))])) (fun t_ k_ => XJ.iaload hx (j := (2 : Int32)) (v := .int (Int32.ofNat (lf 2))) (by rw [eJ]; exact Ar5.1) (State.isArrayOf_alike hZ.alike Ar5.2.1) Ar5.2.2 (own_Ar_in (i := 2) hs5 (by decide) (own_get_lt (show _ = some (Int32.ofNat (lf 2)) from (by rw [own_lst_get (by decide), own_rl_at])))) (own_Ar_at (i := 2) hs5 (by decide) (show _ = some (Int32.ofNat (lf 2)) from (by rw [own_lst_get (by decide), own_rl_at]))) (g := (mkF m 24 #[.val (.ref lb), .val (.int x'), .val (.int y')] [(.int (2 : Int32)), (.ref lb)])) rfl rfl (hb hby own_d5_24) t_ k_) ?_
      refine own_w (T' := TJ) (g' := (mkF m 26 #[.val (.ref lb), .val (.int x'), .val (.int y')] [(.int x'), (.int (Int32.ofNat (lf 2)))])) (fun _ k_ => XS.iloadN XJ.here hx rfl (hb hby own_d5_25) rfl k_) ?_
      by_cases hc26 : (Int32.ofNat (lf 2)) = x'
      · refine own_w (T' := TJ) (g' := (mkF m 29 #[.val (.ref lb), .val (.int x'), .val (.int y')] [])) (fun _ k_ => XS.icmpNo XJ.here hx rfl (hb hby own_d5_26) rfl (teq hc26).2 k_) ?_
        have hm : lf 2 = x := (own_ofi (hl5 _ (by decide)) hx5).mp (hc26.trans hx')
        refine own_w (T' := TJ) (g' := (mkF m 30 #[.val (.ref lb), .val (.int x'), .val (.int y')] [(.ref lb)])) (fun _ k_ => XS.aloadN XJ.here hx rfl (hb hby own_d5_29) rfl rfl k_) ?_
        refine own_w (T' := TJ) (g' := (mkF m 31 #[.val (.ref lb), .val (.int x'), .val (.int y')] [(.int (2 : Int32)), (.ref lb)])) (fun _ k_ => XS.iconst XJ.here hx rfl (hb hby own_d5_30) k_) ?_
        refine own_w (T' := TJ) (g' := (mkF m 32 #[.val (.ref lb), .val (.int x'), .val (.int y')] [(.int y'), (.int (2 : Int32)), (.ref lb)])) (fun _ k_ => XS.iloadN XJ.here hx rfl (hb hby own_d5_31) rfl k_) ?_
        obtain ⟨cl6, Ar6, hs6⟩ := id VJ
        obtain ⟨T6, h6, X6, e6, W6, st6⟩ := stI XJ hx hZ eJ Ar6 (j := (2 : Int32)) (own_Ar_in (i := 2) hs6 (by decide) (by rw [own_lst_len]; decide)) (g := (mkF m 32 #[.val (.ref lb), .val (.int x'), .val (.int y')] [(.int y'), (.int (2 : Int32)), (.ref lb)])) rfl rfl (hb hby own_d5_32)
        have V6 := own_Ar_set (i := 2) (v := (Int32.ofNat y)) VJ W6 (by decide) hy'
        have N6 := Fr.snoc X6 NJ g_lb
        have Z6 : n0 ≤ h6.size := Nat.le_trans (Nat.le_trans Z0 KJ.1) (Keep.of_wr W6).1
        refine own_w (T' := T6) (g' := (mkF m 33 #[.val (.ref lb), .val (.int x'), .val (.int y')] [])) st6 ?_
        have V6' := V6
        rw [own_lst_set (f := own_rl lf x y 2) (i := 2) (v := y) (by decide)] at V6'
        rw [own_rl_yes hm] at V6'
        exact J33 _ _ _ X6 e6 N6 (KJ.wr W6 (Or.inl (List.mem_singleton.mpr rfl))) V6'
      · refine own_w (T' := TJ) (g' := (mkF m 33 #[.val (.ref lb), .val (.int x'), .val (.int y')] [])) (fun _ k_ => XS.icmpYes XJ.here hx rfl (pc0 := 26) (pc' := 33) rfl (hb hby own_d5_26) rfl (feq hc26).2 (by decide) (by decide) k_) ?_
        have hm : ¬ lf 2 = x := fun q => hc26 (hx'.symm ▸ congrArg Int32.ofNat q)
        have V' := VJ
        rw [own_rl_no hm] at V'
        exact J33 _ _ _ XJ eJ NJ KJ V'
    refine own_w (T' := TJ) (g' := (mkF m 12 #[.val (.ref lb), .val (.int x'), .val (.int y')] [(.ref lb)])) (fun _ k_ => XS.aloadN XJ.here hx rfl (hb hby own_d5_11) rfl rfl k_) ?_
    refine own_w (T' := TJ) (g' := (mkF m 13 #[.val (.ref lb), .val (.int x'), .val (.int y')] [(.int (1 : Int32)), (.ref lb)])) (fun _ k_ => XS.iconst XJ.here hx rfl (hb hby own_d5_12) k_) ?_
    obtain ⟨cl7, Ar7, hs7⟩ := id VJ
    refine own_w (T' := TJ) (g' := (mkF m 14 #[.val (.ref lb), .val (.int x'), .val (.int y')] [(.int (Int32.ofNat (lf 1)))])) (fun t_ k_ => XJ.iaload hx (j := (1 : Int32)) (v := .int (Int32.ofNat (lf 1))) (by rw [eJ]; exact Ar7.1) (State.isArrayOf_alike hZ.alike Ar7.2.1) Ar7.2.2 (own_Ar_in (i := 1) hs7 (by decide) (own_get_lt (show _ = some (Int32.ofNat (lf 1)) from (by rw [own_lst_get (by decide), own_rl_at])))) (own_Ar_at (i := 1) hs7 (by decide) (show _ = some (Int32.ofNat (lf 1)) from (by rw [own_lst_get (by decide), own_rl_at]))) (g := (mkF m 13 #[.val (.ref lb), .val (.int x'), .val (.int y')] [(.int (1 : Int32)), (.ref lb)])) rfl rfl (hb hby own_d5_13) t_ k_) ?_
    refine own_w (T' := TJ) (g' := (mkF m 15 #[.val (.ref lb), .val (.int x'), .val (.int y')] [(.int x'), (.int (Int32.ofNat (lf 1)))])) (fun _ k_ => XS.iloadN XJ.here hx rfl (hb hby own_d5_14) rfl k_) ?_
    by_cases hc15 : (Int32.ofNat (lf 1)) = x'
    · refine own_w (T' := TJ) (g' := (mkF m 18 #[.val (.ref lb), .val (.int x'), .val (.int y')] [])) (fun _ k_ => XS.icmpNo XJ.here hx rfl (hb hby own_d5_15) rfl (teq hc15).2 k_) ?_
      have hm : lf 1 = x := (own_ofi (hl5 _ (by decide)) hx5).mp (hc15.trans hx')
      refine own_w (T' := TJ) (g' := (mkF m 19 #[.val (.ref lb), .val (.int x'), .val (.int y')] [(.ref lb)])) (fun _ k_ => XS.aloadN XJ.here hx rfl (hb hby own_d5_18) rfl rfl k_) ?_
      refine own_w (T' := TJ) (g' := (mkF m 20 #[.val (.ref lb), .val (.int x'), .val (.int y')] [(.int (1 : Int32)), (.ref lb)])) (fun _ k_ => XS.iconst XJ.here hx rfl (hb hby own_d5_19) k_) ?_
      refine own_w (T' := TJ) (g' := (mkF m 21 #[.val (.ref lb), .val (.int x'), .val (.int y')] [(.int y'), (.int (1 : Int32)), (.ref lb)])) (fun _ k_ => XS.iloadN XJ.here hx rfl (hb hby own_d5_20) rfl k_) ?_
      obtain ⟨cl8, Ar8, hs8⟩ := id VJ
      obtain ⟨T8, h8, X8, e8, W8, st8⟩ := stI XJ hx hZ eJ Ar8 (j := (1 : Int32)) (own_Ar_in (i := 1) hs8 (by decide) (by rw [own_lst_len]; decide)) (g := (mkF m 21 #[.val (.ref lb), .val (.int x'), .val (.int y')] [(.int y'), (.int (1 : Int32)), (.ref lb)])) rfl rfl (hb hby own_d5_21)
      have V8 := own_Ar_set (i := 1) (v := (Int32.ofNat y)) VJ W8 (by decide) hy'
      have N8 := Fr.snoc X8 NJ g_lb
      have Z8 : n0 ≤ h8.size := Nat.le_trans (Nat.le_trans Z0 KJ.1) (Keep.of_wr W8).1
      refine own_w (T' := T8) (g' := (mkF m 22 #[.val (.ref lb), .val (.int x'), .val (.int y')] [])) st8 ?_
      have V8' := V8
      rw [own_lst_set (f := own_rl lf x y 1) (i := 1) (v := y) (by decide)] at V8'
      rw [own_rl_yes hm] at V8'
      exact J22 _ _ _ X8 e8 N8 (KJ.wr W8 (Or.inl (List.mem_singleton.mpr rfl))) V8'
    · refine own_w (T' := TJ) (g' := (mkF m 22 #[.val (.ref lb), .val (.int x'), .val (.int y')] [])) (fun _ k_ => XS.icmpYes XJ.here hx rfl (pc0 := 15) (pc' := 22) rfl (hb hby own_d5_15) rfl (feq hc15).2 (by decide) (by decide) k_) ?_
      have hm : ¬ lf 1 = x := fun q => hc15 (hx'.symm ▸ congrArg Int32.ofNat q)
      have V' := VJ
      rw [own_rl_no hm] at V'
      exact J22 _ _ _ XJ eJ NJ KJ V'
  refine own_w (T' := s₁) (g' := (mkF m 1 #[.val (.ref lb), .val (.int x'), .val (.int y')] [(.ref lb)])) (fun _ k_ => XS.aloadN X0.here hx rfl (hb hby own_d5_0) rfl rfl k_) ?_
  refine own_w (T' := s₁) (g' := (mkF m 2 #[.val (.ref lb), .val (.int x'), .val (.int y')] [(.int (0 : Int32)), (.ref lb)])) (fun _ k_ => XS.iconst X0.here hx rfl (hb hby own_d5_1) k_) ?_
  obtain ⟨cl9, Ar9, hs9⟩ := id VJ
  refine own_w (T' := s₁) (g' := (mkF m 3 #[.val (.ref lb), .val (.int x'), .val (.int y')] [(.int (Int32.ofNat (lf 0)))])) (fun t_ k_ => X0.iaload hx (j := (0 : Int32)) (v := .int (Int32.ofNat (lf 0))) (by rw [e0]; exact Ar9.1) (State.isArrayOf_alike hZ.alike Ar9.2.1) Ar9.2.2 (own_Ar_in (i := 0) hs9 (by decide) (own_get_lt (show _ = some (Int32.ofNat (lf 0)) from (by rw [own_lst_get (by decide), own_rl_at])))) (own_Ar_at (i := 0) hs9 (by decide) (show _ = some (Int32.ofNat (lf 0)) from (by rw [own_lst_get (by decide), own_rl_at]))) (g := (mkF m 2 #[.val (.ref lb), .val (.int x'), .val (.int y')] [(.int (0 : Int32)), (.ref lb)])) rfl rfl (hb hby own_d5_2) t_ k_) ?_
  refine own_w (T' := s₁) (g' := (mkF m 4 #[.val (.ref lb), .val (.int x'), .val (.int y')] [(.int x'), (.int (Int32.ofNat (lf 0)))])) (fun _ k_ => XS.iloadN X0.here hx rfl (hb hby own_d5_3) rfl k_) ?_
  by_cases hc4 : (Int32.ofNat (lf 0)) = x'
  · refine own_w (T' := s₁) (g' := (mkF m 7 #[.val (.ref lb), .val (.int x'), .val (.int y')] [])) (fun _ k_ => XS.icmpNo X0.here hx rfl (hb hby own_d5_4) rfl (teq hc4).2 k_) ?_
    have hm : lf 0 = x := (own_ofi (hl5 _ (by decide)) hx5).mp (hc4.trans hx')
    refine own_w (T' := s₁) (g' := (mkF m 8 #[.val (.ref lb), .val (.int x'), .val (.int y')] [(.ref lb)])) (fun _ k_ => XS.aloadN X0.here hx rfl (hb hby own_d5_7) rfl rfl k_) ?_
    refine own_w (T' := s₁) (g' := (mkF m 9 #[.val (.ref lb), .val (.int x'), .val (.int y')] [(.int (0 : Int32)), (.ref lb)])) (fun _ k_ => XS.iconst X0.here hx rfl (hb hby own_d5_8) k_) ?_
    refine own_w (T' := s₁) (g' := (mkF m 10 #[.val (.ref lb), .val (.int x'), .val (.int y')] [(.int y'), (.int (0 : Int32)), (.ref lb)])) (fun _ k_ => XS.iloadN X0.here hx rfl (hb hby own_d5_9) rfl k_) ?_
    obtain ⟨cl10, Ar10, hs10⟩ := id VJ
    obtain ⟨T10, h10, X10, e10, W10, st10⟩ := stI X0 hx hZ e0 Ar10 (j := (0 : Int32)) (own_Ar_in (i := 0) hs10 (by decide) (by rw [own_lst_len]; decide)) (g := (mkF m 10 #[.val (.ref lb), .val (.int x'), .val (.int y')] [(.int y'), (.int (0 : Int32)), (.ref lb)])) rfl rfl (hb hby own_d5_10)
    have V10 := own_Ar_set (i := 0) (v := (Int32.ofNat y)) VJ W10 (by decide) hy'
    have N10 := Fr.snoc X10 N0 g_lb
    have Z10 : n0 ≤ h10.size := Nat.le_trans (Nat.le_trans Z0 KJ.1) (Keep.of_wr W10).1
    refine own_w (T' := T10) (g' := (mkF m 11 #[.val (.ref lb), .val (.int x'), .val (.int y')] [])) st10 ?_
    have V10' := V10
    rw [own_lst_set (f := own_rl lf x y 0) (i := 0) (v := y) (by decide)] at V10'
    rw [own_rl_yes hm] at V10'
    exact J11 _ _ _ X10 e10 N10 (KJ.wr W10 (Or.inl (List.mem_singleton.mpr rfl))) V10'
  · refine own_w (T' := s₁) (g' := (mkF m 11 #[.val (.ref lb), .val (.int x'), .val (.int y')] [])) (fun _ k_ => XS.icmpYes X0.here hx rfl (pc0 := 4) (pc' := 11) rfl (hb hby own_d5_4) rfl (feq hc4).2 (by decide) (by decide) k_) ?_
    have hm : ¬ lf 0 = x := fun q => hc4 (hx'.symm ▸ congrArg Int32.ofNat q)
    have V' := VJ
    rw [own_rl_no hm] at V'
    exact J11 _ _ _ X0 e0 N0 KJ V'
theorem own_d6_0 : decode prog_8_method_2_code 0 = .ok (.iload_n 1, 1) := by decide +kernel
theorem own_d6_1 : decode prog_8_method_2_code 1 = .ok (.istore_n 2, 1) := by decide +kernel
theorem own_d6_2 : decode prog_8_method_2_code 2 = .ok (.aload_n 0, 1) := by decide +kernel
theorem own_d6_3 : decode prog_8_method_2_code 3 = .ok (.getfield 7, 3) := by decide +kernel
theorem own_d6_6 : decode prog_8_method_2_code 6 = .ok (.iload_n 2, 1) := by decide +kernel
theorem own_d6_7 : decode prog_8_method_2_code 7 = .ok (.iaload, 1) := by decide +kernel
theorem own_d6_8 : decode prog_8_method_2_code 8 = .ok (.iload_n 2, 1) := by decide +kernel
theorem own_d6_9 : decode prog_8_method_2_code 9 = .ok (.if_icmp .eq 30, 3) := by decide +kernel
theorem own_d6_39 : decode prog_8_method_2_code 39 = .ok (.iload_n 2, 1) := by decide +kernel
theorem own_d6_40 : decode prog_8_method_2_code 40 = .ok (.ireturn, 1) := by decide +kernel
theorem own_d6_12 : decode prog_8_method_2_code 12 = .ok (.aload_n 0, 1) := by decide +kernel
theorem own_d6_13 : decode prog_8_method_2_code 13 = .ok (.getfield 7, 3) := by decide +kernel
theorem own_d6_16 : decode prog_8_method_2_code 16 = .ok (.iload_n 2, 1) := by decide +kernel
theorem own_d6_17 : decode prog_8_method_2_code 17 = .ok (.aload_n 0, 1) := by decide +kernel
theorem own_d6_18 : decode prog_8_method_2_code 18 = .ok (.getfield 7, 3) := by decide +kernel
theorem own_d6_21 : decode prog_8_method_2_code 21 = .ok (.aload_n 0, 1) := by decide +kernel
theorem own_d6_22 : decode prog_8_method_2_code 22 = .ok (.getfield 7, 3) := by decide +kernel
theorem own_d6_25 : decode prog_8_method_2_code 25 = .ok (.iload_n 2, 1) := by decide +kernel
theorem own_d6_26 : decode prog_8_method_2_code 26 = .ok (.iaload, 1) := by decide +kernel
theorem own_d6_27 : decode prog_8_method_2_code 27 = .ok (.iaload, 1) := by decide +kernel
theorem own_d6_28 : decode prog_8_method_2_code 28 = .ok (.iastore, 1) := by decide +kernel
theorem own_d6_29 : decode prog_8_method_2_code 29 = .ok (.aload_n 0, 1) := by decide +kernel
theorem own_d6_30 : decode prog_8_method_2_code 30 = .ok (.getfield 7, 3) := by decide +kernel
theorem own_d6_33 : decode prog_8_method_2_code 33 = .ok (.iload_n 2, 1) := by decide +kernel
theorem own_d6_34 : decode prog_8_method_2_code 34 = .ok (.iaload, 1) := by decide +kernel
theorem own_d6_35 : decode prog_8_method_2_code 35 = .ok (.istore_n 2, 1) := by decide +kernel
theorem own_d6_36 : decode prog_8_method_2_code 36 = .ok (.goto (-34), 3) := by decide +kernel
theorem own_rm6_ef (m : MethodId) (f : Addr) (n' : Int32) : entryFrame m #[(.ref f), (.int n')] 3 = mkF m 0 #[.val (.ref f), .val (.int n'), .unset] [] := by first | (simp [entryFrame, mkF, argsToLocals, Value.category]; done) | rfl
def own_Q6 (Z : State) (f : Addr) (n' : Int32) (pa : Addr) (pf : Nat → Nat) (lf : Nat → Nat) (rf : Nat → Nat) (B : Nat) (i : Nat) (h0 : Heap) (n0 : Nat) (v_ : Option Value) (h : Heap) (L_ : List Loc) : Prop := v_ = some (.int (Int32.ofNat (lf i))) ∧ Fr n0 L_ ∧ (Keep h0 h [pa]) ∧ (∃ p', own_inv p' lf rf B ∧ own_Ar Z h pa .int (own_lst p'))
set_option maxRecDepth 65536 in
set_option maxHeartbeats 40000000 in
theorem own_rm6 (l : Launch) (Z : State) (a0 : Array Value) (hw : ∀ d ∈ tables_1, d.before a0 Z = true) (ws : List Jvm.Cond) (f : Addr) (n' : Int32) (pa : Addr) (pf : Nat → Nat) (lf : Nat → Nat) (rf : Nat → Nat) (B : Nat) (i : Nat) (h0 : Heap) (n0 : Nat) (Z0 : n0 ≤ h0.size) (G : Fld Z h0 f "com/example/eigenvote/eigenvote/graph/Forest" "parents" "[I" (.ref pa)) (V : own_Ar Z h0 pa .int (own_lst pf)) (g_pa : n0 ≤ pa) (ne : f ≠ pa) (hi : n'.toInt = (i : Int)) (h5 : i < 5) (I : own_inv pf lf rf B) :
    MetFree l (⟨"com/example/eigenvote/eigenvote/graph/Forest", "root", "(I)I"⟩ : MethodName) (head1 (Jvm.Cond.code (⟨"com/example/eigenvote/eigenvote/graph/Forest", "root", "(I)I"⟩ : MethodName) prog_8_method_2_code 3 (some .int) :: ws) ({ frames := 0, cells := 0, slots := 0, locals := 0 } : Room)) (fun a_ U_ => a_ = #[(.ref f), (.int n')] ∧ Z.Warmed39 U_.vm ∧ U_.heap = h0) (fun _ _ _ _ _ => True) (fun _ U_ o_ V_ => ∃ v_ L_, o_ = .returned v_ ∧ own_Q6 Z f n' pa pf lf rf B i h0 n0 v_ V_.heap L_ ∧ FrameEnd U_ o_ V_ L_ ({ frames := 0, cells := 0, slots := 0, locals := 0 } : Room).cells ({ frames := 0, cells := 0, slots := 0, locals := 0 } : Room).slots) := by
  refine MetFree.of_bodySF (plainFor_of_name own_pn_com_example_eigenvote_eigenvote_graph_Forest) hisR ?_
  intro p e s m args below meth c s₁ Bd hml0 hP hK
  obtain ⟨rfl, hZ, hh⟩ := hP
  have hx := Bd.exec
  have hby := Bd.bytes
  have hml : c.maxLocals = 3 := hml0
  have hown : s.vm.findClass "com/example/eigenvote/eigenvote/graph/Forest" = some m.cls := findClass_of_methodNamed Bd.named
  have hnm := (name_of_methodNamed Bd.named Bd.method).1
  have X0 : Stand p l e ({ frames := 0, cells := 0, slots := 0, locals := 0 } : Room) s m #[(.ref f), (.int n')] below meth c s₁ [] 0 0 := Stand.of_body Bd
  have e0 : s₁.heap = h0 := by rw [← hh, Bd.state]; rfl
  have N0 := Fr.nil n0
  show own_G p e below s (own_Q6 Z f n' pa pf lf rf B i h0 n0) ({ frames := 0, cells := 0, slots := 0, locals := 0 } : Room).cells ({ frames := 0, cells := 0, slots := 0, locals := 0 } : Room).slots s₁ (entryFrame m #[(.ref f), (.int n')] 3)
  rw [own_rm6_ef]
  refine own_w (T' := s₁) (g' := (mkF m 1 #[.val (.ref f), .val (.int n'), .unset] [(.int n')])) (fun _ k_ => XS.iloadN X0.here hx rfl (hb hby own_d6_0) rfl k_) ?_
  refine own_w (T' := s₁) (g' := (mkF m 2 #[.val (.ref f), .val (.int n'), .val (.int n')] [])) (fun _ k_ => XS.istoreN X0.here hx rfl (hb hby own_d6_1) rfl (l' := #[.val (.ref f), .val (.int n'), .val (.int n')]) rfl k_) ?_
  have loop : ∀ (fu : Nat) (TJ : State) (LJ : List Loc) (hJ : Heap) (XJ : Stand p l e ({ frames := 0, cells := 0, slots := 0, locals := 0 } : Room) s m #[(.ref f), (.int n')] below meth c TJ LJ 0 0) (eJ : TJ.heap = hJ) (NJ : Fr n0 LJ) (x' : Int32) (x : Nat) (pg : Nat → Nat) (hxx : x'.toInt = (x : Int)) (x5 : x < 5) (hl : lf x = lf i) (I : own_inv pg lf rf B) (hm : B - rf x < fu) (KJ : Keep h0 hJ [pa]) (VJ : own_Ar Z hJ pa .int (own_lst pg)), own_G p e below s (own_Q6 Z f n' pa pf lf rf B i h0 n0) ({ frames := 0, cells := 0, slots := 0, locals := 0 } : Room).cells ({ frames := 0, cells := 0, slots := 0, locals := 0 } : Room).slots TJ (mkF m 2 #[.val (.ref f), .val (.int n'), .val (.int x')] []) := by
    intro fu
    induction fu with
    | zero => intro TJ LJ hJ XJ eJ NJ x' x pg hxx x5 hl I hm; exact absurd hm (Nat.not_lt_zero _)
    | succ fu ih =>
      intro TJ LJ hJ XJ eJ NJ x' x pg hxx x5 hl I hm KJ VJ
      have GJ := G.keep KJ (by simpa using ne)
      obtain ⟨a1, a2, a3, a4, a5, a6, a7⟩ := id (I x x5)
      refine own_w (T' := TJ) (g' := (mkF m 3 #[.val (.ref f), .val (.int n'), .val (.int x')] [(.ref f)])) (fun _ k_ => XS.aloadN XJ.here hx rfl (hb hby own_d6_2) rfl rfl k_) ?_
      obtain ⟨T1, X1, e1, st1⟩ := getF XJ hx hZ hown (host := "") (Or.inl (hw _ (List.mem_of_getElem? (i := 10) rfl))) Via.refl eJ GJ (g := (mkF m 3 #[.val (.ref f), .val (.int n'), .val (.int x')] [(.ref f)])) rfl rfl (hb hby own_d6_3)
      refine own_w (T' := T1) (g' := (mkF m 6 #[.val (.ref f), .val (.int n'), .val (.int x')] [(.ref pa)])) st1 ?_
      refine own_w (T' := T1) (g' := (mkF m 7 #[.val (.ref f), .val (.int n'), .val (.int x')] [(.int x'), (.ref pa)])) (fun _ k_ => XS.iloadN X1.here hx rfl (hb hby own_d6_6) rfl k_) ?_
      obtain ⟨cl2, Ar2, hs2⟩ := id VJ
      refine own_w (T' := T1) (g' := (mkF m 8 #[.val (.ref f), .val (.int n'), .val (.int x')] [(.int (Int32.ofNat (pg x)))])) (fun t_ k_ => X1.iaload hx (j := x') (v := .int (Int32.ofNat (pg x))) (by rw [e1]; exact Ar2.1) (State.isArrayOf_alike hZ.alike Ar2.2.1) Ar2.2.2 (own_Ar_in hs2 hxx (own_get_lt (show _ = some (Int32.ofNat (pg x)) from (own_lst_get x5)))) (own_Ar_at hs2 hxx (show _ = some (Int32.ofNat (pg x)) from (own_lst_get x5))) (g := (mkF m 7 #[.val (.ref f), .val (.int n'), .val (.int x')] [(.int x'), (.ref pa)])) rfl rfl (hb hby own_d6_7) t_ k_) ?_
      refine own_w (T' := T1) (g' := (mkF m 9 #[.val (.ref f), .val (.int n'), .val (.int x')] [(.int x'), (.int (Int32.ofNat (pg x)))])) (fun _ k_ => XS.iloadN X1.here hx rfl (hb hby own_d6_8) rfl k_) ?_
      have hxo : x' = Int32.ofNat x := Int32.toInt_inj.mp (by rw [hxx, own_of x5])
      by_cases hc9 : (Int32.ofNat (pg x)) = x'
      · refine own_w (T' := T1) (g' := (mkF m 39 #[.val (.ref f), .val (.int n'), .val (.int x')] [])) (fun _ k_ => XS.icmpYes X1.here hx rfl (pc0 := 9) (pc' := 39) rfl (hb hby own_d6_9) rfl (teq hc9).1 (by decide) (by decide) k_) ?_
        have q : pg x = x := (own_ofi a1 x5).mp (hc9.trans hxo)
        refine own_w (T' := T1) (g' := (mkF m 40 #[.val (.ref f), .val (.int n'), .val (.int x')] [(.int x')])) (fun _ k_ => XS.iloadN X1.here hx rfl (hb hby own_d6_39) rfl k_) ?_
        obtain ⟨fs, hr, hrun, hended, hW, hsame⟩ := X1.leave (v := some (.int x')) (fun h => by rw [Bd.returns] at h; cases h)
        exact ⟨_, _, retOut X1 hx Bd.returns rfl (Or.inl ⟨rfl, Or.inl rfl, _, rfl⟩) (hb hby own_d6_40) hr, hrun, hended, _, _, rfl, (by show own_Q6 Z f n' pa pf lf rf B i h0 n0 _ T1.heap _; rw [e1]; exact ⟨(by rw [hxo, ← hl, a7 q]), NJ, KJ, ⟨pg, I, VJ⟩⟩), ⟨_, rfl⟩, hW, hsame.mono (by decide) (by decide)⟩
      · refine own_w (T' := T1) (g' := (mkF m 12 #[.val (.ref f), .val (.int n'), .val (.int x')] [])) (fun _ k_ => XS.icmpNo X1.here hx rfl (hb hby own_d6_9) rfl (feq hc9).1 k_) ?_
        have q : pg x ≠ x := fun q => hc9 (by rw [q]; exact hxo.symm)
        obtain ⟨I2, r2, l2, p2⟩ := own_half I x5 q
        refine own_w (T' := T1) (g' := (mkF m 13 #[.val (.ref f), .val (.int n'), .val (.int x')] [(.ref f)])) (fun _ k_ => XS.aloadN X1.here hx rfl (hb hby own_d6_12) rfl rfl k_) ?_
        obtain ⟨T3, X3, e3, st3⟩ := getF X1 hx hZ hown (host := "") (Or.inl (hw _ (List.mem_of_getElem? (i := 10) rfl))) Via.refl e1 GJ (g := (mkF m 13 #[.val (.ref f), .val (.int n'), .val (.int x')] [(.ref f)])) rfl rfl (hb hby own_d6_13)
        refine own_w (T' := T3) (g' := (mkF m 16 #[.val (.ref f), .val (.int n'), .val (.int x')] [(.ref pa)])) st3 ?_
        refine own_w (T' := T3) (g' := (mkF m 17 #[.val (.ref f), .val (.int n'), .val (.int x')] [(.int x'), (.ref pa)])) (fun _ k_ => XS.iloadN X3.here hx rfl (hb hby own_d6_16) rfl k_) ?_
        refine own_w (T' := T3) (g' := (mkF m 18 #[.val (.ref f), .val (.int n'), .val (.int x')] [(.ref f), (.int x'), (.ref pa)])) (fun _ k_ => XS.aloadN X3.here hx rfl (hb hby own_d6_17) rfl rfl k_) ?_
        obtain ⟨T4, X4, e4, st4⟩ := getF X3 hx hZ hown (host := "") (Or.inl (hw _ (List.mem_of_getElem? (i := 10) rfl))) Via.refl e3 GJ (g := (mkF m 18 #[.val (.ref f), .val (.int n'), .val (.int x')] [(.ref f), (.int x'), (.ref pa)])) rfl rfl (hb hby own_d6_18)
        refine own_w (T' := T4) (g' := (mkF m 21 #[.val (.ref f), .val (.int n'), .val (.int x')] [(.ref pa), (.int x'), (.ref pa)])) st4 ?_
        refine own_w (T' := T4) (g' := (mkF m 22 #[.val (.ref f), .val (.int n'), .val (.int x')] [(.ref f), (.ref pa), (.int x'), (.ref pa)])) (fun _ k_ => XS.aloadN X4.here hx rfl (hb hby own_d6_21) rfl rfl k_) ?_
        obtain ⟨T5, X5, e5, st5⟩ := getF X4 hx hZ hown (host := "") (Or.inl (hw _ (List.mem_of_getElem? (i := 10) rfl))) Via.refl e4 GJ (g := (mkF m 22 #[.val (.ref f), .val (.int n'), .val (.int x')] [(.ref f), (.ref pa), (.int x'), (.ref pa)])) rfl rfl (hb hby own_d6_22)
        refine own_w (T' := T5) (g' := (mkF m 25 #[.val (.ref f), .val (.int n'), .val (.int x')] [(.ref pa), (.ref pa), (.int x'), (.ref pa)])) st5 ?_
        refine own_w (T' := T5) (g' := (mkF m 26 #[.val (.ref f), .val (.int n'), .val (.int x')] [(.int x'), (.ref pa), (.ref pa), (.int x'), (.ref pa)])) (fun _ k_ => XS.iloadN X5.here hx rfl (hb hby own_d6_25) rfl k_) ?_
        obtain ⟨cl6, Ar6, hs6⟩ := id VJ
        refine own_w (T' := T5) (g' := (mkF m 27 #[.val (.ref f), .val (.int n'), .val (.int x')] [(.int (Int32.ofNat (pg x))), (.ref pa), (.int x'), (.ref pa)])) (fun t_ k_ => X5.iaload hx (j := x') (v := .int (Int32.ofNat (pg x))) (by rw [e5]; exact Ar6.1) (State.isArrayOf_alike hZ.alike Ar6.2.1) Ar6.2.2 (own_Ar_in hs6 hxx (own_get_lt (show _ = some (Int32.ofNat (pg x)) from (own_lst_get x5)))) (own_Ar_at hs6 hxx (show _ = some (Int32.ofNat (pg x)) from (own_lst_get x5))) (g := (mkF m 26 #[.val (.ref f), .val (.int n'), .val (.int x')] [(.int x'), (.ref pa), (.ref pa), (.int x'), (.ref pa)])) rfl rfl (hb hby own_d6_26) t_ k_) ?_
        obtain ⟨cl7, Ar7, hs7⟩ := id VJ
        refine own_w (T' := T5) (g' := (mkF m 28 #[.val (.ref f), .val (.int n'), .val (.int x')] [(.int (Int32.ofNat (pg (pg x)))), (.int x'), (.ref pa)])) (fun t_ k_ => X5.iaload hx (j := (Int32.ofNat (pg x))) (v := .int (Int32.ofNat (pg (pg x)))) (by rw [e5]; exact Ar7.1) (State.isArrayOf_alike hZ.alike Ar7.2.1) Ar7.2.2 (own_Ar_in hs7 (own_of a1) (own_get_lt (show _ = some (Int32.ofNat (pg (pg x))) from (own_lst_get a1)))) (own_Ar_at hs7 (own_of a1) (show _ = some (Int32.ofNat (pg (pg x))) from (own_lst_get a1))) (g := (mkF m 27 #[.val (.ref f), .val (.int n'), .val (.int x')] [(.int (Int32.ofNat (pg x))), (.ref pa), (.int x'), (.ref pa)])) rfl rfl (hb hby own_d6_27) t_ k_) ?_
        obtain ⟨cl8, Ar8, hs8⟩ := id VJ
        obtain ⟨T8, h8, X8, e8, W8, st8⟩ := stI X5 hx hZ e5 Ar8 (j := x') (own_Ar_in (i := x) hs8 hxx (by rw [own_lst_len]; exact x5)) (g := (mkF m 28 #[.val (.ref f), .val (.int n'), .val (.int x')] [(.int (Int32.ofNat (pg (pg x)))), (.int x'), (.ref pa)])) rfl rfl (hb hby own_d6_28)
        have V8 := own_Ar_set (i := x) VJ W8 hxx rfl
        have N8 := Fr.snoc X8 NJ g_pa
        have Z8 : n0 ≤ h8.size := Nat.le_trans (Nat.le_trans Z0 KJ.1) (Keep.of_wr W8).1
        refine own_w (T' := T8) (g' := (mkF m 29 #[.val (.ref f), .val (.int n'), .val (.int x')] [])) st8 ?_
        have V8' := V8
        rw [own_lst_set (f := pg) (v := pg (pg x)) x5] at V8'
        have G8 := GJ.other W8 (Or.inl ne)
        refine own_w (T' := T8) (g' := (mkF m 30 #[.val (.ref f), .val (.int n'), .val (.int x')] [(.ref f)])) (fun _ k_ => XS.aloadN X8.here hx rfl (hb hby own_d6_29) rfl rfl k_) ?_
        obtain ⟨T9, X9, e9, st9⟩ := getF X8 hx hZ hown (host := "") (Or.inl (hw _ (List.mem_of_getElem? (i := 10) rfl))) Via.refl e8 G8 (g := (mkF m 30 #[.val (.ref f), .val (.int n'), .val (.int x')] [(.ref f)])) rfl rfl (hb hby own_d6_30)
        refine own_w (T' := T9) (g' := (mkF m 33 #[.val (.ref f), .val (.int n'), .val (.int x')] [(.ref pa)])) st9 ?_
        refine own_w (T' := T9) (g' := (mkF m 34 #[.val (.ref f), .val (.int n'), .val (.int x')] [(.int x'), (.ref pa)])) (fun _ k_ => XS.iloadN X9.here hx rfl (hb hby own_d6_33) rfl k_) ?_
        obtain ⟨cl10, Ar10, hs10⟩ := id V8'
        refine own_w (T' := T9) (g' := (mkF m 35 #[.val (.ref f), .val (.int n'), .val (.int x')] [(.int (Int32.ofNat (pg (pg x))))])) (fun t_ k_ => X9.iaload hx (j := x') (v := .int (Int32.ofNat (pg (pg x)))) (by rw [e9]; exact Ar10.1) (State.isArrayOf_alike hZ.alike Ar10.2.1) Ar10.2.2 (own_Ar_in hs10 hxx (own_get_lt (show _ = some (Int32.ofNat (pg (pg x))) from ((own_lst_get x5).trans (by simp [own_up]))))) (own_Ar_at hs10 hxx (show _ = some (Int32.ofNat (pg (pg x))) from ((own_lst_get x5).trans (by simp [own_up])))) (g := (mkF m 34 #[.val (.ref f), .val (.int n'), .val (.int x')] [(.int x'), (.ref pa)])) rfl rfl (hb hby own_d6_34) t_ k_) ?_
        refine own_w (T' := T9) (g' := (mkF m 36 #[.val (.ref f), .val (.int n'), .val (.int (Int32.ofNat (pg (pg x))))] [])) (fun _ k_ => XS.istoreN X9.here hx rfl (hb hby own_d6_35) rfl (l' := #[.val (.ref f), .val (.int n'), .val (.int (Int32.ofNat (pg (pg x))))]) rfl k_) ?_
        refine own_w (T' := T9) (g' := (mkF m 2 #[.val (.ref f), .val (.int n'), .val (.int (Int32.ofNat (pg (pg x))))] [])) (fun _ k_ => XS.goto X9.here hx rfl (pc0 := 36) (pc' := 2) rfl (hb hby own_d6_36) (by decide) (by decide) k_) ?_
        have hb2 := (I _ p2).2.2.2.2.2.1
        exact ih _ _ _ X9 e9 N8 _ (pg (pg x)) _ (own_of p2) p2 (l2.trans hl) I2 (by omega) (KJ.wr W8 (Or.inl (List.mem_singleton.mpr rfl))) V8'
  exact loop (B - rf i + 1) _ _ _ X0 e0 N0 _ i pf hi h5 rfl I (Nat.lt_succ_self _) (Keep.refl _ _) V
theorem own_d3_0 : decode method_3_code 0 = .ok (.iload_n 2, 1) := by decide +kernel
theorem own_d3_1 : decode method_3_code 1 = .ok (.sipush 255, 3) := by decide +kernel
theorem own_d3_4 : decode method_3_code 4 = .ok (.iand, 1) := by decide +kernel
theorem own_d3_5 : decode method_3_code 5 = .ok (.iconst 5, 1) := by decide +kernel
theorem own_d3_6 : decode method_3_code 6 = .ok (.irem, 1) := by decide +kernel
theorem own_d3_7 : decode method_3_code 7 = .ok (.istore_n 3, 1) := by decide +kernel
theorem own_d3_8 : decode method_3_code 8 = .ok (.iload_n 2, 1) := by decide +kernel
theorem own_d3_9 : decode method_3_code 9 = .ok (.bipush 8, 2) := by decide +kernel
theorem own_d3_11 : decode method_3_code 11 = .ok (.iushr, 1) := by decide +kernel
theorem own_d3_12 : decode method_3_code 12 = .ok (.sipush 255, 3) := by decide +kernel
theorem own_d3_15 : decode method_3_code 15 = .ok (.iand, 1) := by decide +kernel
theorem own_d3_16 : decode method_3_code 16 = .ok (.iconst 5, 1) := by decide +kernel
theorem own_d3_17 : decode method_3_code 17 = .ok (.irem, 1) := by decide +kernel
theorem own_d3_18 : decode method_3_code 18 = .ok (.istore 4, 2) := by decide +kernel
theorem own_d3_20 : decode method_3_code 20 = .ok (.aload_n 1, 1) := by decide +kernel
theorem own_d3_21 : decode method_3_code 21 = .ok (.iload_n 3, 1) := by decide +kernel
theorem own_d3_22 : decode method_3_code 22 = .ok (.iaload, 1) := by decide +kernel
theorem own_d3_23 : decode method_3_code 23 = .ok (.istore 5, 2) := by decide +kernel
theorem own_d3_25 : decode method_3_code 25 = .ok (.aload_n 1, 1) := by decide +kernel
theorem own_d3_26 : decode method_3_code 26 = .ok (.iload 4, 2) := by decide +kernel
theorem own_d3_28 : decode method_3_code 28 = .ok (.iaload, 1) := by decide +kernel
theorem own_d3_29 : decode method_3_code 29 = .ok (.istore 6, 2) := by decide +kernel
theorem own_d3_31 : decode method_3_code 31 = .ok (.iload 5, 2) := by decide +kernel
theorem own_d3_33 : decode method_3_code 33 = .ok (.iload 6, 2) := by decide +kernel
theorem own_d3_35 : decode method_3_code 35 = .ok (.if_icmp .eq 19, 3) := by decide +kernel
theorem own_d3_54 : decode method_3_code 54 = .ok (.return_, 1) := by decide +kernel
theorem own_d3_38 : decode method_3_code 38 = .ok (.aload_n 0, 1) := by decide +kernel
theorem own_d3_39 : decode method_3_code 39 = .ok (.iload 5, 2) := by decide +kernel
theorem own_d3_41 : decode method_3_code 41 = .ok (.iload 6, 2) := by decide +kernel
theorem own_d3_43 : decode method_3_code 43 = .ok (.invokevirtual 23, 3) := by decide +kernel
theorem own_pd0 : parseMethodDescriptor "(II)V" = some ⟨[.int, .int], none⟩ := by decide +kernel
theorem own_d3_46 : decode method_3_code 46 = .ok (.aload_n 1, 1) := by decide +kernel
theorem own_d3_47 : decode method_3_code 47 = .ok (.iload 5, 2) := by decide +kernel
theorem own_d3_49 : decode method_3_code 49 = .ok (.iload 6, 2) := by decide +kernel
theorem own_d3_51 : decode method_3_code 51 = .ok (.invokestatic 27, 3) := by decide +kernel
theorem own_pd1 : parseMethodDescriptor "([III)V" = some ⟨[(.array .int), .int, .int], none⟩ := by decide +kernel
theorem own_rm3_ef (m : MethodId) (f : Addr) (lb : Addr) (k : Int32) : entryFrame m #[(.ref f), (.ref lb), (.int k)] 7 = mkF m 0 #[.val (.ref f), .val (.ref lb), .val (.int k), .unset, .unset, .unset, .unset] [] := by first | (simp [entryFrame, mkF, argsToLocals, Value.category]; done) | rfl
def own_Q3 (Z : State) (f : Addr) (lb : Addr) (k : Int32) (pa : Addr) (pf : Nat → Nat) (lf : Nat → Nat) (rf : Nat → Nat) (B : Nat) (h0 : Heap) (n0 : Nat) (v_ : Option Value) (h : Heap) (L_ : List Loc) : Prop := v_ = none ∧ Fr n0 L_ ∧ (Keep h0 h [pa, lb]) ∧ (∃ p' l' r' B', own_inv p' l' r' B' ∧ own_Ar Z h pa .int (own_lst p') ∧ own_Ar Z h lb .int (own_lst l'))
set_option maxRecDepth 65536 in
set_option maxHeartbeats 40000000 in
theorem own_rm3 (l : Launch) (Z : State) (a0 : Array Value) (hw : ∀ d ∈ tables_1, d.before a0 Z = true) (ws : List Jvm.Cond) (f : Addr) (lb : Addr) (k : Int32) (pa : Addr) (pf : Nat → Nat) (lf : Nat → Nat) (rf : Nat → Nat) (B : Nat) (h0 : Heap) (n0 : Nat) (Z0 : n0 ≤ h0.size) (G : Fld Z h0 f "com/example/eigenvote/eigenvote/graph/Forest" "parents" "[I" (.ref pa)) (E : Exa Z h0 f "com/example/eigenvote/eigenvote/graph/Forest") (V : own_Ar Z h0 pa .int (own_lst pf)) (VL : own_Ar Z h0 lb .int (own_lst lf)) (g_pa : n0 ≤ pa) (g_lb : n0 ≤ lb) (ne : lb ≠ pa) (I : own_inv pf lf rf B) :
    MetFree l (⟨"com/example/eigenvote/eigenvote/graph/ForestRootPinLaw", "join", "(Lcom/example/eigenvote/eigenvote/graph/Forest;[II)V"⟩ : MethodName) (head1 (Jvm.Cond.code (⟨"com/example/eigenvote/eigenvote/graph/ForestRootPinLaw", "join", "(Lcom/example/eigenvote/eigenvote/graph/Forest;[II)V"⟩ : MethodName) method_3_code 7 none :: ws) ({ frames := 1, cells := 0, slots := 0, locals := 14 } : Room)) (fun a_ U_ => a_ = #[(.ref f), (.ref lb), (.int k)] ∧ Z.Warmed39 U_.vm ∧ U_.heap = h0) (fun _ _ _ _ _ => True) (fun _ U_ o_ V_ => ∃ v_ L_, o_ = .returned v_ ∧ own_Q3 Z f lb k pa pf lf rf B h0 n0 v_ V_.heap L_ ∧ FrameEnd U_ o_ V_ L_ ({ frames := 1, cells := 0, slots := 0, locals := 14 } : Room).cells ({ frames := 1, cells := 0, slots := 0, locals := 14 } : Room).slots) := by
  refine MetFree.of_bodySF (plainFor_of_name own_pn_com_example_eigenvote_eigenvote_graph_ForestRootPinLaw) hisR ?_
  intro p e s m args below meth c s₁ Bd hml0 hP hK
  obtain ⟨rfl, hZ, hh⟩ := hP
  have hx := Bd.exec
  have hby := Bd.bytes
  have hml : c.maxLocals = 7 := hml0
  have hown : s.vm.findClass "com/example/eigenvote/eigenvote/graph/ForestRootPinLaw" = some m.cls := findClass_of_methodNamed Bd.named
  have hnm := (name_of_methodNamed Bd.named Bd.method).1
  have X0 : Stand p l e ({ frames := 1, cells := 0, slots := 0, locals := 14 } : Room) s m #[(.ref f), (.ref lb), (.int k)] below meth c s₁ [] 0 0 := Stand.of_body Bd
  have e0 : s₁.heap = h0 := by rw [← hh, Bd.state]; rfl
  have N0 := Fr.nil n0
  show own_G p e below s (own_Q3 Z f lb k pa pf lf rf B h0 n0) ({ frames := 1, cells := 0, slots := 0, locals := 14 } : Room).cells ({ frames := 1, cells := 0, slots := 0, locals := 14 } : Room).slots s₁ (entryFrame m #[(.ref f), (.ref lb), (.int k)] 7)
  rw [own_rm3_ef]
  refine own_w (T' := s₁) (g' := (mkF m 1 #[.val (.ref f), .val (.ref lb), .val (.int k), .unset, .unset, .unset, .unset] [(.int k)])) (fun _ k_ => XS.iloadN X0.here hx rfl (hb hby own_d3_0) rfl k_) ?_
  refine own_w (T' := s₁) (g' := (mkF m 4 #[.val (.ref f), .val (.ref lb), .val (.int k), .unset, .unset, .unset, .unset] [(.int (255 : Int32)), (.int k)])) (fun _ k_ => XS.sipush X0.here hx rfl (hb hby own_d3_1) k_) ?_
  refine own_w (T' := s₁) (g' := (mkF m 5 #[.val (.ref f), .val (.ref lb), .val (.int k), .unset, .unset, .unset, .unset] [(.int (k &&& (255 : Int32)))])) (fun _ k_ => XS.iand X0.here hx rfl (hb hby own_d3_4) rfl k_) ?_
  refine own_w (T' := s₁) (g' := (mkF m 6 #[.val (.ref f), .val (.ref lb), .val (.int k), .unset, .unset, .unset, .unset] [(.int (5 : Int32)), (.int (k &&& (255 : Int32)))])) (fun _ k_ => XS.iconst X0.here hx rfl (hb hby own_d3_5) k_) ?_
  refine own_w (T' := s₁) (g' := (mkF m 7 #[.val (.ref f), .val (.ref lb), .val (.int k), .unset, .unset, .unset, .unset] [(.int ((k &&& (255 : Int32)) - ((k &&& (255 : Int32)) / (5 : Int32)) * (5 : Int32)))])) (fun _ k_ => XS.irem X0.here hx rfl (hb hby own_d3_6) rfl (by decide) k_) ?_
  refine own_w (T' := s₁) (g' := (mkF m 8 #[.val (.ref f), .val (.ref lb), .val (.int k), .val (.int ((k &&& (255 : Int32)) - ((k &&& (255 : Int32)) / (5 : Int32)) * (5 : Int32))), .unset, .unset, .unset] [])) (fun _ k_ => XS.istoreN X0.here hx rfl (hb hby own_d3_7) rfl (l' := #[.val (.ref f), .val (.ref lb), .val (.int k), .val (.int ((k &&& (255 : Int32)) - ((k &&& (255 : Int32)) / (5 : Int32)) * (5 : Int32))), .unset, .unset, .unset]) rfl k_) ?_
  refine own_w (T' := s₁) (g' := (mkF m 9 #[.val (.ref f), .val (.ref lb), .val (.int k), .val (.int ((k &&& (255 : Int32)) - ((k &&& (255 : Int32)) / (5 : Int32)) * (5 : Int32))), .unset, .unset, .unset] [(.int k)])) (fun _ k_ => XS.iloadN X0.here hx rfl (hb hby own_d3_8) rfl k_) ?_
  refine own_w (T' := s₁) (g' := (mkF m 11 #[.val (.ref f), .val (.ref lb), .val (.int k), .val (.int ((k &&& (255 : Int32)) - ((k &&& (255 : Int32)) / (5 : Int32)) * (5 : Int32))), .unset, .unset, .unset] [(.int (8 : Int32)), (.int k)])) (fun _ k_ => XS.bipush X0.here hx rfl (hb hby own_d3_9) k_) ?_
  refine own_w (T' := s₁) (g' := (mkF m 12 #[.val (.ref f), .val (.ref lb), .val (.int k), .val (.int ((k &&& (255 : Int32)) - ((k &&& (255 : Int32)) / (5 : Int32)) * (5 : Int32))), .unset, .unset, .unset] [(.int ((k.toUInt32 >>> ((8 : Int32) &&& 31).toUInt32).toInt32))])) (fun _ k_ => XS.iushr X0.here hx rfl (hb hby own_d3_11) rfl k_) ?_
  refine own_w (T' := s₁) (g' := (mkF m 15 #[.val (.ref f), .val (.ref lb), .val (.int k), .val (.int ((k &&& (255 : Int32)) - ((k &&& (255 : Int32)) / (5 : Int32)) * (5 : Int32))), .unset, .unset, .unset] [(.int (255 : Int32)), (.int ((k.toUInt32 >>> ((8 : Int32) &&& 31).toUInt32).toInt32))])) (fun _ k_ => XS.sipush X0.here hx rfl (hb hby own_d3_12) k_) ?_
  refine own_w (T' := s₁) (g' := (mkF m 16 #[.val (.ref f), .val (.ref lb), .val (.int k), .val (.int ((k &&& (255 : Int32)) - ((k &&& (255 : Int32)) / (5 : Int32)) * (5 : Int32))), .unset, .unset, .unset] [(.int (((k.toUInt32 >>> ((8 : Int32) &&& 31).toUInt32).toInt32) &&& (255 : Int32)))])) (fun _ k_ => XS.iand X0.here hx rfl (hb hby own_d3_15) rfl k_) ?_
  refine own_w (T' := s₁) (g' := (mkF m 17 #[.val (.ref f), .val (.ref lb), .val (.int k), .val (.int ((k &&& (255 : Int32)) - ((k &&& (255 : Int32)) / (5 : Int32)) * (5 : Int32))), .unset, .unset, .unset] [(.int (5 : Int32)), (.int (((k.toUInt32 >>> ((8 : Int32) &&& 31).toUInt32).toInt32) &&& (255 : Int32)))])) (fun _ k_ => XS.iconst X0.here hx rfl (hb hby own_d3_16) k_) ?_
  refine own_w (T' := s₁) (g' := (mkF m 18 #[.val (.ref f), .val (.ref lb), .val (.int k), .val (.int ((k &&& (255 : Int32)) - ((k &&& (255 : Int32)) / (5 : Int32)) * (5 : Int32))), .unset, .unset, .unset] [(.int ((((k.toUInt32 >>> ((8 : Int32) &&& 31).toUInt32).toInt32) &&& (255 : Int32)) - ((((k.toUInt32 >>> ((8 : Int32) &&& 31).toUInt32).toInt32) &&& (255 : Int32)) / (5 : Int32)) * (5 : Int32)))])) (fun _ k_ => XS.irem X0.here hx rfl (hb hby own_d3_17) rfl (by decide) k_) ?_
  refine own_w (T' := s₁) (g' := (mkF m 20 #[.val (.ref f), .val (.ref lb), .val (.int k), .val (.int ((k &&& (255 : Int32)) - ((k &&& (255 : Int32)) / (5 : Int32)) * (5 : Int32))), .val (.int ((((k.toUInt32 >>> ((8 : Int32) &&& 31).toUInt32).toInt32) &&& (255 : Int32)) - ((((k.toUInt32 >>> ((8 : Int32) &&& 31).toUInt32).toInt32) &&& (255 : Int32)) / (5 : Int32)) * (5 : Int32))), .unset, .unset] [])) (fun _ k_ => XS.istore X0.here hx rfl (hb hby own_d3_18) rfl (l' := #[.val (.ref f), .val (.ref lb), .val (.int k), .val (.int ((k &&& (255 : Int32)) - ((k &&& (255 : Int32)) / (5 : Int32)) * (5 : Int32))), .val (.int ((((k.toUInt32 >>> ((8 : Int32) &&& 31).toUInt32).toInt32) &&& (255 : Int32)) - ((((k.toUInt32 >>> ((8 : Int32) &&& 31).toUInt32).toInt32) &&& (255 : Int32)) / (5 : Int32)) * (5 : Int32))), .unset, .unset]) rfl k_) ?_
  refine own_w (T' := s₁) (g' := (mkF m 21 #[.val (.ref f), .val (.ref lb), .val (.int k), .val (.int ((k &&& (255 : Int32)) - ((k &&& (255 : Int32)) / (5 : Int32)) * (5 : Int32))), .val (.int ((((k.toUInt32 >>> ((8 : Int32) &&& 31).toUInt32).toInt32) &&& (255 : Int32)) - ((((k.toUInt32 >>> ((8 : Int32) &&& 31).toUInt32).toInt32) &&& (255 : Int32)) / (5 : Int32)) * (5 : Int32))), .unset, .unset] [(.ref lb)])) (fun _ k_ => XS.aloadN X0.here hx rfl (hb hby own_d3_20) rfl rfl k_) ?_
  refine own_w (T' := s₁) (g' := (mkF m 22 #[.val (.ref f), .val (.ref lb), .val (.int k), .val (.int ((k &&& (255 : Int32)) - ((k &&& (255 : Int32)) / (5 : Int32)) * (5 : Int32))), .val (.int ((((k.toUInt32 >>> ((8 : Int32) &&& 31).toUInt32).toInt32) &&& (255 : Int32)) - ((((k.toUInt32 >>> ((8 : Int32) &&& 31).toUInt32).toInt32) &&& (255 : Int32)) / (5 : Int32)) * (5 : Int32))), .unset, .unset] [(.int ((k &&& (255 : Int32)) - ((k &&& (255 : Int32)) / (5 : Int32)) * (5 : Int32))), (.ref lb)])) (fun _ k_ => XS.iloadN X0.here hx rfl (hb hby own_d3_21) rfl k_) ?_
  have hria := own_rem (x := (k &&& (255 : Int32))) (y := (5 : Int32)) 5 (by decide) (by decide) (c_and _ 255 (by decide)).1
  obtain ⟨ia, hia⟩ : ∃ ia : Nat, (((k &&& (255 : Int32)) - ((k &&& (255 : Int32)) / (5 : Int32)) * (5 : Int32))).toInt = (ia : Int) := ⟨(((k &&& (255 : Int32)) - ((k &&& (255 : Int32)) / (5 : Int32)) * (5 : Int32))).toInt.toNat, by rw [hria]; omega⟩
  have ia5 : ia < 5 := by rw [hria] at hia; omega
  have hrib := own_rem (x := (((k.toUInt32 >>> ((8 : Int32) &&& 31).toUInt32).toInt32) &&& (255 : Int32))) (y := (5 : Int32)) 5 (by decide) (by decide) (c_and _ 255 (by decide)).1
  obtain ⟨ib, hib⟩ : ∃ ib : Nat, (((((k.toUInt32 >>> ((8 : Int32) &&& 31).toUInt32).toInt32) &&& (255 : Int32)) - ((((k.toUInt32 >>> ((8 : Int32) &&& 31).toUInt32).toInt32) &&& (255 : Int32)) / (5 : Int32)) * (5 : Int32))).toInt = (ib : Int) := ⟨(((((k.toUInt32 >>> ((8 : Int32) &&& 31).toUInt32).toInt32) &&& (255 : Int32)) - ((((k.toUInt32 >>> ((8 : Int32) &&& 31).toUInt32).toInt32) &&& (255 : Int32)) / (5 : Int32)) * (5 : Int32))).toInt.toNat, by rw [hrib]; omega⟩
  have ib5 : ib < 5 := by rw [hrib] at hib; omega
  have la := (I ia ia5).2.1
  have lb5 := (I ib ib5).2.1
  obtain ⟨cl1, Ar1, hs1⟩ := id VL
  refine own_w (T' := s₁) (g' := (mkF m 23 #[.val (.ref f), .val (.ref lb), .val (.int k), .val (.int ((k &&& (255 : Int32)) - ((k &&& (255 : Int32)) / (5 : Int32)) * (5 : Int32))), .val (.int ((((k.toUInt32 >>> ((8 : Int32) &&& 31).toUInt32).toInt32) &&& (255 : Int32)) - ((((k.toUInt32 >>> ((8 : Int32) &&& 31).toUInt32).toInt32) &&& (255 : Int32)) / (5 : Int32)) * (5 : Int32))), .unset, .unset] [(.int (Int32.ofNat (lf ia)))])) (fun t_ k_ => X0.iaload hx (j := ((k &&& (255 : Int32)) - ((k &&& (255 : Int32)) / (5 : Int32)) * (5 : Int32))) (v := .int (Int32.ofNat (lf ia))) (by rw [e0]; exact Ar1.1) (State.isArrayOf_alike hZ.alike Ar1.2.1) Ar1.2.2 (own_Ar_in hs1 hia (own_get_lt (show _ = some (Int32.ofNat (lf ia)) from (own_lst_get ia5)))) (own_Ar_at hs1 hia (show _ = some (Int32.ofNat (lf ia)) from (own_lst_get ia5))) (g := (mkF m 22 #[.val (.ref f), .val (.ref lb), .val (.int k), .val (.int ((k &&& (255 : Int32)) - ((k &&& (255 : Int32)) / (5 : Int32)) * (5 : Int32))), .val (.int ((((k.toUInt32 >>> ((8 : Int32) &&& 31).toUInt32).toInt32) &&& (255 : Int32)) - ((((k.toUInt32 >>> ((8 : Int32) &&& 31).toUInt32).toInt32) &&& (255 : Int32)) / (5 : Int32)) * (5 : Int32))), .unset, .unset] [(.int ((k &&& (255 : Int32)) - ((k &&& (255 : Int32)) / (5 : Int32)) * (5 : Int32))), (.ref lb)])) rfl rfl (hb hby own_d3_22) t_ k_) ?_
  refine own_w (T' := s₁) (g' := (mkF m 25 #[.val (.ref f), .val (.ref lb), .val (.int k), .val (.int ((k &&& (255 : Int32)) - ((k &&& (255 : Int32)) / (5 : Int32)) * (5 : Int32))), .val (.int ((((k.toUInt32 >>> ((8 : Int32) &&& 31).toUInt32).toInt32) &&& (255 : Int32)) - ((((k.toUInt32 >>> ((8 : Int32) &&& 31).toUInt32).toInt32) &&& (255 : Int32)) / (5 : Int32)) * (5 : Int32))), .val (.int (Int32.ofNat (lf ia))), .unset] [])) (fun _ k_ => XS.istore X0.here hx rfl (hb hby own_d3_23) rfl (l' := #[.val (.ref f), .val (.ref lb), .val (.int k), .val (.int ((k &&& (255 : Int32)) - ((k &&& (255 : Int32)) / (5 : Int32)) * (5 : Int32))), .val (.int ((((k.toUInt32 >>> ((8 : Int32) &&& 31).toUInt32).toInt32) &&& (255 : Int32)) - ((((k.toUInt32 >>> ((8 : Int32) &&& 31).toUInt32).toInt32) &&& (255 : Int32)) / (5 : Int32)) * (5 : Int32))), .val (.int (Int32.ofNat (lf ia))), .unset]) rfl k_) ?_
  refine own_w (T' := s₁) (g' := (mkF m 26 #[.val (.ref f), .val (.ref lb), .val (.int k), .val (.int ((k &&& (255 : Int32)) - ((k &&& (255 : Int32)) / (5 : Int32)) * (5 : Int32))), .val (.int ((((k.toUInt32 >>> ((8 : Int32) &&& 31).toUInt32).toInt32) &&& (255 : Int32)) - ((((k.toUInt32 >>> ((8 : Int32) &&& 31).toUInt32).toInt32) &&& (255 : Int32)) / (5 : Int32)) * (5 : Int32))), .val (.int (Int32.ofNat (lf ia))), .unset] [(.ref lb)])) (fun _ k_ => XS.aloadN X0.here hx rfl (hb hby own_d3_25) rfl rfl k_) ?_
  refine own_w (T' := s₁) (g' := (mkF m 28 #[.val (.ref f), .val (.ref lb), .val (.int k), .val (.int ((k &&& (255 : Int32)) - ((k &&& (255 : Int32)) / (5 : Int32)) * (5 : Int32))), .val (.int ((((k.toUInt32 >>> ((8 : Int32) &&& 31).toUInt32).toInt32) &&& (255 : Int32)) - ((((k.toUInt32 >>> ((8 : Int32) &&& 31).toUInt32).toInt32) &&& (255 : Int32)) / (5 : Int32)) * (5 : Int32))), .val (.int (Int32.ofNat (lf ia))), .unset] [(.int ((((k.toUInt32 >>> ((8 : Int32) &&& 31).toUInt32).toInt32) &&& (255 : Int32)) - ((((k.toUInt32 >>> ((8 : Int32) &&& 31).toUInt32).toInt32) &&& (255 : Int32)) / (5 : Int32)) * (5 : Int32))), (.ref lb)])) (fun _ k_ => XS.iload X0.here hx rfl (hb hby own_d3_26) rfl k_) ?_
  obtain ⟨cl2, Ar2, hs2⟩ := id VL
  refine own_w (T' := s₁) (g' := (mkF m 29 #[.val (.ref f), .val (.ref lb), .val (.int k), .val (.int ((k &&& (255 : Int32)) - ((k &&& (255 : Int32)) / (5 : Int32)) * (5 : Int32))), .val (.int ((((k.toUInt32 >>> ((8 : Int32) &&& 31).toUInt32).toInt32) &&& (255 : Int32)) - ((((k.toUInt32 >>> ((8 : Int32) &&& 31).toUInt32).toInt32) &&& (255 : Int32)) / (5 : Int32)) * (5 : Int32))), .val (.int (Int32.ofNat (lf ia))), .unset] [(.int (Int32.ofNat (lf ib)))])) (fun t_ k_ => X0.iaload hx (j := ((((k.toUInt32 >>> ((8 : Int32) &&& 31).toUInt32).toInt32) &&& (255 : Int32)) - ((((k.toUInt32 >>> ((8 : Int32) &&& 31).toUInt32).toInt32) &&& (255 : Int32)) / (5 : Int32)) * (5 : Int32))) (v := .int (Int32.ofNat (lf ib))) (by rw [e0]; exact Ar2.1) (State.isArrayOf_alike hZ.alike Ar2.2.1) Ar2.2.2 (own_Ar_in hs2 hib (own_get_lt (show _ = some (Int32.ofNat (lf ib)) from (own_lst_get ib5)))) (own_Ar_at hs2 hib (show _ = some (Int32.ofNat (lf ib)) from (own_lst_get ib5))) (g := (mkF m 28 #[.val (.ref f), .val (.ref lb), .val (.int k), .val (.int ((k &&& (255 : Int32)) - ((k &&& (255 : Int32)) / (5 : Int32)) * (5 : Int32))), .val (.int ((((k.toUInt32 >>> ((8 : Int32) &&& 31).toUInt32).toInt32) &&& (255 : Int32)) - ((((k.toUInt32 >>> ((8 : Int32) &&& 31).toUInt32).toInt32) &&& (255 : Int32)) / (5 : Int32)) * (5 : Int32))), .val (.int (Int32.ofNat (lf ia))), .unset] [(.int ((((k.toUInt32 >>> ((8 : Int32) &&& 31).toUInt32).toInt32) &&& (255 : Int32)) - ((((k.toUInt32 >>> ((8 : Int32) &&& 31).toUInt32).toInt32) &&& (255 : Int32)) / (5 : Int32)) * (5 : Int32))), (.ref lb)])) rfl rfl (hb hby own_d3_28) t_ k_) ?_
  refine own_w (T' := s₁) (g' := (mkF m 31 #[.val (.ref f), .val (.ref lb), .val (.int k), .val (.int ((k &&& (255 : Int32)) - ((k &&& (255 : Int32)) / (5 : Int32)) * (5 : Int32))), .val (.int ((((k.toUInt32 >>> ((8 : Int32) &&& 31).toUInt32).toInt32) &&& (255 : Int32)) - ((((k.toUInt32 >>> ((8 : Int32) &&& 31).toUInt32).toInt32) &&& (255 : Int32)) / (5 : Int32)) * (5 : Int32))), .val (.int (Int32.ofNat (lf ia))), .val (.int (Int32.ofNat (lf ib)))] [])) (fun _ k_ => XS.istore X0.here hx rfl (hb hby own_d3_29) rfl (l' := #[.val (.ref f), .val (.ref lb), .val (.int k), .val (.int ((k &&& (255 : Int32)) - ((k &&& (255 : Int32)) / (5 : Int32)) * (5 : Int32))), .val (.int ((((k.toUInt32 >>> ((8 : Int32) &&& 31).toUInt32).toInt32) &&& (255 : Int32)) - ((((k.toUInt32 >>> ((8 : Int32) &&& 31).toUInt32).toInt32) &&& (255 : Int32)) / (5 : Int32)) * (5 : Int32))), .val (.int (Int32.ofNat (lf ia))), .val (.int (Int32.ofNat (lf ib)))]) rfl k_) ?_
  refine own_w (T' := s₁) (g' := (mkF m 33 #[.val (.ref f), .val (.ref lb), .val (.int k), .val (.int ((k &&& (255 : Int32)) - ((k &&& (255 : Int32)) / (5 : Int32)) * (5 : Int32))), .val (.int ((((k.toUInt32 >>> ((8 : Int32) &&& 31).toUInt32).toInt32) &&& (255 : Int32)) - ((((k.toUInt32 >>> ((8 : Int32) &&& 31).toUInt32).toInt32) &&& (255 : Int32)) / (5 : Int32)) * (5 : Int32))), .val (.int (Int32.ofNat (lf ia))), .val (.int (Int32.ofNat (lf ib)))] [(.int (Int32.ofNat (lf ia)))])) (fun _ k_ => XS.iload X0.here hx rfl (hb hby own_d3_31) rfl k_) ?_
  refine own_w (T' := s₁) (g' := (mkF m 35 #[.val (.ref f), .val (.ref lb), .val (.int k), .val (.int ((k &&& (255 : Int32)) - ((k &&& (255 : Int32)) / (5 : Int32)) * (5 : Int32))), .val (.int ((((k.toUInt32 >>> ((8 : Int32) &&& 31).toUInt32).toInt32) &&& (255 : Int32)) - ((((k.toUInt32 >>> ((8 : Int32) &&& 31).toUInt32).toInt32) &&& (255 : Int32)) / (5 : Int32)) * (5 : Int32))), .val (.int (Int32.ofNat (lf ia))), .val (.int (Int32.ofNat (lf ib)))] [(.int (Int32.ofNat (lf ib))), (.int (Int32.ofNat (lf ia)))])) (fun _ k_ => XS.iload X0.here hx rfl (hb hby own_d3_33) rfl k_) ?_
  by_cases hc35 : (Int32.ofNat (lf ia)) = (Int32.ofNat (lf ib))
  · refine own_w (T' := s₁) (g' := (mkF m 54 #[.val (.ref f), .val (.ref lb), .val (.int k), .val (.int ((k &&& (255 : Int32)) - ((k &&& (255 : Int32)) / (5 : Int32)) * (5 : Int32))), .val (.int ((((k.toUInt32 >>> ((8 : Int32) &&& 31).toUInt32).toInt32) &&& (255 : Int32)) - ((((k.toUInt32 >>> ((8 : Int32) &&& 31).toUInt32).toInt32) &&& (255 : Int32)) / (5 : Int32)) * (5 : Int32))), .val (.int (Int32.ofNat (lf ia))), .val (.int (Int32.ofNat (lf ib)))] [])) (fun _ k_ => XS.icmpYes X0.here hx rfl (pc0 := 35) (pc' := 54) rfl (hb hby own_d3_35) rfl (teq hc35).1 (by decide) (by decide) k_) ?_
    obtain ⟨fs, hr, hrun, hended, hW, hsame⟩ := X0.leave (v := none) (fun _ => rfl)
    exact ⟨_, _, X0.returnOut hx Bd.returns (hb hby own_d3_54) hr, hrun, hended, _, _, rfl, (by show own_Q3 Z f lb k pa pf lf rf B h0 n0 _ s₁.heap _; rw [e0]; exact ⟨rfl, N0, Keep.refl _ _, ⟨pf, lf, rf, B, I, V, VL⟩⟩), ⟨_, rfl⟩, hW, hsame.mono (by decide) (by decide)⟩
  · refine own_w (T' := s₁) (g' := (mkF m 38 #[.val (.ref f), .val (.ref lb), .val (.int k), .val (.int ((k &&& (255 : Int32)) - ((k &&& (255 : Int32)) / (5 : Int32)) * (5 : Int32))), .val (.int ((((k.toUInt32 >>> ((8 : Int32) &&& 31).toUInt32).toInt32) &&& (255 : Int32)) - ((((k.toUInt32 >>> ((8 : Int32) &&& 31).toUInt32).toInt32) &&& (255 : Int32)) / (5 : Int32)) * (5 : Int32))), .val (.int (Int32.ofNat (lf ia))), .val (.int (Int32.ofNat (lf ib)))] [])) (fun _ k_ => XS.icmpNo X0.here hx rfl (hb hby own_d3_35) rfl (feq hc35).1 k_) ?_
    have hne : lf ia ≠ lf ib := fun q => hc35 (congrArg Int32.ofNat q)
    refine own_w (T' := s₁) (g' := (mkF m 39 #[.val (.ref f), .val (.ref lb), .val (.int k), .val (.int ((k &&& (255 : Int32)) - ((k &&& (255 : Int32)) / (5 : Int32)) * (5 : Int32))), .val (.int ((((k.toUInt32 >>> ((8 : Int32) &&& 31).toUInt32).toInt32) &&& (255 : Int32)) - ((((k.toUInt32 >>> ((8 : Int32) &&& 31).toUInt32).toInt32) &&& (255 : Int32)) / (5 : Int32)) * (5 : Int32))), .val (.int (Int32.ofNat (lf ia))), .val (.int (Int32.ofNat (lf ib)))] [(.ref f)])) (fun _ k_ => XS.aloadN X0.here hx rfl (hb hby own_d3_38) rfl rfl k_) ?_
    refine own_w (T' := s₁) (g' := (mkF m 41 #[.val (.ref f), .val (.ref lb), .val (.int k), .val (.int ((k &&& (255 : Int32)) - ((k &&& (255 : Int32)) / (5 : Int32)) * (5 : Int32))), .val (.int ((((k.toUInt32 >>> ((8 : Int32) &&& 31).toUInt32).toInt32) &&& (255 : Int32)) - ((((k.toUInt32 >>> ((8 : Int32) &&& 31).toUInt32).toInt32) &&& (255 : Int32)) / (5 : Int32)) * (5 : Int32))), .val (.int (Int32.ofNat (lf ia))), .val (.int (Int32.ofNat (lf ib)))] [(.int (Int32.ofNat (lf ia))), (.ref f)])) (fun _ k_ => XS.iload X0.here hx rfl (hb hby own_d3_39) rfl k_) ?_
    refine own_w (T' := s₁) (g' := (mkF m 43 #[.val (.ref f), .val (.ref lb), .val (.int k), .val (.int ((k &&& (255 : Int32)) - ((k &&& (255 : Int32)) / (5 : Int32)) * (5 : Int32))), .val (.int ((((k.toUInt32 >>> ((8 : Int32) &&& 31).toUInt32).toInt32) &&& (255 : Int32)) - ((((k.toUInt32 >>> ((8 : Int32) &&& 31).toUInt32).toInt32) &&& (255 : Int32)) / (5 : Int32)) * (5 : Int32))), .val (.int (Int32.ofNat (lf ia))), .val (.int (Int32.ofNat (lf ib)))] [(.int (Int32.ofNat (lf ib))), (.int (Int32.ofNat (lf ia))), (.ref f)])) (fun _ k_ => XS.iload X0.here hx rfl (hb hby own_d3_41) rfl k_) ?_
    obtain ⟨cq3, kq3, q3a, q3b, q3c⟩ := isOf hZ e0 E
    obtain ⟨_, _, ⟨T3, L3, k3, n3⟩, -, X3, ⟨Lc3, hQ3, l3, y3, z3⟩, st3⟩ := X0.virtualBack hx (y := (⟨"com/example/eigenvote/eigenvote/graph/Forest", "attach", "(II)V"⟩ : MethodName)) (z := (⟨"com/example/eigenvote/eigenvote/graph/Forest", "attach", "(II)V"⟩ : MethodName)) hown (mvT hZ (hw _ (List.mem_of_getElem? (i := 16) rfl))) (mvT hZ (hw _ (List.mem_of_getElem? (i := 17) rfl))) (notFace_of_selects (args := #[]) (mvT hZ (hw _ (List.mem_of_getElem? (i := 19) rfl)))) (mvT hZ (hw _ (List.mem_of_getElem? (i := 19) rfl))) (mvT hZ (hw _ (List.mem_of_getElem? (i := 18) rfl))) (by decide) (backOf (W := 0) (own_rm4 l Z a0 hw [] f (Int32.ofNat (lf ia)) (Int32.ofNat (lf ib)) pa pf (lf ia) (lf ib) h0 n0 Z0 G V g_pa (own_of la) la rfl) hZ (hw _ (List.mem_of_getElem? (i := 20) rfl)) (hw _ (List.mem_of_getElem? (i := 2) rfl)) (by decide) (by decide)) q3a q3c (g := (mkF m 43 #[.val (.ref f), .val (.ref lb), .val (.int k), .val (.int ((k &&& (255 : Int32)) - ((k &&& (255 : Int32)) / (5 : Int32)) * (5 : Int32))), .val (.int ((((k.toUInt32 >>> ((8 : Int32) &&& 31).toUInt32).toInt32) &&& (255 : Int32)) - ((((k.toUInt32 >>> ((8 : Int32) &&& 31).toUInt32).toInt32) &&& (255 : Int32)) / (5 : Int32)) * (5 : Int32))), .val (.int (Int32.ofNat (lf ia))), .val (.int (Int32.ofNat (lf ib)))] [(.int (Int32.ofNat (lf ib))), (.int (Int32.ofNat (lf ia))), (.ref f)])) rfl (by rw [hml]; rfl) (Steps.refl _) (argsL := [(.int (Int32.ofNat (lf ia))), (.int (Int32.ofNat (lf ib)))]) (rest := []) (lenOf own_pd0 rfl) rfl (by show 2 * 0 + _ ≤ _; exact Nat.le_of_eq rfl) (hb hby own_d3_43) (fun _ _ => ⟨rfl, e0, (by decide : 0 + 0 ≤ _), (by decide : 0 + 0 ≤ _)⟩)
    dsimp only [Pt.U, Pt.locs, Pt.cells, Pt.slots] at X3 l3 y3 z3 st3 hQ3
    subst l3 y3 z3
    obtain ⟨h3, e3⟩ : ∃ h, T3.heap = h := ⟨_, rfl⟩
    rw [e3] at hQ3
    obtain ⟨rfl, N3q, K3, V3⟩ := hQ3
    have N3 := Fr.app N0 N3q
    refine own_t (T' := T3) (g' := (mkF m 46 #[.val (.ref f), .val (.ref lb), .val (.int k), .val (.int ((k &&& (255 : Int32)) - ((k &&& (255 : Int32)) / (5 : Int32)) * (5 : Int32))), .val (.int ((((k.toUInt32 >>> ((8 : Int32) &&& 31).toUInt32).toInt32) &&& (255 : Int32)) - ((((k.toUInt32 >>> ((8 : Int32) &&& 31).toUInt32).toInt32) &&& (255 : Int32)) / (5 : Int32)) * (5 : Int32))), .val (.int (Int32.ofNat (lf ia))), .val (.int (Int32.ofNat (lf ib)))] [])) st3 ?_
    have Z3 : n0 ≤ h3.size := Nat.le_trans Z0 K3.1
    have VL3 := own_Ar_keep VL K3 (by simpa using ne)
    refine own_w (T' := T3) (g' := (mkF m 47 #[.val (.ref f), .val (.ref lb), .val (.int k), .val (.int ((k &&& (255 : Int32)) - ((k &&& (255 : Int32)) / (5 : Int32)) * (5 : Int32))), .val (.int ((((k.toUInt32 >>> ((8 : Int32) &&& 31).toUInt32).toInt32) &&& (255 : Int32)) - ((((k.toUInt32 >>> ((8 : Int32) &&& 31).toUInt32).toInt32) &&& (255 : Int32)) / (5 : Int32)) * (5 : Int32))), .val (.int (Int32.ofNat (lf ia))), .val (.int (Int32.ofNat (lf ib)))] [(.ref lb)])) (fun _ k_ => XS.aloadN X3.here hx rfl (hb hby own_d3_46) rfl rfl k_) ?_
    refine own_w (T' := T3) (g' := (mkF m 49 #[.val (.ref f), .val (.ref lb), .val (.int k), .val (.int ((k &&& (255 : Int32)) - ((k &&& (255 : Int32)) / (5 : Int32)) * (5 : Int32))), .val (.int ((((k.toUInt32 >>> ((8 : Int32) &&& 31).toUInt32).toInt32) &&& (255 : Int32)) - ((((k.toUInt32 >>> ((8 : Int32) &&& 31).toUInt32).toInt32) &&& (255 : Int32)) / (5 : Int32)) * (5 : Int32))), .val (.int (Int32.ofNat (lf ia))), .val (.int (Int32.ofNat (lf ib)))] [(.int (Int32.ofNat (lf ia))), (.ref lb)])) (fun _ k_ => XS.iload X3.here hx rfl (hb hby own_d3_47) rfl k_) ?_
    refine own_w (T' := T3) (g' := (mkF m 51 #[.val (.ref f), .val (.ref lb), .val (.int k), .val (.int ((k &&& (255 : Int32)) - ((k &&& (255 : Int32)) / (5 : Int32)) * (5 : Int32))), .val (.int ((((k.toUInt32 >>> ((8 : Int32) &&& 31).toUInt32).toInt32) &&& (255 : Int32)) - ((((k.toUInt32 >>> ((8 : Int32) &&& 31).toUInt32).toInt32) &&& (255 : Int32)) / (5 : Int32)) * (5 : Int32))), .val (.int (Int32.ofNat (lf ia))), .val (.int (Int32.ofNat (lf ib)))] [(.int (Int32.ofNat (lf ib))), (.int (Int32.ofNat (lf ia))), (.ref lb)])) (fun _ k_ => XS.iload X3.here hx rfl (hb hby own_d3_49) rfl k_) ?_
    obtain ⟨_, _, ⟨T4, L4, k4, n4⟩, -, X4, ⟨Lc4, hQ4, l4, y4, z4⟩, st4⟩ := Jvm.LawKit.callS X3 hx (y := (⟨"com/example/eigenvote/eigenvote/graph/ForestRootPinLaw", "relabel", "([III)V"⟩ : MethodName)) hown (mvT hZ (hw _ (List.mem_of_getElem? (i := 21) rfl))) (mvT hZ (hw _ (List.mem_of_getElem? (i := 22) rfl))) (mvT hZ (hw _ (List.mem_of_getElem? (i := 14) rfl))) (mvT hZ (hw _ (List.mem_of_getElem? (i := 23) rfl))) (by decide) (backOf (W := 0) (own_rm5 l Z a0 hw [] lb (Int32.ofNat (lf ia)) (Int32.ofNat (lf ib)) lf (lf ia) (lf ib) h3 n0 Z3 VL3 g_lb la (fun i hi => (I i hi).2.1) rfl rfl) hZ (hw _ (List.mem_of_getElem? (i := 23) rfl)) (hw _ (List.mem_of_getElem? (i := 14) rfl)) (by decide) (by decide)) (g := (mkF m 51 #[.val (.ref f), .val (.ref lb), .val (.int k), .val (.int ((k &&& (255 : Int32)) - ((k &&& (255 : Int32)) / (5 : Int32)) * (5 : Int32))), .val (.int ((((k.toUInt32 >>> ((8 : Int32) &&& 31).toUInt32).toInt32) &&& (255 : Int32)) - ((((k.toUInt32 >>> ((8 : Int32) &&& 31).toUInt32).toInt32) &&& (255 : Int32)) / (5 : Int32)) * (5 : Int32))), .val (.int (Int32.ofNat (lf ia))), .val (.int (Int32.ofNat (lf ib)))] [(.int (Int32.ofNat (lf ib))), (.int (Int32.ofNat (lf ia))), (.ref lb)])) rfl (by rw [hml]; rfl) (argsL := [(.ref lb), (.int (Int32.ofNat (lf ia))), (.int (Int32.ofNat (lf ib)))]) (rest := []) (lenOf own_pd1 rfl) rfl (by show 2 * 0 + _ ≤ _; exact Nat.le_of_eq rfl) (hb hby own_d3_51) (fun _ _ => ⟨rfl, e3, (by decide : 0 + 0 ≤ _), (by decide : 0 + 0 ≤ _)⟩)
    dsimp only [Pt.U, Pt.locs, Pt.cells, Pt.slots] at X4 l4 y4 z4 st4 hQ4
    subst l4 y4 z4
    obtain ⟨h4, e4⟩ : ∃ h, T4.heap = h := ⟨_, rfl⟩
    rw [e4] at hQ4
    obtain ⟨rfl, N4q, K4, VL4⟩ := hQ4
    have N4 := Fr.app N3 N4q
    refine own_w (T' := T4) (g' := (mkF m 54 #[.val (.ref f), .val (.ref lb), .val (.int k), .val (.int ((k &&& (255 : Int32)) - ((k &&& (255 : Int32)) / (5 : Int32)) * (5 : Int32))), .val (.int ((((k.toUInt32 >>> ((8 : Int32) &&& 31).toUInt32).toInt32) &&& (255 : Int32)) - ((((k.toUInt32 >>> ((8 : Int32) &&& 31).toUInt32).toInt32) &&& (255 : Int32)) / (5 : Int32)) * (5 : Int32))), .val (.int (Int32.ofNat (lf ia))), .val (.int (Int32.ofNat (lf ib)))] [])) st4 ?_
    have V4 := own_Ar_keep V3 K4 (by simpa using ne.symm)
    obtain ⟨fs, hr, hrun, hended, hW, hsame⟩ := X4.leave (v := none) (fun _ => rfl)
    exact ⟨_, _, X4.returnOut hx Bd.returns (hb hby own_d3_54) hr, hrun, hended, _, _, rfl, (by show own_Q3 Z f lb k pa pf lf rf B h0 n0 _ T4.heap _; rw [e4]; exact ⟨rfl, N4, (Keep.trans (ws := [pa, lb]) (Keep.trans (Keep.refl h0 [pa, lb]) K3 (fun x hx => Or.inl (by simp_all))) K4 (fun x hx => Or.inl (by simp_all))), ⟨_, _, _, _, own_link I ia5 ib5 hne, V4, VL4⟩⟩), ⟨_, rfl⟩, hW, hsame.mono (by decide) (by decide)⟩
theorem own_pd2 : parseMethodDescriptor "(I)V" = some ⟨[.int], none⟩ := by decide +kernel
theorem own_pd3 : parseMethodDescriptor "(Lcom/example/eigenvote/eigenvote/graph/Forest;[II)V" = some ⟨[(.object "com/example/eigenvote/eigenvote/graph/Forest"), (.array .int), .int], none⟩ := by decide +kernel
theorem own_idx0 (s : Int32) : ∃ i : Nat, ((s &&& (2147483647 : Int32)) - (s &&& (2147483647 : Int32)) / (5 : Int32) * (5 : Int32)).toInt = (i : Int) ∧ i < 5 := by
  have h := own_rem (x := s &&& (2147483647 : Int32)) (y := (5 : Int32)) 5 (by decide) (by decide) (c_and _ 2147483647 (by decide)).1
  exact ⟨_, by rw [h]; exact (Int.toNat_of_nonneg (by omega)).symm, by omega⟩
theorem own_idx4 (d : Int32) : ∃ i : Nat, ((1 : Int32) + ((d &&& (2147483647 : Int32)) - (d &&& (2147483647 : Int32)) / (4 : Int32) * (4 : Int32))).toInt = (i : Int) ∧ i < 5 := by
  have h := own_rem (x := d &&& (2147483647 : Int32)) (y := (4 : Int32)) 4 (by decide) (by decide) (c_and _ 2147483647 (by decide)).1
  generalize (d &&& (2147483647 : Int32)) - (d &&& (2147483647 : Int32)) / (4 : Int32) * (4 : Int32) = z at *
  have h2 := c_iadd 1 z
  have e : (1 : Int32).toInt = 1 := by decide
  have l1 := (1 + z).toInt_lt; have l2 := (1 + z).le_toInt
  refine ⟨(1 + z).toInt.toNat, by omega, by omega⟩
theorem own_idxk {s t c : Int32} {i j : Nat} (hs : s.toInt = (i : Int)) (hi : i < 5) (ht : t.toInt = (j : Int)) (hj : j < 5) (k : Nat) (hc : c.toInt = (k : Int)) (hk : k < 5) : ∃ i : Nat, ((s + c * t) - (s + c * t) / (5 : Int32) * (5 : Int32)).toInt = (i : Int) ∧ i < 5 := by
  have m := c_imul c t
  have a := c_iadd s (c * t)
  have l1 := (c * t).toInt_lt; have l2 := (c * t).le_toInt; have l3 := (s + c * t).toInt_lt; have l4 := (s + c * t).le_toInt
  rw [hc, ht] at m
  have p0 : 0 ≤ (k : Int) * j := Int.mul_nonneg (by omega) (by omega)
  have p1 : (k : Int) * j ≤ 4 * 4 := Int.mul_le_mul (by omega) (by omega) (by omega) (by omega)
  generalize (k : Int) * j = P at *
  have h := own_rem (x := s + c * t) (y := (5 : Int32)) 5 (by decide) (by decide) (by omega)
  exact ⟨_, by rw [h]; exact (Int.toNat_of_nonneg (by omega)).symm, by omega⟩
theorem own_pd4 : parseMethodDescriptor "(I)I" = some ⟨[.int], some .int⟩ := by decide +kernel
theorem own_rm0_ef (m : MethodId) (k1' : Int32) (k2' : Int32) (k3' : Int32) (k4' : Int32) (s' : Int32) (d' : Int32) : entryFrame m #[(.int k1'), (.int k2'), (.int k3'), (.int k4'), (.int s'), (.int d')] maxLocals = mkF m 0 #[.val (.int k1'), .val (.int k2'), .val (.int k3'), .val (.int k4'), .val (.int s'), .val (.int d'), .unset, .unset, .unset, .unset, .unset, .unset, .unset, .unset, .unset, .unset] [] := by first | (simp [entryFrame, mkF, argsToLocals, Value.category, maxLocals]; done) | rfl
def own_Q0 (Z : State) (k1' : Int32) (k2' : Int32) (k3' : Int32) (k4' : Int32) (s' : Int32) (d' : Int32) (h0 : Heap) (n0 : Nat) (v_ : Option Value) (h : Heap) (L_ : List Loc) : Prop := v_ = some (.int (1 : Int32)) ∧ Fr n0 L_
set_option maxRecDepth 65536 in
set_option maxHeartbeats 40000000 in
theorem own_rm0 (l : Launch) (Z : State) (a0 : Array Value) (hw : ∀ d ∈ tables_1, d.before a0 Z = true) (ws : List Jvm.Cond) (k1' : Int32) (k2' : Int32) (k3' : Int32) (k4' : Int32) (s' : Int32) (d' : Int32) (h0 : Heap) (n0 : Nat) (Z0 : n0 ≤ h0.size)  :
    MetFree l x (head1 (Jvm.Cond.code x code maxLocals ret :: ws) room_1) (fun a_ U_ => a_ = #[(.int k1'), (.int k2'), (.int k3'), (.int k4'), (.int s'), (.int d')] ∧ Z.Warmed39 U_.vm ∧ U_.heap = h0) (fun _ _ _ _ _ => True) (fun _ U_ o_ V_ => ∃ v_ L_, o_ = .returned v_ ∧ own_Q0 Z k1' k2' k3' k4' s' d' h0 n0 v_ V_.heap L_ ∧ FrameEnd U_ o_ V_ L_ room_1.cells room_1.slots) := by
  refine MetFree.of_bodySF (plainFor_of_name own_pn_com_example_eigenvote_eigenvote_graph_ForestRootPinLaw) hisR ?_
  intro p e s m args below meth c s₁ Bd hml0 hP hK
  obtain ⟨rfl, hZ, hh⟩ := hP
  have hx := Bd.exec
  have hby := Bd.bytes
  have hml : c.maxLocals = 16 := hml0
  have hown : s.vm.findClass "com/example/eigenvote/eigenvote/graph/ForestRootPinLaw" = some m.cls := findClass_of_methodNamed Bd.named
  have hnm := (name_of_methodNamed Bd.named Bd.method).1
  have X0 : Stand p l e room_1 s m #[(.int k1'), (.int k2'), (.int k3'), (.int k4'), (.int s'), (.int d')] below meth c s₁ [] 0 0 := Stand.of_body Bd
  have e0 : s₁.heap = h0 := by rw [← hh, Bd.state]; rfl
  have N0 := Fr.nil n0
  show own_G p e below s (own_Q0 Z k1' k2' k3' k4' s' d' h0 n0) room_1.cells room_1.slots s₁ (entryFrame m #[(.int k1'), (.int k2'), (.int k3'), (.int k4'), (.int s'), (.int d')] maxLocals)
  rw [own_rm0_ef]
  obtain ⟨T1, h1, X1, e1, E1, A1, D1, -, st1⟩ := newO X0 hx hZ hown (hw _ (List.mem_of_getElem? (i := 0) rfl)) (hw _ (List.mem_of_getElem? (i := 1) rfl)) (hw _ (List.mem_of_getElem? (i := 2) rfl)) e0 (g := (mkF m 0 #[.val (.int k1'), .val (.int k2'), .val (.int k3'), .val (.int k4'), .val (.int s'), .val (.int d'), .unset, .unset, .unset, .unset, .unset, .unset, .unset, .unset, .unset, .unset] [])) rfl (hb hby at_0) (by decide) (by decide)
  obtain ⟨b1, gq1⟩ : ∃ z, z = h0.size := ⟨_, rfl⟩
  rw [← gq1] at A1 D1 st1
  have g_b1 : n0 ≤ b1 := Nat.le_trans Z0 (Nat.le_of_eq gq1.symm)
  have Z1 : n0 ≤ h1.size := Nat.le_trans Z0 E1.1
  refine own_w (T' := T1) (g' := (mkF m 3 #[.val (.int k1'), .val (.int k2'), .val (.int k3'), .val (.int k4'), .val (.int s'), .val (.int d'), .unset, .unset, .unset, .unset, .unset, .unset, .unset, .unset, .unset, .unset] [(.ref b1)])) st1 ?_
  refine own_w (T' := T1) (g' := (mkF m 4 #[.val (.int k1'), .val (.int k2'), .val (.int k3'), .val (.int k4'), .val (.int s'), .val (.int d'), .unset, .unset, .unset, .unset, .unset, .unset, .unset, .unset, .unset, .unset] [(.ref b1), (.ref b1)])) (fun _ k_ => XS.dup X1.here hx rfl (hb hby at_3) rfl rfl k_) ?_
  refine own_w (T' := T1) (g' := (mkF m 5 #[.val (.int k1'), .val (.int k2'), .val (.int k3'), .val (.int k4'), .val (.int s'), .val (.int d'), .unset, .unset, .unset, .unset, .unset, .unset, .unset, .unset, .unset, .unset] [(.int (5 : Int32)), (.ref b1), (.ref b1)])) (fun _ k_ => XS.iconst X1.here hx rfl (hb hby at_4) k_) ?_
  obtain ⟨_, _, ⟨T2, L2, k2, n2⟩, -, X2, ⟨Lc2, hQ2, l2, y2, z2⟩, st2⟩ := X1.specialBack hx (y := (⟨"com/example/eigenvote/eigenvote/graph/Forest", "<init>", "(I)V"⟩ : MethodName)) rfl hown (mvT hZ (hw _ (List.mem_of_getElem? (i := 3) rfl))) (mvT hZ (hw _ (List.mem_of_getElem? (i := 4) rfl))) (mvT hZ (hw _ (List.mem_of_getElem? (i := 5) rfl))) (by decide) (backOf (W := 1) (own_rm1 l Z a0 hw [] b1 _ h1 n0 Z1 (D1 (Or.inr (hw _ (List.mem_of_getElem? (i := 11) rfl))) (ty := (.array .int)) (by decide)) A1 g_b1) hZ (hw _ (List.mem_of_getElem? (i := 5) rfl)) (hw _ (List.mem_of_getElem? (i := 2) rfl)) (by decide) (by decide)) (g := (mkF m 5 #[.val (.int k1'), .val (.int k2'), .val (.int k3'), .val (.int k4'), .val (.int s'), .val (.int d'), .unset, .unset, .unset, .unset, .unset, .unset, .unset, .unset, .unset, .unset] [(.int (5 : Int32)), (.ref b1), (.ref b1)])) rfl (by rw [hml]; rfl) (Steps.refl _) (a := b1) (argsL := [(.int (5 : Int32))]) (rest := [(.ref b1)]) (lenOf own_pd2 rfl) rfl (by show 2 * 0 + _ ≤ _; exact Nat.le_of_eq rfl) (hb hby at_5) (fun _ _ => ⟨rfl, e1, (by decide : 1 + 1 ≤ _), (by decide : 1 + 5 ≤ _)⟩)
  dsimp only [Pt.U, Pt.locs, Pt.cells, Pt.slots] at X2 l2 y2 z2 st2 hQ2
  subst l2 y2 z2
  obtain ⟨h2, e2⟩ : ∃ h, T2.heap = h := ⟨_, rfl⟩
  rw [e2] at hQ2
  obtain ⟨rfl, N2q, K2, ⟨pa, sz, G2, V2⟩⟩ := hQ2
  have N2 := Fr.app N0 N2q
  refine own_t (T' := T2) (g' := (mkF m 8 #[.val (.int k1'), .val (.int k2'), .val (.int k3'), .val (.int k4'), .val (.int s'), .val (.int d'), .unset, .unset, .unset, .unset, .unset, .unset, .unset, .unset, .unset, .unset] [(.ref b1)])) st2 ?_
  have Z2 : n0 ≤ h2.size := Nat.le_trans Z1 K2.1
  have g_pa : n0 ≤ pa := Nat.le_trans Z1 sz
  have ne_fp : b1 ≠ pa := Nat.ne_of_lt (Nat.lt_of_lt_of_le A1.lt sz)
  have X_2 := A1.keep K2
  refine own_w (T' := T2) (g' := (mkF m 10 #[.val (.int k1'), .val (.int k2'), .val (.int k3'), .val (.int k4'), .val (.int s'), .val (.int d'), .val (.ref b1), .unset, .unset, .unset, .unset, .unset, .unset, .unset, .unset, .unset] [])) (fun _ k_ => XS.astore X2.here hx rfl (hb hby at_8) rfl rfl (l' := #[.val (.int k1'), .val (.int k2'), .val (.int k3'), .val (.int k4'), .val (.int s'), .val (.int d'), .val (.ref b1), .unset, .unset, .unset, .unset, .unset, .unset, .unset, .unset, .unset]) rfl k_) ?_
  refine own_w (T' := T2) (g' := (mkF m 11 #[.val (.int k1'), .val (.int k2'), .val (.int k3'), .val (.int k4'), .val (.int s'), .val (.int d'), .val (.ref b1), .unset, .unset, .unset, .unset, .unset, .unset, .unset, .unset, .unset] [(.int (5 : Int32))])) (fun _ k_ => XS.iconst X2.here hx rfl (hb hby at_10) k_) ?_
  obtain ⟨T3, h3, k3, X3, e3, E3, A3, st3⟩ := newP X2 hx hZ (hw _ (List.mem_of_getElem? (i := 9) rfl)) e2 (g := (mkF m 11 #[.val (.int k1'), .val (.int k2'), .val (.int k3'), .val (.int k4'), .val (.int s'), .val (.int d'), .val (.ref b1), .unset, .unset, .unset, .unset, .unset, .unset, .unset, .unset, .unset] [(.int (5 : Int32))])) rfl (hb hby at_11) rfl (by decide) (cap := 5) (by decide) (by decide) (by decide) (by decide)
  obtain ⟨b3, gq3⟩ : ∃ z, z = h2.size := ⟨_, rfl⟩
  rw [← gq3] at A3 st3
  have V_b3 := own_Ar_new A3 rfl (k := 5) rfl
  have g_b3 : n0 ≤ b3 := Nat.le_trans Z2 (Nat.le_of_eq gq3.symm)
  have Z3 : n0 ≤ h3.size := Nat.le_trans Z2 E3.1
  refine own_w (T' := T3) (g' := (mkF m 13 #[.val (.int k1'), .val (.int k2'), .val (.int k3'), .val (.int k4'), .val (.int s'), .val (.int d'), .val (.ref b1), .unset, .unset, .unset, .unset, .unset, .unset, .unset, .unset, .unset] [(.ref b3)])) st3 ?_
  have ne_fl : b1 ≠ b3 := Nat.ne_of_lt (Nat.lt_of_lt_of_le G2.lt (Nat.le_of_eq gq3.symm))
  have ne_lp : b3 ≠ pa := Ne.symm (Nat.ne_of_lt (Nat.lt_of_lt_of_le (own_Ar_lt V2) (Nat.le_of_eq gq3.symm)))
  have G3 := G2.ext E3
  have V3 := own_Ar_ext V2 E3
  have X_3 := X_2.ext E3
  refine own_w (T' := T3) (g' := (mkF m 14 #[.val (.int k1'), .val (.int k2'), .val (.int k3'), .val (.int k4'), .val (.int s'), .val (.int d'), .val (.ref b1), .unset, .unset, .unset, .unset, .unset, .unset, .unset, .unset, .unset] [(.ref b3), (.ref b3)])) (fun _ k_ => XS.dup X3.here hx rfl (hb hby at_13) rfl rfl k_) ?_
  refine own_w (T' := T3) (g' := (mkF m 15 #[.val (.int k1'), .val (.int k2'), .val (.int k3'), .val (.int k4'), .val (.int s'), .val (.int d'), .val (.ref b1), .unset, .unset, .unset, .unset, .unset, .unset, .unset, .unset, .unset] [(.int (0 : Int32)), (.ref b3), (.ref b3)])) (fun _ k_ => XS.iconst X3.here hx rfl (hb hby at_14) k_) ?_
  refine own_w (T' := T3) (g' := (mkF m 16 #[.val (.int k1'), .val (.int k2'), .val (.int k3'), .val (.int k4'), .val (.int s'), .val (.int d'), .val (.ref b1), .unset, .unset, .unset, .unset, .unset, .unset, .unset, .unset, .unset] [(.int (0 : Int32)), (.int (0 : Int32)), (.ref b3), (.ref b3)])) (fun _ k_ => XS.iconst X3.here hx rfl (hb hby at_15) k_) ?_
  obtain ⟨cl4, Ar4, hs4⟩ := id V_b3
  obtain ⟨T4, h4, X4, e4, W4, st4⟩ := stI X3 hx hZ e3 Ar4 (j := (0 : Int32)) (own_Ar_in (i := 0) hs4 (by decide) (by simp)) (g := (mkF m 16 #[.val (.int k1'), .val (.int k2'), .val (.int k3'), .val (.int k4'), .val (.int s'), .val (.int d'), .val (.ref b1), .unset, .unset, .unset, .unset, .unset, .unset, .unset, .unset, .unset] [(.int (0 : Int32)), (.int (0 : Int32)), (.ref b3), (.ref b3)])) rfl rfl (hb hby at_16)
  have V4 := own_Ar_set (i := 0) V_b3 W4 (by decide) rfl
  have N4 := Fr.snoc X4 N2 g_b3
  have Z4 : n0 ≤ h4.size := Nat.le_trans Z3 (Keep.of_wr W4).1
  refine own_w (T' := T4) (g' := (mkF m 17 #[.val (.int k1'), .val (.int k2'), .val (.int k3'), .val (.int k4'), .val (.int s'), .val (.int d'), .val (.ref b1), .unset, .unset, .unset, .unset, .unset, .unset, .unset, .unset, .unset] [(.ref b3)])) st4 ?_
  have G4 := G3.other W4 (Or.inl ne_fl)
  have P4 := own_Ar_other V3 W4 ne_lp.symm
  have X_4 := X_3.wr W4
  refine own_w (T' := T4) (g' := (mkF m 18 #[.val (.int k1'), .val (.int k2'), .val (.int k3'), .val (.int k4'), .val (.int s'), .val (.int d'), .val (.ref b1), .unset, .unset, .unset, .unset, .unset, .unset, .unset, .unset, .unset] [(.ref b3), (.ref b3)])) (fun _ k_ => XS.dup X4.here hx rfl (hb hby at_17) rfl rfl k_) ?_
  refine own_w (T' := T4) (g' := (mkF m 19 #[.val (.int k1'), .val (.int k2'), .val (.int k3'), .val (.int k4'), .val (.int s'), .val (.int d'), .val (.ref b1), .unset, .unset, .unset, .unset, .unset, .unset, .unset, .unset, .unset] [(.int (1 : Int32)), (.ref b3), (.ref b3)])) (fun _ k_ => XS.iconst X4.here hx rfl (hb hby at_18) k_) ?_
  refine own_w (T' := T4) (g' := (mkF m 20 #[.val (.int k1'), .val (.int k2'), .val (.int k3'), .val (.int k4'), .val (.int s'), .val (.int d'), .val (.ref b1), .unset, .unset, .unset, .unset, .unset, .unset, .unset, .unset, .unset] [(.int (1 : Int32)), (.int (1 : Int32)), (.ref b3), (.ref b3)])) (fun _ k_ => XS.iconst X4.here hx rfl (hb hby at_19) k_) ?_
  obtain ⟨cl5, Ar5, hs5⟩ := id V4
  obtain ⟨T5, h5, X5, e5, W5, st5⟩ := stI X4 hx hZ e4 Ar5 (j := (1 : Int32)) (own_Ar_in (i := 1) hs5 (by decide) (by simp)) (g := (mkF m 20 #[.val (.int k1'), .val (.int k2'), .val (.int k3'), .val (.int k4'), .val (.int s'), .val (.int d'), .val (.ref b1), .unset, .unset, .unset, .unset, .unset, .unset, .unset, .unset, .unset] [(.int (1 : Int32)), (.int (1 : Int32)), (.ref b3), (.ref b3)])) rfl rfl (hb hby at_20)
  have V5 := own_Ar_set (i := 1) V4 W5 (by decide) rfl
  have N5 := Fr.snoc X5 N4 g_b3
  have Z5 : n0 ≤ h5.size := Nat.le_trans Z4 (Keep.of_wr W5).1
  refine own_w (T' := T5) (g' := (mkF m 21 #[.val (.int k1'), .val (.int k2'), .val (.int k3'), .val (.int k4'), .val (.int s'), .val (.int d'), .val (.ref b1), .unset, .unset, .unset, .unset, .unset, .unset, .unset, .unset, .unset] [(.ref b3)])) st5 ?_
  have G5 := G4.other W5 (Or.inl ne_fl)
  have P5 := own_Ar_other P4 W5 ne_lp.symm
  have X_5 := X_4.wr W5
  refine own_w (T' := T5) (g' := (mkF m 22 #[.val (.int k1'), .val (.int k2'), .val (.int k3'), .val (.int k4'), .val (.int s'), .val (.int d'), .val (.ref b1), .unset, .unset, .unset, .unset, .unset, .unset, .unset, .unset, .unset] [(.ref b3), (.ref b3)])) (fun _ k_ => XS.dup X5.here hx rfl (hb hby at_21) rfl rfl k_) ?_
  refine own_w (T' := T5) (g' := (mkF m 23 #[.val (.int k1'), .val (.int k2'), .val (.int k3'), .val (.int k4'), .val (.int s'), .val (.int d'), .val (.ref b1), .unset, .unset, .unset, .unset, .unset, .unset, .unset, .unset, .unset] [(.int (2 : Int32)), (.ref b3), (.ref b3)])) (fun _ k_ => XS.iconst X5.here hx rfl (hb hby at_22) k_) ?_
  refine own_w (T' := T5) (g' := (mkF m 24 #[.val (.int k1'), .val (.int k2'), .val (.int k3'), .val (.int k4'), .val (.int s'), .val (.int d'), .val (.ref b1), .unset, .unset, .unset, .unset, .unset, .unset, .unset, .unset, .unset] [(.int (2 : Int32)), (.int (2 : Int32)), (.ref b3), (.ref b3)])) (fun _ k_ => XS.iconst X5.here hx rfl (hb hby at_23) k_) ?_
  obtain ⟨cl6, Ar6, hs6⟩ := id V5
  obtain ⟨T6, h6, X6, e6, W6, st6⟩ := stI X5 hx hZ e5 Ar6 (j := (2 : Int32)) (own_Ar_in (i := 2) hs6 (by decide) (by simp)) (g := (mkF m 24 #[.val (.int k1'), .val (.int k2'), .val (.int k3'), .val (.int k4'), .val (.int s'), .val (.int d'), .val (.ref b1), .unset, .unset, .unset, .unset, .unset, .unset, .unset, .unset, .unset] [(.int (2 : Int32)), (.int (2 : Int32)), (.ref b3), (.ref b3)])) rfl rfl (hb hby at_24)
  have V6 := own_Ar_set (i := 2) V5 W6 (by decide) rfl
  have N6 := Fr.snoc X6 N5 g_b3
  have Z6 : n0 ≤ h6.size := Nat.le_trans Z5 (Keep.of_wr W6).1
  refine own_w (T' := T6) (g' := (mkF m 25 #[.val (.int k1'), .val (.int k2'), .val (.int k3'), .val (.int k4'), .val (.int s'), .val (.int d'), .val (.ref b1), .unset, .unset, .unset, .unset, .unset, .unset, .unset, .unset, .unset] [(.ref b3)])) st6 ?_
  have G6 := G5.other W6 (Or.inl ne_fl)
  have P6 := own_Ar_other P5 W6 ne_lp.symm
  have X_6 := X_5.wr W6
  refine own_w (T' := T6) (g' := (mkF m 26 #[.val (.int k1'), .val (.int k2'), .val (.int k3'), .val (.int k4'), .val (.int s'), .val (.int d'), .val (.ref b1), .unset, .unset, .unset, .unset, .unset, .unset, .unset, .unset, .unset] [(.ref b3), (.ref b3)])) (fun _ k_ => XS.dup X6.here hx rfl (hb hby at_25) rfl rfl k_) ?_
  refine own_w (T' := T6) (g' := (mkF m 27 #[.val (.int k1'), .val (.int k2'), .val (.int k3'), .val (.int k4'), .val (.int s'), .val (.int d'), .val (.ref b1), .unset, .unset, .unset, .unset, .unset, .unset, .unset, .unset, .unset] [(.int (3 : Int32)), (.ref b3), (.ref b3)])) (fun _ k_ => XS.iconst X6.here hx rfl (hb hby at_26) k_) ?_
  refine own_w (T' := T6) (g' := (mkF m 28 #[.val (.int k1'), .val (.int k2'), .val (.int k3'), .val (.int k4'), .val (.int s'), .val (.int d'), .val (.ref b1), .unset, .unset, .unset, .unset, .unset, .unset, .unset, .unset, .unset] [(.int (3 : Int32)), (.int (3 : Int32)), (.ref b3), (.ref b3)])) (fun _ k_ => XS.iconst X6.here hx rfl (hb hby at_27) k_) ?_
  obtain ⟨cl7, Ar7, hs7⟩ := id V6
  obtain ⟨T7, h7, X7, e7, W7, st7⟩ := stI X6 hx hZ e6 Ar7 (j := (3 : Int32)) (own_Ar_in (i := 3) hs7 (by decide) (by simp)) (g := (mkF m 28 #[.val (.int k1'), .val (.int k2'), .val (.int k3'), .val (.int k4'), .val (.int s'), .val (.int d'), .val (.ref b1), .unset, .unset, .unset, .unset, .unset, .unset, .unset, .unset, .unset] [(.int (3 : Int32)), (.int (3 : Int32)), (.ref b3), (.ref b3)])) rfl rfl (hb hby at_28)
  have V7 := own_Ar_set (i := 3) V6 W7 (by decide) rfl
  have N7 := Fr.snoc X7 N6 g_b3
  have Z7 : n0 ≤ h7.size := Nat.le_trans Z6 (Keep.of_wr W7).1
  refine own_w (T' := T7) (g' := (mkF m 29 #[.val (.int k1'), .val (.int k2'), .val (.int k3'), .val (.int k4'), .val (.int s'), .val (.int d'), .val (.ref b1), .unset, .unset, .unset, .unset, .unset, .unset, .unset, .unset, .unset] [(.ref b3)])) st7 ?_
  have G7 := G6.other W7 (Or.inl ne_fl)
  have P7 := own_Ar_other P6 W7 ne_lp.symm
  have X_7 := X_6.wr W7
  refine own_w (T' := T7) (g' := (mkF m 30 #[.val (.int k1'), .val (.int k2'), .val (.int k3'), .val (.int k4'), .val (.int s'), .val (.int d'), .val (.ref b1), .unset, .unset, .unset, .unset, .unset, .unset, .unset, .unset, .unset] [(.ref b3), (.ref b3)])) (fun _ k_ => XS.dup X7.here hx rfl (hb hby at_29) rfl rfl k_) ?_
  refine own_w (T' := T7) (g' := (mkF m 31 #[.val (.int k1'), .val (.int k2'), .val (.int k3'), .val (.int k4'), .val (.int s'), .val (.int d'), .val (.ref b1), .unset, .unset, .unset, .unset, .unset, .unset, .unset, .unset, .unset] [(.int (4 : Int32)), (.ref b3), (.ref b3)])) (fun _ k_ => XS.iconst X7.here hx rfl (hb hby at_30) k_) ?_
  refine own_w (T' := T7) (g' := (mkF m 32 #[.val (.int k1'), .val (.int k2'), .val (.int k3'), .val (.int k4'), .val (.int s'), .val (.int d'), .val (.ref b1), .unset, .unset, .unset, .unset, .unset, .unset, .unset, .unset, .unset] [(.int (4 : Int32)), (.int (4 : Int32)), (.ref b3), (.ref b3)])) (fun _ k_ => XS.iconst X7.here hx rfl (hb hby at_31) k_) ?_
  obtain ⟨cl8, Ar8, hs8⟩ := id V7
  obtain ⟨T8, h8, X8, e8, W8, st8⟩ := stI X7 hx hZ e7 Ar8 (j := (4 : Int32)) (own_Ar_in (i := 4) hs8 (by decide) (by simp)) (g := (mkF m 32 #[.val (.int k1'), .val (.int k2'), .val (.int k3'), .val (.int k4'), .val (.int s'), .val (.int d'), .val (.ref b1), .unset, .unset, .unset, .unset, .unset, .unset, .unset, .unset, .unset] [(.int (4 : Int32)), (.int (4 : Int32)), (.ref b3), (.ref b3)])) rfl rfl (hb hby at_32)
  have V8 := own_Ar_set (i := 4) V7 W8 (by decide) rfl
  have N8 := Fr.snoc X8 N7 g_b3
  have Z8 : n0 ≤ h8.size := Nat.le_trans Z7 (Keep.of_wr W8).1
  refine own_w (T' := T8) (g' := (mkF m 33 #[.val (.int k1'), .val (.int k2'), .val (.int k3'), .val (.int k4'), .val (.int s'), .val (.int d'), .val (.ref b1), .unset, .unset, .unset, .unset, .unset, .unset, .unset, .unset, .unset] [(.ref b3)])) st8 ?_
  have G8 := G7.other W8 (Or.inl ne_fl)
  have P8 := own_Ar_other P7 W8 ne_lp.symm
  have X_8 := X_7.wr W8
  have VL0 := own_id ▸ V8
  refine own_w (T' := T8) (g' := (mkF m 35 #[.val (.int k1'), .val (.int k2'), .val (.int k3'), .val (.int k4'), .val (.int s'), .val (.int d'), .val (.ref b1), .val (.ref b3), .unset, .unset, .unset, .unset, .unset, .unset, .unset, .unset] [])) (fun _ k_ => XS.astore X8.here hx rfl (hb hby at_33) rfl rfl (l' := #[.val (.int k1'), .val (.int k2'), .val (.int k3'), .val (.int k4'), .val (.int s'), .val (.int d'), .val (.ref b1), .val (.ref b3), .unset, .unset, .unset, .unset, .unset, .unset, .unset, .unset]) rfl k_) ?_
  refine own_w (T' := T8) (g' := (mkF m 37 #[.val (.int k1'), .val (.int k2'), .val (.int k3'), .val (.int k4'), .val (.int s'), .val (.int d'), .val (.ref b1), .val (.ref b3), .unset, .unset, .unset, .unset, .unset, .unset, .unset, .unset] [(.ref b1)])) (fun _ k_ => XS.aload X8.here hx rfl (hb hby at_35) rfl rfl k_) ?_
  refine own_w (T' := T8) (g' := (mkF m 39 #[.val (.int k1'), .val (.int k2'), .val (.int k3'), .val (.int k4'), .val (.int s'), .val (.int d'), .val (.ref b1), .val (.ref b3), .unset, .unset, .unset, .unset, .unset, .unset, .unset, .unset] [(.ref b3), (.ref b1)])) (fun _ k_ => XS.aload X8.here hx rfl (hb hby at_37) rfl rfl k_) ?_
  refine own_w (T' := T8) (g' := (mkF m 40 #[.val (.int k1'), .val (.int k2'), .val (.int k3'), .val (.int k4'), .val (.int s'), .val (.int d'), .val (.ref b1), .val (.ref b3), .unset, .unset, .unset, .unset, .unset, .unset, .unset, .unset] [(.int k1'), (.ref b3), (.ref b1)])) (fun _ k_ => XS.iloadN X8.here hx rfl (hb hby at_39) rfl k_) ?_
  obtain ⟨_, _, ⟨T9, L9, k9, n9⟩, -, X9, ⟨Lc9, hQ9, l9, y9, z9⟩, st9⟩ := Jvm.LawKit.callS X8 hx (y := (⟨"com/example/eigenvote/eigenvote/graph/ForestRootPinLaw", "join", "(Lcom/example/eigenvote/eigenvote/graph/Forest;[II)V"⟩ : MethodName)) hown (mvT hZ (hw _ (List.mem_of_getElem? (i := 12) rfl))) (mvT hZ (hw _ (List.mem_of_getElem? (i := 13) rfl))) (mvT hZ (hw _ (List.mem_of_getElem? (i := 14) rfl))) (mvT hZ (hw _ (List.mem_of_getElem? (i := 15) rfl))) (by decide) (backOf (W := 0) (own_rm3 l Z a0 hw [] b1 b3 k1' pa _ _ _ _ h8 n0 Z8 G8 X_8 P8 VL0 g_pa g_b3 ne_lp own_inv0) hZ (hw _ (List.mem_of_getElem? (i := 15) rfl)) (hw _ (List.mem_of_getElem? (i := 14) rfl)) (by decide) (by decide)) (g := (mkF m 40 #[.val (.int k1'), .val (.int k2'), .val (.int k3'), .val (.int k4'), .val (.int s'), .val (.int d'), .val (.ref b1), .val (.ref b3), .unset, .unset, .unset, .unset, .unset, .unset, .unset, .unset] [(.int k1'), (.ref b3), (.ref b1)])) rfl (by rw [hml]; rfl) (argsL := [(.ref b1), (.ref b3), (.int k1')]) (rest := []) (lenOf own_pd3 rfl) rfl (by show 2 * 0 + _ ≤ _; exact Nat.le_of_eq rfl) (hb hby at_40) (fun _ _ => ⟨rfl, e8, (by decide : 3 + 0 ≤ _), (by decide : 11 + 0 ≤ _)⟩)
  dsimp only [Pt.U, Pt.locs, Pt.cells, Pt.slots] at X9 l9 y9 z9 st9 hQ9
  subst l9 y9 z9
  obtain ⟨h9, e9⟩ : ∃ h, T9.heap = h := ⟨_, rfl⟩
  rw [e9] at hQ9
  obtain ⟨rfl, N9q, K9, ⟨p9, l9, r9, B9, I9, V9, VL9⟩⟩ := hQ9
  have N9 := Fr.app N8 N9q
  refine own_w (T' := T9) (g' := (mkF m 43 #[.val (.int k1'), .val (.int k2'), .val (.int k3'), .val (.int k4'), .val (.int s'), .val (.int d'), .val (.ref b1), .val (.ref b3), .unset, .unset, .unset, .unset, .unset, .unset, .unset, .unset] [])) st9 ?_
  have Z9 : n0 ≤ h9.size := Nat.le_trans Z8 K9.1
  have G9 := G8.keep K9 (by simp [ne_fp, ne_fl])
  have X_9 := X_8.keep K9
  refine own_w (T' := T9) (g' := (mkF m 45 #[.val (.int k1'), .val (.int k2'), .val (.int k3'), .val (.int k4'), .val (.int s'), .val (.int d'), .val (.ref b1), .val (.ref b3), .unset, .unset, .unset, .unset, .unset, .unset, .unset, .unset] [(.ref b1)])) (fun _ k_ => XS.aload X9.here hx rfl (hb hby at_43) rfl rfl k_) ?_
  refine own_w (T' := T9) (g' := (mkF m 47 #[.val (.int k1'), .val (.int k2'), .val (.int k3'), .val (.int k4'), .val (.int s'), .val (.int d'), .val (.ref b1), .val (.ref b3), .unset, .unset, .unset, .unset, .unset, .unset, .unset, .unset] [(.ref b3), (.ref b1)])) (fun _ k_ => XS.aload X9.here hx rfl (hb hby at_45) rfl rfl k_) ?_
  refine own_w (T' := T9) (g' := (mkF m 48 #[.val (.int k1'), .val (.int k2'), .val (.int k3'), .val (.int k4'), .val (.int s'), .val (.int d'), .val (.ref b1), .val (.ref b3), .unset, .unset, .unset, .unset, .unset, .unset, .unset, .unset] [(.int k2'), (.ref b3), (.ref b1)])) (fun _ k_ => XS.iloadN X9.here hx rfl (hb hby at_47) rfl k_) ?_
  obtain ⟨_, _, ⟨T10, L10, k10, n10⟩, -, X10, ⟨Lc10, hQ10, l10, y10, z10⟩, st10⟩ := Jvm.LawKit.callS X9 hx (y := (⟨"com/example/eigenvote/eigenvote/graph/ForestRootPinLaw", "join", "(Lcom/example/eigenvote/eigenvote/graph/Forest;[II)V"⟩ : MethodName)) hown (mvT hZ (hw _ (List.mem_of_getElem? (i := 12) rfl))) (mvT hZ (hw _ (List.mem_of_getElem? (i := 13) rfl))) (mvT hZ (hw _ (List.mem_of_getElem? (i := 14) rfl))) (mvT hZ (hw _ (List.mem_of_getElem? (i := 15) rfl))) (by decide) (backOf (W := 0) (own_rm3 l Z a0 hw [] b1 b3 k2' pa _ _ _ _ h9 n0 Z9 G9 X_9 V9 VL9 g_pa g_b3 ne_lp I9) hZ (hw _ (List.mem_of_getElem? (i := 15) rfl)) (hw _ (List.mem_of_getElem? (i := 14) rfl)) (by decide) (by decide)) (g := (mkF m 48 #[.val (.int k1'), .val (.int k2'), .val (.int k3'), .val (.int k4'), .val (.int s'), .val (.int d'), .val (.ref b1), .val (.ref b3), .unset, .unset, .unset, .unset, .unset, .unset, .unset, .unset] [(.int k2'), (.ref b3), (.ref b1)])) rfl (by rw [hml]; rfl) (argsL := [(.ref b1), (.ref b3), (.int k2')]) (rest := []) (lenOf own_pd3 rfl) rfl (by show 2 * 0 + _ ≤ _; exact Nat.le_of_eq rfl) (hb hby at_48) (fun _ _ => ⟨rfl, e9, (by decide : 3 + 0 ≤ _), (by decide : 11 + 0 ≤ _)⟩)
  dsimp only [Pt.U, Pt.locs, Pt.cells, Pt.slots] at X10 l10 y10 z10 st10 hQ10
  subst l10 y10 z10
  obtain ⟨h10, e10⟩ : ∃ h, T10.heap = h := ⟨_, rfl⟩
  rw [e10] at hQ10
  obtain ⟨rfl, N10q, K10, ⟨p10, l10, r10, B10, I10, V10, VL10⟩⟩ := hQ10
  have N10 := Fr.app N9 N10q
  refine own_w (T' := T10) (g' := (mkF m 51 #[.val (.int k1'), .val (.int k2'), .val (.int k3'), .val (.int k4'), .val (.int s'), .val (.int d'), .val (.ref b1), .val (.ref b3), .unset, .unset, .unset, .unset, .unset, .unset, .unset, .unset] [])) st10 ?_
  have Z10 : n0 ≤ h10.size := Nat.le_trans Z9 K10.1
  have G10 := G9.keep K10 (by simp [ne_fp, ne_fl])
  have X_10 := X_9.keep K10
  refine own_w (T' := T10) (g' := (mkF m 53 #[.val (.int k1'), .val (.int k2'), .val (.int k3'), .val (.int k4'), .val (.int s'), .val (.int d'), .val (.ref b1), .val (.ref b3), .unset, .unset, .unset, .unset, .unset, .unset, .unset, .unset] [(.ref b1)])) (fun _ k_ => XS.aload X10.here hx rfl (hb hby at_51) rfl rfl k_) ?_
  refine own_w (T' := T10) (g' := (mkF m 55 #[.val (.int k1'), .val (.int k2'), .val (.int k3'), .val (.int k4'), .val (.int s'), .val (.int d'), .val (.ref b1), .val (.ref b3), .unset, .unset, .unset, .unset, .unset, .unset, .unset, .unset] [(.ref b3), (.ref b1)])) (fun _ k_ => XS.aload X10.here hx rfl (hb hby at_53) rfl rfl k_) ?_
  refine own_w (T' := T10) (g' := (mkF m 56 #[.val (.int k1'), .val (.int k2'), .val (.int k3'), .val (.int k4'), .val (.int s'), .val (.int d'), .val (.ref b1), .val (.ref b3), .unset, .unset, .unset, .unset, .unset, .unset, .unset, .unset] [(.int k3'), (.ref b3), (.ref b1)])) (fun _ k_ => XS.iloadN X10.here hx rfl (hb hby at_55) rfl k_) ?_
  obtain ⟨_, _, ⟨T11, L11, k11, n11⟩, -, X11, ⟨Lc11, hQ11, l11, y11, z11⟩, st11⟩ := Jvm.LawKit.callS X10 hx (y := (⟨"com/example/eigenvote/eigenvote/graph/ForestRootPinLaw", "join", "(Lcom/example/eigenvote/eigenvote/graph/Forest;[II)V"⟩ : MethodName)) hown (mvT hZ (hw _ (List.mem_of_getElem? (i := 12) rfl))) (mvT hZ (hw _ (List.mem_of_getElem? (i := 13) rfl))) (mvT hZ (hw _ (List.mem_of_getElem? (i := 14) rfl))) (mvT hZ (hw _ (List.mem_of_getElem? (i := 15) rfl))) (by decide) (backOf (W := 0) (own_rm3 l Z a0 hw [] b1 b3 k3' pa _ _ _ _ h10 n0 Z10 G10 X_10 V10 VL10 g_pa g_b3 ne_lp I10) hZ (hw _ (List.mem_of_getElem? (i := 15) rfl)) (hw _ (List.mem_of_getElem? (i := 14) rfl)) (by decide) (by decide)) (g := (mkF m 56 #[.val (.int k1'), .val (.int k2'), .val (.int k3'), .val (.int k4'), .val (.int s'), .val (.int d'), .val (.ref b1), .val (.ref b3), .unset, .unset, .unset, .unset, .unset, .unset, .unset, .unset] [(.int k3'), (.ref b3), (.ref b1)])) rfl (by rw [hml]; rfl) (argsL := [(.ref b1), (.ref b3), (.int k3')]) (rest := []) (lenOf own_pd3 rfl) rfl (by show 2 * 0 + _ ≤ _; exact Nat.le_of_eq rfl) (hb hby at_56) (fun _ _ => ⟨rfl, e10, (by decide : 3 + 0 ≤ _), (by decide : 11 + 0 ≤ _)⟩)
  dsimp only [Pt.U, Pt.locs, Pt.cells, Pt.slots] at X11 l11 y11 z11 st11 hQ11
  subst l11 y11 z11
  obtain ⟨h11, e11⟩ : ∃ h, T11.heap = h := ⟨_, rfl⟩
  rw [e11] at hQ11
  obtain ⟨rfl, N11q, K11, ⟨p11, l11, r11, B11, I11, V11, VL11⟩⟩ := hQ11
  have N11 := Fr.app N10 N11q
  refine own_w (T' := T11) (g' := (mkF m 59 #[.val (.int k1'), .val (.int k2'), .val (.int k3'), .val (.int k4'), .val (.int s'), .val (.int d'), .val (.ref b1), .val (.ref b3), .unset, .unset, .unset, .unset, .unset, .unset, .unset, .unset] [])) st11 ?_
  have Z11 : n0 ≤ h11.size := Nat.le_trans Z10 K11.1
  have G11 := G10.keep K11 (by simp [ne_fp, ne_fl])
  have X_11 := X_10.keep K11
  refine own_w (T' := T11) (g' := (mkF m 61 #[.val (.int k1'), .val (.int k2'), .val (.int k3'), .val (.int k4'), .val (.int s'), .val (.int d'), .val (.ref b1), .val (.ref b3), .unset, .unset, .unset, .unset, .unset, .unset, .unset, .unset] [(.ref b1)])) (fun _ k_ => XS.aload X11.here hx rfl (hb hby at_59) rfl rfl k_) ?_
  refine own_w (T' := T11) (g' := (mkF m 63 #[.val (.int k1'), .val (.int k2'), .val (.int k3'), .val (.int k4'), .val (.int s'), .val (.int d'), .val (.ref b1), .val (.ref b3), .unset, .unset, .unset, .unset, .unset, .unset, .unset, .unset] [(.ref b3), (.ref b1)])) (fun _ k_ => XS.aload X11.here hx rfl (hb hby at_61) rfl rfl k_) ?_
  refine own_w (T' := T11) (g' := (mkF m 64 #[.val (.int k1'), .val (.int k2'), .val (.int k3'), .val (.int k4'), .val (.int s'), .val (.int d'), .val (.ref b1), .val (.ref b3), .unset, .unset, .unset, .unset, .unset, .unset, .unset, .unset] [(.int k4'), (.ref b3), (.ref b1)])) (fun _ k_ => XS.iloadN X11.here hx rfl (hb hby at_63) rfl k_) ?_
  obtain ⟨_, _, ⟨T12, L12, k12, n12⟩, -, X12, ⟨Lc12, hQ12, l12, y12, z12⟩, st12⟩ := Jvm.LawKit.callS X11 hx (y := (⟨"com/example/eigenvote/eigenvote/graph/ForestRootPinLaw", "join", "(Lcom/example/eigenvote/eigenvote/graph/Forest;[II)V"⟩ : MethodName)) hown (mvT hZ (hw _ (List.mem_of_getElem? (i := 12) rfl))) (mvT hZ (hw _ (List.mem_of_getElem? (i := 13) rfl))) (mvT hZ (hw _ (List.mem_of_getElem? (i := 14) rfl))) (mvT hZ (hw _ (List.mem_of_getElem? (i := 15) rfl))) (by decide) (backOf (W := 0) (own_rm3 l Z a0 hw [] b1 b3 k4' pa _ _ _ _ h11 n0 Z11 G11 X_11 V11 VL11 g_pa g_b3 ne_lp I11) hZ (hw _ (List.mem_of_getElem? (i := 15) rfl)) (hw _ (List.mem_of_getElem? (i := 14) rfl)) (by decide) (by decide)) (g := (mkF m 64 #[.val (.int k1'), .val (.int k2'), .val (.int k3'), .val (.int k4'), .val (.int s'), .val (.int d'), .val (.ref b1), .val (.ref b3), .unset, .unset, .unset, .unset, .unset, .unset, .unset, .unset] [(.int k4'), (.ref b3), (.ref b1)])) rfl (by rw [hml]; rfl) (argsL := [(.ref b1), (.ref b3), (.int k4')]) (rest := []) (lenOf own_pd3 rfl) rfl (by show 2 * 0 + _ ≤ _; exact Nat.le_of_eq rfl) (hb hby at_64) (fun _ _ => ⟨rfl, e11, (by decide : 3 + 0 ≤ _), (by decide : 11 + 0 ≤ _)⟩)
  dsimp only [Pt.U, Pt.locs, Pt.cells, Pt.slots] at X12 l12 y12 z12 st12 hQ12
  subst l12 y12 z12
  obtain ⟨h12, e12⟩ : ∃ h, T12.heap = h := ⟨_, rfl⟩
  rw [e12] at hQ12
  obtain ⟨rfl, N12q, K12, ⟨p12, l12, r12, B12, I12, V12, VL12⟩⟩ := hQ12
  have N12 := Fr.app N11 N12q
  refine own_w (T' := T12) (g' := (mkF m 67 #[.val (.int k1'), .val (.int k2'), .val (.int k3'), .val (.int k4'), .val (.int s'), .val (.int d'), .val (.ref b1), .val (.ref b3), .unset, .unset, .unset, .unset, .unset, .unset, .unset, .unset] [])) st12 ?_
  have Z12 : n0 ≤ h12.size := Nat.le_trans Z11 K12.1
  have G12 := G11.keep K12 (by simp [ne_fp, ne_fl])
  have X_12 := X_11.keep K12
  refine own_w (T' := T12) (g' := (mkF m 69 #[.val (.int k1'), .val (.int k2'), .val (.int k3'), .val (.int k4'), .val (.int s'), .val (.int d'), .val (.ref b1), .val (.ref b3), .unset, .unset, .unset, .unset, .unset, .unset, .unset, .unset] [(.int s')])) (fun _ k_ => XS.iload X12.here hx rfl (hb hby at_67) rfl k_) ?_
  refine own_w (T' := T12) (g' := (mkF m 71 #[.val (.int k1'), .val (.int k2'), .val (.int k3'), .val (.int k4'), .val (.int s'), .val (.int d'), .val (.ref b1), .val (.ref b3), .unset, .unset, .unset, .unset, .unset, .unset, .unset, .unset] [(.int (2147483647 : Int32)), (.int s')])) (X12.ldcInt hx hown (mvT hZ (hw _ (List.mem_of_getElem? (i := 24) rfl))) (g := (mkF m 69 #[.val (.int k1'), .val (.int k2'), .val (.int k3'), .val (.int k4'), .val (.int s'), .val (.int d'), .val (.ref b1), .val (.ref b3), .unset, .unset, .unset, .unset, .unset, .unset, .unset, .unset] [(.int s')])) rfl (hb hby at_69)) ?_
  refine own_w (T' := T12) (g' := (mkF m 72 #[.val (.int k1'), .val (.int k2'), .val (.int k3'), .val (.int k4'), .val (.int s'), .val (.int d'), .val (.ref b1), .val (.ref b3), .unset, .unset, .unset, .unset, .unset, .unset, .unset, .unset] [(.int (s' &&& (2147483647 : Int32)))])) (fun _ k_ => XS.iand X12.here hx rfl (hb hby at_71) rfl k_) ?_
  refine own_w (T' := T12) (g' := (mkF m 73 #[.val (.int k1'), .val (.int k2'), .val (.int k3'), .val (.int k4'), .val (.int s'), .val (.int d'), .val (.ref b1), .val (.ref b3), .unset, .unset, .unset, .unset, .unset, .unset, .unset, .unset] [(.int (5 : Int32)), (.int (s' &&& (2147483647 : Int32)))])) (fun _ k_ => XS.iconst X12.here hx rfl (hb hby at_72) k_) ?_
  refine own_w (T' := T12) (g' := (mkF m 74 #[.val (.int k1'), .val (.int k2'), .val (.int k3'), .val (.int k4'), .val (.int s'), .val (.int d'), .val (.ref b1), .val (.ref b3), .unset, .unset, .unset, .unset, .unset, .unset, .unset, .unset] [(.int ((s' &&& (2147483647 : Int32)) - ((s' &&& (2147483647 : Int32)) / (5 : Int32)) * (5 : Int32)))])) (fun _ k_ => XS.irem X12.here hx rfl (hb hby at_73) rfl (by decide) k_) ?_
  refine own_w (T' := T12) (g' := (mkF m 76 #[.val (.int k1'), .val (.int k2'), .val (.int k3'), .val (.int k4'), .val (.int s'), .val (.int d'), .val (.ref b1), .val (.ref b3), .val (.int ((s' &&& (2147483647 : Int32)) - ((s' &&& (2147483647 : Int32)) / (5 : Int32)) * (5 : Int32))), .unset, .unset, .unset, .unset, .unset, .unset, .unset] [])) (fun _ k_ => XS.istore X12.here hx rfl (hb hby at_74) rfl (l' := #[.val (.int k1'), .val (.int k2'), .val (.int k3'), .val (.int k4'), .val (.int s'), .val (.int d'), .val (.ref b1), .val (.ref b3), .val (.int ((s' &&& (2147483647 : Int32)) - ((s' &&& (2147483647 : Int32)) / (5 : Int32)) * (5 : Int32))), .unset, .unset, .unset, .unset, .unset, .unset, .unset]) rfl k_) ?_
  refine own_w (T' := T12) (g' := (mkF m 77 #[.val (.int k1'), .val (.int k2'), .val (.int k3'), .val (.int k4'), .val (.int s'), .val (.int d'), .val (.ref b1), .val (.ref b3), .val (.int ((s' &&& (2147483647 : Int32)) - ((s' &&& (2147483647 : Int32)) / (5 : Int32)) * (5 : Int32))), .unset, .unset, .unset, .unset, .unset, .unset, .unset] [(.int (1 : Int32))])) (fun _ k_ => XS.iconst X12.here hx rfl (hb hby at_76) k_) ?_
  refine own_w (T' := T12) (g' := (mkF m 79 #[.val (.int k1'), .val (.int k2'), .val (.int k3'), .val (.int k4'), .val (.int s'), .val (.int d'), .val (.ref b1), .val (.ref b3), .val (.int ((s' &&& (2147483647 : Int32)) - ((s' &&& (2147483647 : Int32)) / (5 : Int32)) * (5 : Int32))), .unset, .unset, .unset, .unset, .unset, .unset, .unset] [(.int d'), (.int (1 : Int32))])) (fun _ k_ => XS.iload X12.here hx rfl (hb hby at_77) rfl k_) ?_
  refine own_w (T' := T12) (g' := (mkF m 81 #[.val (.int k1'), .val (.int k2'), .val (.int k3'), .val (.int k4'), .val (.int s'), .val (.int d'), .val (.ref b1), .val (.ref b3), .val (.int ((s' &&& (2147483647 : Int32)) - ((s' &&& (2147483647 : Int32)) / (5 : Int32)) * (5 : Int32))), .unset, .unset, .unset, .unset, .unset, .unset, .unset] [(.int (2147483647 : Int32)), (.int d'), (.int (1 : Int32))])) (X12.ldcInt hx hown (mvT hZ (hw _ (List.mem_of_getElem? (i := 24) rfl))) (g := (mkF m 79 #[.val (.int k1'), .val (.int k2'), .val (.int k3'), .val (.int k4'), .val (.int s'), .val (.int d'), .val (.ref b1), .val (.ref b3), .val (.int ((s' &&& (2147483647 : Int32)) - ((s' &&& (2147483647 : Int32)) / (5 : Int32)) * (5 : Int32))), .unset, .unset, .unset, .unset, .unset, .unset, .unset] [(.int d'), (.int (1 : Int32))])) rfl (hb hby at_79)) ?_
  refine own_w (T' := T12) (g' := (mkF m 82 #[.val (.int k1'), .val (.int k2'), .val (.int k3'), .val (.int k4'), .val (.int s'), .val (.int d'), .val (.ref b1), .val (.ref b3), .val (.int ((s' &&& (2147483647 : Int32)) - ((s' &&& (2147483647 : Int32)) / (5 : Int32)) * (5 : Int32))), .unset, .unset, .unset, .unset, .unset, .unset, .unset] [(.int (d' &&& (2147483647 : Int32))), (.int (1 : Int32))])) (fun _ k_ => XS.iand X12.here hx rfl (hb hby at_81) rfl k_) ?_
  refine own_w (T' := T12) (g' := (mkF m 83 #[.val (.int k1'), .val (.int k2'), .val (.int k3'), .val (.int k4'), .val (.int s'), .val (.int d'), .val (.ref b1), .val (.ref b3), .val (.int ((s' &&& (2147483647 : Int32)) - ((s' &&& (2147483647 : Int32)) / (5 : Int32)) * (5 : Int32))), .unset, .unset, .unset, .unset, .unset, .unset, .unset] [(.int (4 : Int32)), (.int (d' &&& (2147483647 : Int32))), (.int (1 : Int32))])) (fun _ k_ => XS.iconst X12.here hx rfl (hb hby at_82) k_) ?_
  refine own_w (T' := T12) (g' := (mkF m 84 #[.val (.int k1'), .val (.int k2'), .val (.int k3'), .val (.int k4'), .val (.int s'), .val (.int d'), .val (.ref b1), .val (.ref b3), .val (.int ((s' &&& (2147483647 : Int32)) - ((s' &&& (2147483647 : Int32)) / (5 : Int32)) * (5 : Int32))), .unset, .unset, .unset, .unset, .unset, .unset, .unset] [(.int ((d' &&& (2147483647 : Int32)) - ((d' &&& (2147483647 : Int32)) / (4 : Int32)) * (4 : Int32))), (.int (1 : Int32))])) (fun _ k_ => XS.irem X12.here hx rfl (hb hby at_83) rfl (by decide) k_) ?_
  refine own_w (T' := T12) (g' := (mkF m 85 #[.val (.int k1'), .val (.int k2'), .val (.int k3'), .val (.int k4'), .val (.int s'), .val (.int d'), .val (.ref b1), .val (.ref b3), .val (.int ((s' &&& (2147483647 : Int32)) - ((s' &&& (2147483647 : Int32)) / (5 : Int32)) * (5 : Int32))), .unset, .unset, .unset, .unset, .unset, .unset, .unset] [(.int ((1 : Int32) + ((d' &&& (2147483647 : Int32)) - ((d' &&& (2147483647 : Int32)) / (4 : Int32)) * (4 : Int32))))])) (fun _ k_ => XS.iadd X12.here hx rfl (hb hby at_84) rfl k_) ?_
  refine own_w (T' := T12) (g' := (mkF m 87 #[.val (.int k1'), .val (.int k2'), .val (.int k3'), .val (.int k4'), .val (.int s'), .val (.int d'), .val (.ref b1), .val (.ref b3), .val (.int ((s' &&& (2147483647 : Int32)) - ((s' &&& (2147483647 : Int32)) / (5 : Int32)) * (5 : Int32))), .val (.int ((1 : Int32) + ((d' &&& (2147483647 : Int32)) - ((d' &&& (2147483647 : Int32)) / (4 : Int32)) * (4 : Int32)))), .unset, .unset, .unset, .unset, .unset, .unset] [])) (fun _ k_ => XS.istore X12.here hx rfl (hb hby at_85) rfl (l' := #[.val (.int k1'), .val (.int k2'), .val (.int k3'), .val (.int k4'), .val (.int s'), .val (.int d'), .val (.ref b1), .val (.ref b3), .val (.int ((s' &&& (2147483647 : Int32)) - ((s' &&& (2147483647 : Int32)) / (5 : Int32)) * (5 : Int32))), .val (.int ((1 : Int32) + ((d' &&& (2147483647 : Int32)) - ((d' &&& (2147483647 : Int32)) / (4 : Int32)) * (4 : Int32)))), .unset, .unset, .unset, .unset, .unset, .unset]) rfl k_) ?_
  refine own_w (T' := T12) (g' := (mkF m 89 #[.val (.int k1'), .val (.int k2'), .val (.int k3'), .val (.int k4'), .val (.int s'), .val (.int d'), .val (.ref b1), .val (.ref b3), .val (.int ((s' &&& (2147483647 : Int32)) - ((s' &&& (2147483647 : Int32)) / (5 : Int32)) * (5 : Int32))), .val (.int ((1 : Int32) + ((d' &&& (2147483647 : Int32)) - ((d' &&& (2147483647 : Int32)) / (4 : Int32)) * (4 : Int32)))), .unset, .unset, .unset, .unset, .unset, .unset] [(.int ((s' &&& (2147483647 : Int32)) - ((s' &&& (2147483647 : Int32)) / (5 : Int32)) * (5 : Int32)))])) (fun _ k_ => XS.iload X12.here hx rfl (hb hby at_87) rfl k_) ?_
  refine own_w (T' := T12) (g' := (mkF m 91 #[.val (.int k1'), .val (.int k2'), .val (.int k3'), .val (.int k4'), .val (.int s'), .val (.int d'), .val (.ref b1), .val (.ref b3), .val (.int ((s' &&& (2147483647 : Int32)) - ((s' &&& (2147483647 : Int32)) / (5 : Int32)) * (5 : Int32))), .val (.int ((1 : Int32) + ((d' &&& (2147483647 : Int32)) - ((d' &&& (2147483647 : Int32)) / (4 : Int32)) * (4 : Int32)))), .val (.int ((s' &&& (2147483647 : Int32)) - ((s' &&& (2147483647 : Int32)) / (5 : Int32)) * (5 : Int32))), .unset, .unset, .unset, .unset, .unset] [])) (fun _ k_ => XS.istore X12.here hx rfl (hb hby at_89) rfl (l' := #[.val (.int k1'), .val (.int k2'), .val (.int k3'), .val (.int k4'), .val (.int s'), .val (.int d'), .val (.ref b1), .val (.ref b3), .val (.int ((s' &&& (2147483647 : Int32)) - ((s' &&& (2147483647 : Int32)) / (5 : Int32)) * (5 : Int32))), .val (.int ((1 : Int32) + ((d' &&& (2147483647 : Int32)) - ((d' &&& (2147483647 : Int32)) / (4 : Int32)) * (4 : Int32)))), .val (.int ((s' &&& (2147483647 : Int32)) - ((s' &&& (2147483647 : Int32)) / (5 : Int32)) * (5 : Int32))), .unset, .unset, .unset, .unset, .unset]) rfl k_) ?_
  refine own_w (T' := T12) (g' := (mkF m 93 #[.val (.int k1'), .val (.int k2'), .val (.int k3'), .val (.int k4'), .val (.int s'), .val (.int d'), .val (.ref b1), .val (.ref b3), .val (.int ((s' &&& (2147483647 : Int32)) - ((s' &&& (2147483647 : Int32)) / (5 : Int32)) * (5 : Int32))), .val (.int ((1 : Int32) + ((d' &&& (2147483647 : Int32)) - ((d' &&& (2147483647 : Int32)) / (4 : Int32)) * (4 : Int32)))), .val (.int ((s' &&& (2147483647 : Int32)) - ((s' &&& (2147483647 : Int32)) / (5 : Int32)) * (5 : Int32))), .unset, .unset, .unset, .unset, .unset] [(.int ((s' &&& (2147483647 : Int32)) - ((s' &&& (2147483647 : Int32)) / (5 : Int32)) * (5 : Int32)))])) (fun _ k_ => XS.iload X12.here hx rfl (hb hby at_91) rfl k_) ?_
  refine own_w (T' := T12) (g' := (mkF m 95 #[.val (.int k1'), .val (.int k2'), .val (.int k3'), .val (.int k4'), .val (.int s'), .val (.int d'), .val (.ref b1), .val (.ref b3), .val (.int ((s' &&& (2147483647 : Int32)) - ((s' &&& (2147483647 : Int32)) / (5 : Int32)) * (5 : Int32))), .val (.int ((1 : Int32) + ((d' &&& (2147483647 : Int32)) - ((d' &&& (2147483647 : Int32)) / (4 : Int32)) * (4 : Int32)))), .val (.int ((s' &&& (2147483647 : Int32)) - ((s' &&& (2147483647 : Int32)) / (5 : Int32)) * (5 : Int32))), .unset, .unset, .unset, .unset, .unset] [(.int ((1 : Int32) + ((d' &&& (2147483647 : Int32)) - ((d' &&& (2147483647 : Int32)) / (4 : Int32)) * (4 : Int32)))), (.int ((s' &&& (2147483647 : Int32)) - ((s' &&& (2147483647 : Int32)) / (5 : Int32)) * (5 : Int32)))])) (fun _ k_ => XS.iload X12.here hx rfl (hb hby at_93) rfl k_) ?_
  refine own_w (T' := T12) (g' := (mkF m 96 #[.val (.int k1'), .val (.int k2'), .val (.int k3'), .val (.int k4'), .val (.int s'), .val (.int d'), .val (.ref b1), .val (.ref b3), .val (.int ((s' &&& (2147483647 : Int32)) - ((s' &&& (2147483647 : Int32)) / (5 : Int32)) * (5 : Int32))), .val (.int ((1 : Int32) + ((d' &&& (2147483647 : Int32)) - ((d' &&& (2147483647 : Int32)) / (4 : Int32)) * (4 : Int32)))), .val (.int ((s' &&& (2147483647 : Int32)) - ((s' &&& (2147483647 : Int32)) / (5 : Int32)) * (5 : Int32))), .unset, .unset, .unset, .unset, .unset] [(.int (((s' &&& (2147483647 : Int32)) - ((s' &&& (2147483647 : Int32)) / (5 : Int32)) * (5 : Int32)) + ((1 : Int32) + ((d' &&& (2147483647 : Int32)) - ((d' &&& (2147483647 : Int32)) / (4 : Int32)) * (4 : Int32)))))])) (fun _ k_ => XS.iadd X12.here hx rfl (hb hby at_95) rfl k_) ?_
  refine own_w (T' := T12) (g' := (mkF m 97 #[.val (.int k1'), .val (.int k2'), .val (.int k3'), .val (.int k4'), .val (.int s'), .val (.int d'), .val (.ref b1), .val (.ref b3), .val (.int ((s' &&& (2147483647 : Int32)) - ((s' &&& (2147483647 : Int32)) / (5 : Int32)) * (5 : Int32))), .val (.int ((1 : Int32) + ((d' &&& (2147483647 : Int32)) - ((d' &&& (2147483647 : Int32)) / (4 : Int32)) * (4 : Int32)))), .val (.int ((s' &&& (2147483647 : Int32)) - ((s' &&& (2147483647 : Int32)) / (5 : Int32)) * (5 : Int32))), .unset, .unset, .unset, .unset, .unset] [(.int (5 : Int32)), (.int (((s' &&& (2147483647 : Int32)) - ((s' &&& (2147483647 : Int32)) / (5 : Int32)) * (5 : Int32)) + ((1 : Int32) + ((d' &&& (2147483647 : Int32)) - ((d' &&& (2147483647 : Int32)) / (4 : Int32)) * (4 : Int32)))))])) (fun _ k_ => XS.iconst X12.here hx rfl (hb hby at_96) k_) ?_
  refine own_w (T' := T12) (g' := (mkF m 98 #[.val (.int k1'), .val (.int k2'), .val (.int k3'), .val (.int k4'), .val (.int s'), .val (.int d'), .val (.ref b1), .val (.ref b3), .val (.int ((s' &&& (2147483647 : Int32)) - ((s' &&& (2147483647 : Int32)) / (5 : Int32)) * (5 : Int32))), .val (.int ((1 : Int32) + ((d' &&& (2147483647 : Int32)) - ((d' &&& (2147483647 : Int32)) / (4 : Int32)) * (4 : Int32)))), .val (.int ((s' &&& (2147483647 : Int32)) - ((s' &&& (2147483647 : Int32)) / (5 : Int32)) * (5 : Int32))), .unset, .unset, .unset, .unset, .unset] [(.int ((((s' &&& (2147483647 : Int32)) - ((s' &&& (2147483647 : Int32)) / (5 : Int32)) * (5 : Int32)) + ((1 : Int32) + ((d' &&& (2147483647 : Int32)) - ((d' &&& (2147483647 : Int32)) / (4 : Int32)) * (4 : Int32)))) - ((((s' &&& (2147483647 : Int32)) - ((s' &&& (2147483647 : Int32)) / (5 : Int32)) * (5 : Int32)) + ((1 : Int32) + ((d' &&& (2147483647 : Int32)) - ((d' &&& (2147483647 : Int32)) / (4 : Int32)) * (4 : Int32)))) / (5 : Int32)) * (5 : Int32)))])) (fun _ k_ => XS.irem X12.here hx rfl (hb hby at_97) rfl (by decide) k_) ?_
  refine own_w (T' := T12) (g' := (mkF m 100 #[.val (.int k1'), .val (.int k2'), .val (.int k3'), .val (.int k4'), .val (.int s'), .val (.int d'), .val (.ref b1), .val (.ref b3), .val (.int ((s' &&& (2147483647 : Int32)) - ((s' &&& (2147483647 : Int32)) / (5 : Int32)) * (5 : Int32))), .val (.int ((1 : Int32) + ((d' &&& (2147483647 : Int32)) - ((d' &&& (2147483647 : Int32)) / (4 : Int32)) * (4 : Int32)))), .val (.int ((s' &&& (2147483647 : Int32)) - ((s' &&& (2147483647 : Int32)) / (5 : Int32)) * (5 : Int32))), .val (.int ((((s' &&& (2147483647 : Int32)) - ((s' &&& (2147483647 : Int32)) / (5 : Int32)) * (5 : Int32)) + ((1 : Int32) + ((d' &&& (2147483647 : Int32)) - ((d' &&& (2147483647 : Int32)) / (4 : Int32)) * (4 : Int32)))) - ((((s' &&& (2147483647 : Int32)) - ((s' &&& (2147483647 : Int32)) / (5 : Int32)) * (5 : Int32)) + ((1 : Int32) + ((d' &&& (2147483647 : Int32)) - ((d' &&& (2147483647 : Int32)) / (4 : Int32)) * (4 : Int32)))) / (5 : Int32)) * (5 : Int32))), .unset, .unset, .unset, .unset] [])) (fun _ k_ => XS.istore X12.here hx rfl (hb hby at_98) rfl (l' := #[.val (.int k1'), .val (.int k2'), .val (.int k3'), .val (.int k4'), .val (.int s'), .val (.int d'), .val (.ref b1), .val (.ref b3), .val (.int ((s' &&& (2147483647 : Int32)) - ((s' &&& (2147483647 : Int32)) / (5 : Int32)) * (5 : Int32))), .val (.int ((1 : Int32) + ((d' &&& (2147483647 : Int32)) - ((d' &&& (2147483647 : Int32)) / (4 : Int32)) * (4 : Int32)))), .val (.int ((s' &&& (2147483647 : Int32)) - ((s' &&& (2147483647 : Int32)) / (5 : Int32)) * (5 : Int32))), .val (.int ((((s' &&& (2147483647 : Int32)) - ((s' &&& (2147483647 : Int32)) / (5 : Int32)) * (5 : Int32)) + ((1 : Int32) + ((d' &&& (2147483647 : Int32)) - ((d' &&& (2147483647 : Int32)) / (4 : Int32)) * (4 : Int32)))) - ((((s' &&& (2147483647 : Int32)) - ((s' &&& (2147483647 : Int32)) / (5 : Int32)) * (5 : Int32)) + ((1 : Int32) + ((d' &&& (2147483647 : Int32)) - ((d' &&& (2147483647 : Int32)) / (4 : Int32)) * (4 : Int32)))) / (5 : Int32)) * (5 : Int32))), .unset, .unset, .unset, .unset]) rfl k_) ?_
  refine own_w (T' := T12) (g' := (mkF m 102 #[.val (.int k1'), .val (.int k2'), .val (.int k3'), .val (.int k4'), .val (.int s'), .val (.int d'), .val (.ref b1), .val (.ref b3), .val (.int ((s' &&& (2147483647 : Int32)) - ((s' &&& (2147483647 : Int32)) / (5 : Int32)) * (5 : Int32))), .val (.int ((1 : Int32) + ((d' &&& (2147483647 : Int32)) - ((d' &&& (2147483647 : Int32)) / (4 : Int32)) * (4 : Int32)))), .val (.int ((s' &&& (2147483647 : Int32)) - ((s' &&& (2147483647 : Int32)) / (5 : Int32)) * (5 : Int32))), .val (.int ((((s' &&& (2147483647 : Int32)) - ((s' &&& (2147483647 : Int32)) / (5 : Int32)) * (5 : Int32)) + ((1 : Int32) + ((d' &&& (2147483647 : Int32)) - ((d' &&& (2147483647 : Int32)) / (4 : Int32)) * (4 : Int32)))) - ((((s' &&& (2147483647 : Int32)) - ((s' &&& (2147483647 : Int32)) / (5 : Int32)) * (5 : Int32)) + ((1 : Int32) + ((d' &&& (2147483647 : Int32)) - ((d' &&& (2147483647 : Int32)) / (4 : Int32)) * (4 : Int32)))) / (5 : Int32)) * (5 : Int32))), .unset, .unset, .unset, .unset] [(.int ((s' &&& (2147483647 : Int32)) - ((s' &&& (2147483647 : Int32)) / (5 : Int32)) * (5 : Int32)))])) (fun _ k_ => XS.iload X12.here hx rfl (hb hby at_100) rfl k_) ?_
  refine own_w (T' := T12) (g' := (mkF m 103 #[.val (.int k1'), .val (.int k2'), .val (.int k3'), .val (.int k4'), .val (.int s'), .val (.int d'), .val (.ref b1), .val (.ref b3), .val (.int ((s' &&& (2147483647 : Int32)) - ((s' &&& (2147483647 : Int32)) / (5 : Int32)) * (5 : Int32))), .val (.int ((1 : Int32) + ((d' &&& (2147483647 : Int32)) - ((d' &&& (2147483647 : Int32)) / (4 : Int32)) * (4 : Int32)))), .val (.int ((s' &&& (2147483647 : Int32)) - ((s' &&& (2147483647 : Int32)) / (5 : Int32)) * (5 : Int32))), .val (.int ((((s' &&& (2147483647 : Int32)) - ((s' &&& (2147483647 : Int32)) / (5 : Int32)) * (5 : Int32)) + ((1 : Int32) + ((d' &&& (2147483647 : Int32)) - ((d' &&& (2147483647 : Int32)) / (4 : Int32)) * (4 : Int32)))) - ((((s' &&& (2147483647 : Int32)) - ((s' &&& (2147483647 : Int32)) / (5 : Int32)) * (5 : Int32)) + ((1 : Int32) + ((d' &&& (2147483647 : Int32)) - ((d' &&& (2147483647 : Int32)) / (4 : Int32)) * (4 : Int32)))) / (5 : Int32)) * (5 : Int32))), .unset, .unset, .unset, .unset] [(.int (2 : Int32)), (.int ((s' &&& (2147483647 : Int32)) - ((s' &&& (2147483647 : Int32)) / (5 : Int32)) * (5 : Int32)))])) (fun _ k_ => XS.iconst X12.here hx rfl (hb hby at_102) k_) ?_
  refine own_w (T' := T12) (g' := (mkF m 105 #[.val (.int k1'), .val (.int k2'), .val (.int k3'), .val (.int k4'), .val (.int s'), .val (.int d'), .val (.ref b1), .val (.ref b3), .val (.int ((s' &&& (2147483647 : Int32)) - ((s' &&& (2147483647 : Int32)) / (5 : Int32)) * (5 : Int32))), .val (.int ((1 : Int32) + ((d' &&& (2147483647 : Int32)) - ((d' &&& (2147483647 : Int32)) / (4 : Int32)) * (4 : Int32)))), .val (.int ((s' &&& (2147483647 : Int32)) - ((s' &&& (2147483647 : Int32)) / (5 : Int32)) * (5 : Int32))), .val (.int ((((s' &&& (2147483647 : Int32)) - ((s' &&& (2147483647 : Int32)) / (5 : Int32)) * (5 : Int32)) + ((1 : Int32) + ((d' &&& (2147483647 : Int32)) - ((d' &&& (2147483647 : Int32)) / (4 : Int32)) * (4 : Int32)))) - ((((s' &&& (2147483647 : Int32)) - ((s' &&& (2147483647 : Int32)) / (5 : Int32)) * (5 : Int32)) + ((1 : Int32) + ((d' &&& (2147483647 : Int32)) - ((d' &&& (2147483647 : Int32)) / (4 : Int32)) * (4 : Int32)))) / (5 : Int32)) * (5 : Int32))), .unset, .unset, .unset, .unset] [(.int ((1 : Int32) + ((d' &&& (2147483647 : Int32)) - ((d' &&& (2147483647 : Int32)) / (4 : Int32)) * (4 : Int32)))), (.int (2 : Int32)), (.int ((s' &&& (2147483647 : Int32)) - ((s' &&& (2147483647 : Int32)) / (5 : Int32)) * (5 : Int32)))])) (fun _ k_ => XS.iload X12.here hx rfl (hb hby at_103) rfl k_) ?_
  refine own_w (T' := T12) (g' := (mkF m 106 #[.val (.int k1'), .val (.int k2'), .val (.int k3'), .val (.int k4'), .val (.int s'), .val (.int d'), .val (.ref b1), .val (.ref b3), .val (.int ((s' &&& (2147483647 : Int32)) - ((s' &&& (2147483647 : Int32)) / (5 : Int32)) * (5 : Int32))), .val (.int ((1 : Int32) + ((d' &&& (2147483647 : Int32)) - ((d' &&& (2147483647 : Int32)) / (4 : Int32)) * (4 : Int32)))), .val (.int ((s' &&& (2147483647 : Int32)) - ((s' &&& (2147483647 : Int32)) / (5 : Int32)) * (5 : Int32))), .val (.int ((((s' &&& (2147483647 : Int32)) - ((s' &&& (2147483647 : Int32)) / (5 : Int32)) * (5 : Int32)) + ((1 : Int32) + ((d' &&& (2147483647 : Int32)) - ((d' &&& (2147483647 : Int32)) / (4 : Int32)) * (4 : Int32)))) - ((((s' &&& (2147483647 : Int32)) - ((s' &&& (2147483647 : Int32)) / (5 : Int32)) * (5 : Int32)) + ((1 : Int32) + ((d' &&& (2147483647 : Int32)) - ((d' &&& (2147483647 : Int32)) / (4 : Int32)) * (4 : Int32)))) / (5 : Int32)) * (5 : Int32))), .unset, .unset, .unset, .unset] [(.int ((2 : Int32) * ((1 : Int32) + ((d' &&& (2147483647 : Int32)) - ((d' &&& (2147483647 : Int32)) / (4 : Int32)) * (4 : Int32))))), (.int ((s' &&& (2147483647 : Int32)) - ((s' &&& (2147483647 : Int32)) / (5 : Int32)) * (5 : Int32)))])) (fun _ k_ => XS.imul X12.here hx rfl (hb hby at_105) rfl k_) ?_
  refine own_w (T' := T12) (g' := (mkF m 107 #[.val (.int k1'), .val (.int k2'), .val (.int k3'), .val (.int k4'), .val (.int s'), .val (.int d'), .val (.ref b1), .val (.ref b3), .val (.int ((s' &&& (2147483647 : Int32)) - ((s' &&& (2147483647 : Int32)) / (5 : Int32)) * (5 : Int32))), .val (.int ((1 : Int32) + ((d' &&& (2147483647 : Int32)) - ((d' &&& (2147483647 : Int32)) / (4 : Int32)) * (4 : Int32)))), .val (.int ((s' &&& (2147483647 : Int32)) - ((s' &&& (2147483647 : Int32)) / (5 : Int32)) * (5 : Int32))), .val (.int ((((s' &&& (2147483647 : Int32)) - ((s' &&& (2147483647 : Int32)) / (5 : Int32)) * (5 : Int32)) + ((1 : Int32) + ((d' &&& (2147483647 : Int32)) - ((d' &&& (2147483647 : Int32)) / (4 : Int32)) * (4 : Int32)))) - ((((s' &&& (2147483647 : Int32)) - ((s' &&& (2147483647 : Int32)) / (5 : Int32)) * (5 : Int32)) + ((1 : Int32) + ((d' &&& (2147483647 : Int32)) - ((d' &&& (2147483647 : Int32)) / (4 : Int32)) * (4 : Int32)))) / (5 : Int32)) * (5 : Int32))), .unset, .unset, .unset, .unset] [(.int (((s' &&& (2147483647 : Int32)) - ((s' &&& (2147483647 : Int32)) / (5 : Int32)) * (5 : Int32)) + ((2 : Int32) * ((1 : Int32) + ((d' &&& (2147483647 : Int32)) - ((d' &&& (2147483647 : Int32)) / (4 : Int32)) * (4 : Int32))))))])) (fun _ k_ => XS.iadd X12.here hx rfl (hb hby at_106) rfl k_) ?_
  refine own_w (T' := T12) (g' := (mkF m 108 #[.val (.int k1'), .val (.int k2'), .val (.int k3'), .val (.int k4'), .val (.int s'), .val (.int d'), .val (.ref b1), .val (.ref b3), .val (.int ((s' &&& (2147483647 : Int32)) - ((s' &&& (2147483647 : Int32)) / (5 : Int32)) * (5 : Int32))), .val (.int ((1 : Int32) + ((d' &&& (2147483647 : Int32)) - ((d' &&& (2147483647 : Int32)) / (4 : Int32)) * (4 : Int32)))), .val (.int ((s' &&& (2147483647 : Int32)) - ((s' &&& (2147483647 : Int32)) / (5 : Int32)) * (5 : Int32))), .val (.int ((((s' &&& (2147483647 : Int32)) - ((s' &&& (2147483647 : Int32)) / (5 : Int32)) * (5 : Int32)) + ((1 : Int32) + ((d' &&& (2147483647 : Int32)) - ((d' &&& (2147483647 : Int32)) / (4 : Int32)) * (4 : Int32)))) - ((((s' &&& (2147483647 : Int32)) - ((s' &&& (2147483647 : Int32)) / (5 : Int32)) * (5 : Int32)) + ((1 : Int32) + ((d' &&& (2147483647 : Int32)) - ((d' &&& (2147483647 : Int32)) / (4 : Int32)) * (4 : Int32)))) / (5 : Int32)) * (5 : Int32))), .unset, .unset, .unset, .unset] [(.int (5 : Int32)), (.int (((s' &&& (2147483647 : Int32)) - ((s' &&& (2147483647 : Int32)) / (5 : Int32)) * (5 : Int32)) + ((2 : Int32) * ((1 : Int32) + ((d' &&& (2147483647 : Int32)) - ((d' &&& (2147483647 : Int32)) / (4 : Int32)) * (4 : Int32))))))])) (fun _ k_ => XS.iconst X12.here hx rfl (hb hby at_107) k_) ?_
  refine own_w (T' := T12) (g' := (mkF m 109 #[.val (.int k1'), .val (.int k2'), .val (.int k3'), .val (.int k4'), .val (.int s'), .val (.int d'), .val (.ref b1), .val (.ref b3), .val (.int ((s' &&& (2147483647 : Int32)) - ((s' &&& (2147483647 : Int32)) / (5 : Int32)) * (5 : Int32))), .val (.int ((1 : Int32) + ((d' &&& (2147483647 : Int32)) - ((d' &&& (2147483647 : Int32)) / (4 : Int32)) * (4 : Int32)))), .val (.int ((s' &&& (2147483647 : Int32)) - ((s' &&& (2147483647 : Int32)) / (5 : Int32)) * (5 : Int32))), .val (.int ((((s' &&& (2147483647 : Int32)) - ((s' &&& (2147483647 : Int32)) / (5 : Int32)) * (5 : Int32)) + ((1 : Int32) + ((d' &&& (2147483647 : Int32)) - ((d' &&& (2147483647 : Int32)) / (4 : Int32)) * (4 : Int32)))) - ((((s' &&& (2147483647 : Int32)) - ((s' &&& (2147483647 : Int32)) / (5 : Int32)) * (5 : Int32)) + ((1 : Int32) + ((d' &&& (2147483647 : Int32)) - ((d' &&& (2147483647 : Int32)) / (4 : Int32)) * (4 : Int32)))) / (5 : Int32)) * (5 : Int32))), .unset, .unset, .unset, .unset] [(.int ((((s' &&& (2147483647 : Int32)) - ((s' &&& (2147483647 : Int32)) / (5 : Int32)) * (5 : Int32)) + ((2 : Int32) * ((1 : Int32) + ((d' &&& (2147483647 : Int32)) - ((d' &&& (2147483647 : Int32)) / (4 : Int32)) * (4 : Int32))))) - ((((s' &&& (2147483647 : Int32)) - ((s' &&& (2147483647 : Int32)) / (5 : Int32)) * (5 : Int32)) + ((2 : Int32) * ((1 : Int32) + ((d' &&& (2147483647 : Int32)) - ((d' &&& (2147483647 : Int32)) / (4 : Int32)) * (4 : Int32))))) / (5 : Int32)) * (5 : Int32)))])) (fun _ k_ => XS.irem X12.here hx rfl (hb hby at_108) rfl (by decide) k_) ?_
  refine own_w (T' := T12) (g' := (mkF m 111 #[.val (.int k1'), .val (.int k2'), .val (.int k3'), .val (.int k4'), .val (.int s'), .val (.int d'), .val (.ref b1), .val (.ref b3), .val (.int ((s' &&& (2147483647 : Int32)) - ((s' &&& (2147483647 : Int32)) / (5 : Int32)) * (5 : Int32))), .val (.int ((1 : Int32) + ((d' &&& (2147483647 : Int32)) - ((d' &&& (2147483647 : Int32)) / (4 : Int32)) * (4 : Int32)))), .val (.int ((s' &&& (2147483647 : Int32)) - ((s' &&& (2147483647 : Int32)) / (5 : Int32)) * (5 : Int32))), .val (.int ((((s' &&& (2147483647 : Int32)) - ((s' &&& (2147483647 : Int32)) / (5 : Int32)) * (5 : Int32)) + ((1 : Int32) + ((d' &&& (2147483647 : Int32)) - ((d' &&& (2147483647 : Int32)) / (4 : Int32)) * (4 : Int32)))) - ((((s' &&& (2147483647 : Int32)) - ((s' &&& (2147483647 : Int32)) / (5 : Int32)) * (5 : Int32)) + ((1 : Int32) + ((d' &&& (2147483647 : Int32)) - ((d' &&& (2147483647 : Int32)) / (4 : Int32)) * (4 : Int32)))) / (5 : Int32)) * (5 : Int32))), .val (.int ((((s' &&& (2147483647 : Int32)) - ((s' &&& (2147483647 : Int32)) / (5 : Int32)) * (5 : Int32)) + ((2 : Int32) * ((1 : Int32) + ((d' &&& (2147483647 : Int32)) - ((d' &&& (2147483647 : Int32)) / (4 : Int32)) * (4 : Int32))))) - ((((s' &&& (2147483647 : Int32)) - ((s' &&& (2147483647 : Int32)) / (5 : Int32)) * (5 : Int32)) + ((2 : Int32) * ((1 : Int32) + ((d' &&& (2147483647 : Int32)) - ((d' &&& (2147483647 : Int32)) / (4 : Int32)) * (4 : Int32))))) / (5 : Int32)) * (5 : Int32))), .unset, .unset, .unset] [])) (fun _ k_ => XS.istore X12.here hx rfl (hb hby at_109) rfl (l' := #[.val (.int k1'), .val (.int k2'), .val (.int k3'), .val (.int k4'), .val (.int s'), .val (.int d'), .val (.ref b1), .val (.ref b3), .val (.int ((s' &&& (2147483647 : Int32)) - ((s' &&& (2147483647 : Int32)) / (5 : Int32)) * (5 : Int32))), .val (.int ((1 : Int32) + ((d' &&& (2147483647 : Int32)) - ((d' &&& (2147483647 : Int32)) / (4 : Int32)) * (4 : Int32)))), .val (.int ((s' &&& (2147483647 : Int32)) - ((s' &&& (2147483647 : Int32)) / (5 : Int32)) * (5 : Int32))), .val (.int ((((s' &&& (2147483647 : Int32)) - ((s' &&& (2147483647 : Int32)) / (5 : Int32)) * (5 : Int32)) + ((1 : Int32) + ((d' &&& (2147483647 : Int32)) - ((d' &&& (2147483647 : Int32)) / (4 : Int32)) * (4 : Int32)))) - ((((s' &&& (2147483647 : Int32)) - ((s' &&& (2147483647 : Int32)) / (5 : Int32)) * (5 : Int32)) + ((1 : Int32) + ((d' &&& (2147483647 : Int32)) - ((d' &&& (2147483647 : Int32)) / (4 : Int32)) * (4 : Int32)))) / (5 : Int32)) * (5 : Int32))), .val (.int ((((s' &&& (2147483647 : Int32)) - ((s' &&& (2147483647 : Int32)) / (5 : Int32)) * (5 : Int32)) + ((2 : Int32) * ((1 : Int32) + ((d' &&& (2147483647 : Int32)) - ((d' &&& (2147483647 : Int32)) / (4 : Int32)) * (4 : Int32))))) - ((((s' &&& (2147483647 : Int32)) - ((s' &&& (2147483647 : Int32)) / (5 : Int32)) * (5 : Int32)) + ((2 : Int32) * ((1 : Int32) + ((d' &&& (2147483647 : Int32)) - ((d' &&& (2147483647 : Int32)) / (4 : Int32)) * (4 : Int32))))) / (5 : Int32)) * (5 : Int32))), .unset, .unset, .unset]) rfl k_) ?_
  refine own_w (T' := T12) (g' := (mkF m 113 #[.val (.int k1'), .val (.int k2'), .val (.int k3'), .val (.int k4'), .val (.int s'), .val (.int d'), .val (.ref b1), .val (.ref b3), .val (.int ((s' &&& (2147483647 : Int32)) - ((s' &&& (2147483647 : Int32)) / (5 : Int32)) * (5 : Int32))), .val (.int ((1 : Int32) + ((d' &&& (2147483647 : Int32)) - ((d' &&& (2147483647 : Int32)) / (4 : Int32)) * (4 : Int32)))), .val (.int ((s' &&& (2147483647 : Int32)) - ((s' &&& (2147483647 : Int32)) / (5 : Int32)) * (5 : Int32))), .val (.int ((((s' &&& (2147483647 : Int32)) - ((s' &&& (2147483647 : Int32)) / (5 : Int32)) * (5 : Int32)) + ((1 : Int32) + ((d' &&& (2147483647 : Int32)) - ((d' &&& (2147483647 : Int32)) / (4 : Int32)) * (4 : Int32)))) - ((((s' &&& (2147483647 : Int32)) - ((s' &&& (2147483647 : Int32)) / (5 : Int32)) * (5 : Int32)) + ((1 : Int32) + ((d' &&& (2147483647 : Int32)) - ((d' &&& (2147483647 : Int32)) / (4 : Int32)) * (4 : Int32)))) / (5 : Int32)) * (5 : Int32))), .val (.int ((((s' &&& (2147483647 : Int32)) - ((s' &&& (2147483647 : Int32)) / (5 : Int32)) * (5 : Int32)) + ((2 : Int32) * ((1 : Int32) + ((d' &&& (2147483647 : Int32)) - ((d' &&& (2147483647 : Int32)) / (4 : Int32)) * (4 : Int32))))) - ((((s' &&& (2147483647 : Int32)) - ((s' &&& (2147483647 : Int32)) / (5 : Int32)) * (5 : Int32)) + ((2 : Int32) * ((1 : Int32) + ((d' &&& (2147483647 : Int32)) - ((d' &&& (2147483647 : Int32)) / (4 : Int32)) * (4 : Int32))))) / (5 : Int32)) * (5 : Int32))), .unset, .unset, .unset] [(.int ((s' &&& (2147483647 : Int32)) - ((s' &&& (2147483647 : Int32)) / (5 : Int32)) * (5 : Int32)))])) (fun _ k_ => XS.iload X12.here hx rfl (hb hby at_111) rfl k_) ?_
  refine own_w (T' := T12) (g' := (mkF m 114 #[.val (.int k1'), .val (.int k2'), .val (.int k3'), .val (.int k4'), .val (.int s'), .val (.int d'), .val (.ref b1), .val (.ref b3), .val (.int ((s' &&& (2147483647 : Int32)) - ((s' &&& (2147483647 : Int32)) / (5 : Int32)) * (5 : Int32))), .val (.int ((1 : Int32) + ((d' &&& (2147483647 : Int32)) - ((d' &&& (2147483647 : Int32)) / (4 : Int32)) * (4 : Int32)))), .val (.int ((s' &&& (2147483647 : Int32)) - ((s' &&& (2147483647 : Int32)) / (5 : Int32)) * (5 : Int32))), .val (.int ((((s' &&& (2147483647 : Int32)) - ((s' &&& (2147483647 : Int32)) / (5 : Int32)) * (5 : Int32)) + ((1 : Int32) + ((d' &&& (2147483647 : Int32)) - ((d' &&& (2147483647 : Int32)) / (4 : Int32)) * (4 : Int32)))) - ((((s' &&& (2147483647 : Int32)) - ((s' &&& (2147483647 : Int32)) / (5 : Int32)) * (5 : Int32)) + ((1 : Int32) + ((d' &&& (2147483647 : Int32)) - ((d' &&& (2147483647 : Int32)) / (4 : Int32)) * (4 : Int32)))) / (5 : Int32)) * (5 : Int32))), .val (.int ((((s' &&& (2147483647 : Int32)) - ((s' &&& (2147483647 : Int32)) / (5 : Int32)) * (5 : Int32)) + ((2 : Int32) * ((1 : Int32) + ((d' &&& (2147483647 : Int32)) - ((d' &&& (2147483647 : Int32)) / (4 : Int32)) * (4 : Int32))))) - ((((s' &&& (2147483647 : Int32)) - ((s' &&& (2147483647 : Int32)) / (5 : Int32)) * (5 : Int32)) + ((2 : Int32) * ((1 : Int32) + ((d' &&& (2147483647 : Int32)) - ((d' &&& (2147483647 : Int32)) / (4 : Int32)) * (4 : Int32))))) / (5 : Int32)) * (5 : Int32))), .unset, .unset, .unset] [(.int (3 : Int32)), (.int ((s' &&& (2147483647 : Int32)) - ((s' &&& (2147483647 : Int32)) / (5 : Int32)) * (5 : Int32)))])) (fun _ k_ => XS.iconst X12.here hx rfl (hb hby at_113) k_) ?_
  refine own_w (T' := T12) (g' := (mkF m 116 #[.val (.int k1'), .val (.int k2'), .val (.int k3'), .val (.int k4'), .val (.int s'), .val (.int d'), .val (.ref b1), .val (.ref b3), .val (.int ((s' &&& (2147483647 : Int32)) - ((s' &&& (2147483647 : Int32)) / (5 : Int32)) * (5 : Int32))), .val (.int ((1 : Int32) + ((d' &&& (2147483647 : Int32)) - ((d' &&& (2147483647 : Int32)) / (4 : Int32)) * (4 : Int32)))), .val (.int ((s' &&& (2147483647 : Int32)) - ((s' &&& (2147483647 : Int32)) / (5 : Int32)) * (5 : Int32))), .val (.int ((((s' &&& (2147483647 : Int32)) - ((s' &&& (2147483647 : Int32)) / (5 : Int32)) * (5 : Int32)) + ((1 : Int32) + ((d' &&& (2147483647 : Int32)) - ((d' &&& (2147483647 : Int32)) / (4 : Int32)) * (4 : Int32)))) - ((((s' &&& (2147483647 : Int32)) - ((s' &&& (2147483647 : Int32)) / (5 : Int32)) * (5 : Int32)) + ((1 : Int32) + ((d' &&& (2147483647 : Int32)) - ((d' &&& (2147483647 : Int32)) / (4 : Int32)) * (4 : Int32)))) / (5 : Int32)) * (5 : Int32))), .val (.int ((((s' &&& (2147483647 : Int32)) - ((s' &&& (2147483647 : Int32)) / (5 : Int32)) * (5 : Int32)) + ((2 : Int32) * ((1 : Int32) + ((d' &&& (2147483647 : Int32)) - ((d' &&& (2147483647 : Int32)) / (4 : Int32)) * (4 : Int32))))) - ((((s' &&& (2147483647 : Int32)) - ((s' &&& (2147483647 : Int32)) / (5 : Int32)) * (5 : Int32)) + ((2 : Int32) * ((1 : Int32) + ((d' &&& (2147483647 : Int32)) - ((d' &&& (2147483647 : Int32)) / (4 : Int32)) * (4 : Int32))))) / (5 : Int32)) * (5 : Int32))), .unset, .unset, .unset] [(.int ((1 : Int32) + ((d' &&& (2147483647 : Int32)) - ((d' &&& (2147483647 : Int32)) / (4 : Int32)) * (4 : Int32)))), (.int (3 : Int32)), (.int ((s' &&& (2147483647 : Int32)) - ((s' &&& (2147483647 : Int32)) / (5 : Int32)) * (5 : Int32)))])) (fun _ k_ => XS.iload X12.here hx rfl (hb hby at_114) rfl k_) ?_
  refine own_w (T' := T12) (g' := (mkF m 117 #[.val (.int k1'), .val (.int k2'), .val (.int k3'), .val (.int k4'), .val (.int s'), .val (.int d'), .val (.ref b1), .val (.ref b3), .val (.int ((s' &&& (2147483647 : Int32)) - ((s' &&& (2147483647 : Int32)) / (5 : Int32)) * (5 : Int32))), .val (.int ((1 : Int32) + ((d' &&& (2147483647 : Int32)) - ((d' &&& (2147483647 : Int32)) / (4 : Int32)) * (4 : Int32)))), .val (.int ((s' &&& (2147483647 : Int32)) - ((s' &&& (2147483647 : Int32)) / (5 : Int32)) * (5 : Int32))), .val (.int ((((s' &&& (2147483647 : Int32)) - ((s' &&& (2147483647 : Int32)) / (5 : Int32)) * (5 : Int32)) + ((1 : Int32) + ((d' &&& (2147483647 : Int32)) - ((d' &&& (2147483647 : Int32)) / (4 : Int32)) * (4 : Int32)))) - ((((s' &&& (2147483647 : Int32)) - ((s' &&& (2147483647 : Int32)) / (5 : Int32)) * (5 : Int32)) + ((1 : Int32) + ((d' &&& (2147483647 : Int32)) - ((d' &&& (2147483647 : Int32)) / (4 : Int32)) * (4 : Int32)))) / (5 : Int32)) * (5 : Int32))), .val (.int ((((s' &&& (2147483647 : Int32)) - ((s' &&& (2147483647 : Int32)) / (5 : Int32)) * (5 : Int32)) + ((2 : Int32) * ((1 : Int32) + ((d' &&& (2147483647 : Int32)) - ((d' &&& (2147483647 : Int32)) / (4 : Int32)) * (4 : Int32))))) - ((((s' &&& (2147483647 : Int32)) - ((s' &&& (2147483647 : Int32)) / (5 : Int32)) * (5 : Int32)) + ((2 : Int32) * ((1 : Int32) + ((d' &&& (2147483647 : Int32)) - ((d' &&& (2147483647 : Int32)) / (4 : Int32)) * (4 : Int32))))) / (5 : Int32)) * (5 : Int32))), .unset, .unset, .unset] [(.int ((3 : Int32) * ((1 : Int32) + ((d' &&& (2147483647 : Int32)) - ((d' &&& (2147483647 : Int32)) / (4 : Int32)) * (4 : Int32))))), (.int ((s' &&& (2147483647 : Int32)) - ((s' &&& (2147483647 : Int32)) / (5 : Int32)) * (5 : Int32)))])) (fun _ k_ => XS.imul X12.here hx rfl (hb hby at_116) rfl k_) ?_
  refine own_w (T' := T12) (g' := (mkF m 118 #[.val (.int k1'), .val (.int k2'), .val (.int k3'), .val (.int k4'), .val (.int s'), .val (.int d'), .val (.ref b1), .val (.ref b3), .val (.int ((s' &&& (2147483647 : Int32)) - ((s' &&& (2147483647 : Int32)) / (5 : Int32)) * (5 : Int32))), .val (.int ((1 : Int32) + ((d' &&& (2147483647 : Int32)) - ((d' &&& (2147483647 : Int32)) / (4 : Int32)) * (4 : Int32)))), .val (.int ((s' &&& (2147483647 : Int32)) - ((s' &&& (2147483647 : Int32)) / (5 : Int32)) * (5 : Int32))), .val (.int ((((s' &&& (2147483647 : Int32)) - ((s' &&& (2147483647 : Int32)) / (5 : Int32)) * (5 : Int32)) + ((1 : Int32) + ((d' &&& (2147483647 : Int32)) - ((d' &&& (2147483647 : Int32)) / (4 : Int32)) * (4 : Int32)))) - ((((s' &&& (2147483647 : Int32)) - ((s' &&& (2147483647 : Int32)) / (5 : Int32)) * (5 : Int32)) + ((1 : Int32) + ((d' &&& (2147483647 : Int32)) - ((d' &&& (2147483647 : Int32)) / (4 : Int32)) * (4 : Int32)))) / (5 : Int32)) * (5 : Int32))), .val (.int ((((s' &&& (2147483647 : Int32)) - ((s' &&& (2147483647 : Int32)) / (5 : Int32)) * (5 : Int32)) + ((2 : Int32) * ((1 : Int32) + ((d' &&& (2147483647 : Int32)) - ((d' &&& (2147483647 : Int32)) / (4 : Int32)) * (4 : Int32))))) - ((((s' &&& (2147483647 : Int32)) - ((s' &&& (2147483647 : Int32)) / (5 : Int32)) * (5 : Int32)) + ((2 : Int32) * ((1 : Int32) + ((d' &&& (2147483647 : Int32)) - ((d' &&& (2147483647 : Int32)) / (4 : Int32)) * (4 : Int32))))) / (5 : Int32)) * (5 : Int32))), .unset, .unset, .unset] [(.int (((s' &&& (2147483647 : Int32)) - ((s' &&& (2147483647 : Int32)) / (5 : Int32)) * (5 : Int32)) + ((3 : Int32) * ((1 : Int32) + ((d' &&& (2147483647 : Int32)) - ((d' &&& (2147483647 : Int32)) / (4 : Int32)) * (4 : Int32))))))])) (fun _ k_ => XS.iadd X12.here hx rfl (hb hby at_117) rfl k_) ?_
  refine own_w (T' := T12) (g' := (mkF m 119 #[.val (.int k1'), .val (.int k2'), .val (.int k3'), .val (.int k4'), .val (.int s'), .val (.int d'), .val (.ref b1), .val (.ref b3), .val (.int ((s' &&& (2147483647 : Int32)) - ((s' &&& (2147483647 : Int32)) / (5 : Int32)) * (5 : Int32))), .val (.int ((1 : Int32) + ((d' &&& (2147483647 : Int32)) - ((d' &&& (2147483647 : Int32)) / (4 : Int32)) * (4 : Int32)))), .val (.int ((s' &&& (2147483647 : Int32)) - ((s' &&& (2147483647 : Int32)) / (5 : Int32)) * (5 : Int32))), .val (.int ((((s' &&& (2147483647 : Int32)) - ((s' &&& (2147483647 : Int32)) / (5 : Int32)) * (5 : Int32)) + ((1 : Int32) + ((d' &&& (2147483647 : Int32)) - ((d' &&& (2147483647 : Int32)) / (4 : Int32)) * (4 : Int32)))) - ((((s' &&& (2147483647 : Int32)) - ((s' &&& (2147483647 : Int32)) / (5 : Int32)) * (5 : Int32)) + ((1 : Int32) + ((d' &&& (2147483647 : Int32)) - ((d' &&& (2147483647 : Int32)) / (4 : Int32)) * (4 : Int32)))) / (5 : Int32)) * (5 : Int32))), .val (.int ((((s' &&& (2147483647 : Int32)) - ((s' &&& (2147483647 : Int32)) / (5 : Int32)) * (5 : Int32)) + ((2 : Int32) * ((1 : Int32) + ((d' &&& (2147483647 : Int32)) - ((d' &&& (2147483647 : Int32)) / (4 : Int32)) * (4 : Int32))))) - ((((s' &&& (2147483647 : Int32)) - ((s' &&& (2147483647 : Int32)) / (5 : Int32)) * (5 : Int32)) + ((2 : Int32) * ((1 : Int32) + ((d' &&& (2147483647 : Int32)) - ((d' &&& (2147483647 : Int32)) / (4 : Int32)) * (4 : Int32))))) / (5 : Int32)) * (5 : Int32))), .unset, .unset, .unset] [(.int (5 : Int32)), (.int (((s' &&& (2147483647 : Int32)) - ((s' &&& (2147483647 : Int32)) / (5 : Int32)) * (5 : Int32)) + ((3 : Int32) * ((1 : Int32) + ((d' &&& (2147483647 : Int32)) - ((d' &&& (2147483647 : Int32)) / (4 : Int32)) * (4 : Int32))))))])) (fun _ k_ => XS.iconst X12.here hx rfl (hb hby at_118) k_) ?_
  refine own_w (T' := T12) (g' := (mkF m 120 #[.val (.int k1'), .val (.int k2'), .val (.int k3'), .val (.int k4'), .val (.int s'), .val (.int d'), .val (.ref b1), .val (.ref b3), .val (.int ((s' &&& (2147483647 : Int32)) - ((s' &&& (2147483647 : Int32)) / (5 : Int32)) * (5 : Int32))), .val (.int ((1 : Int32) + ((d' &&& (2147483647 : Int32)) - ((d' &&& (2147483647 : Int32)) / (4 : Int32)) * (4 : Int32)))), .val (.int ((s' &&& (2147483647 : Int32)) - ((s' &&& (2147483647 : Int32)) / (5 : Int32)) * (5 : Int32))), .val (.int ((((s' &&& (2147483647 : Int32)) - ((s' &&& (2147483647 : Int32)) / (5 : Int32)) * (5 : Int32)) + ((1 : Int32) + ((d' &&& (2147483647 : Int32)) - ((d' &&& (2147483647 : Int32)) / (4 : Int32)) * (4 : Int32)))) - ((((s' &&& (2147483647 : Int32)) - ((s' &&& (2147483647 : Int32)) / (5 : Int32)) * (5 : Int32)) + ((1 : Int32) + ((d' &&& (2147483647 : Int32)) - ((d' &&& (2147483647 : Int32)) / (4 : Int32)) * (4 : Int32)))) / (5 : Int32)) * (5 : Int32))), .val (.int ((((s' &&& (2147483647 : Int32)) - ((s' &&& (2147483647 : Int32)) / (5 : Int32)) * (5 : Int32)) + ((2 : Int32) * ((1 : Int32) + ((d' &&& (2147483647 : Int32)) - ((d' &&& (2147483647 : Int32)) / (4 : Int32)) * (4 : Int32))))) - ((((s' &&& (2147483647 : Int32)) - ((s' &&& (2147483647 : Int32)) / (5 : Int32)) * (5 : Int32)) + ((2 : Int32) * ((1 : Int32) + ((d' &&& (2147483647 : Int32)) - ((d' &&& (2147483647 : Int32)) / (4 : Int32)) * (4 : Int32))))) / (5 : Int32)) * (5 : Int32))), .unset, .unset, .unset] [(.int ((((s' &&& (2147483647 : Int32)) - ((s' &&& (2147483647 : Int32)) / (5 : Int32)) * (5 : Int32)) + ((3 : Int32) * ((1 : Int32) + ((d' &&& (2147483647 : Int32)) - ((d' &&& (2147483647 : Int32)) / (4 : Int32)) * (4 : Int32))))) - ((((s' &&& (2147483647 : Int32)) - ((s' &&& (2147483647 : Int32)) / (5 : Int32)) * (5 : Int32)) + ((3 : Int32) * ((1 : Int32) + ((d' &&& (2147483647 : Int32)) - ((d' &&& (2147483647 : Int32)) / (4 : Int32)) * (4 : Int32))))) / (5 : Int32)) * (5 : Int32)))])) (fun _ k_ => XS.irem X12.here hx rfl (hb hby at_119) rfl (by decide) k_) ?_
  refine own_w (T' := T12) (g' := (mkF m 122 #[.val (.int k1'), .val (.int k2'), .val (.int k3'), .val (.int k4'), .val (.int s'), .val (.int d'), .val (.ref b1), .val (.ref b3), .val (.int ((s' &&& (2147483647 : Int32)) - ((s' &&& (2147483647 : Int32)) / (5 : Int32)) * (5 : Int32))), .val (.int ((1 : Int32) + ((d' &&& (2147483647 : Int32)) - ((d' &&& (2147483647 : Int32)) / (4 : Int32)) * (4 : Int32)))), .val (.int ((s' &&& (2147483647 : Int32)) - ((s' &&& (2147483647 : Int32)) / (5 : Int32)) * (5 : Int32))), .val (.int ((((s' &&& (2147483647 : Int32)) - ((s' &&& (2147483647 : Int32)) / (5 : Int32)) * (5 : Int32)) + ((1 : Int32) + ((d' &&& (2147483647 : Int32)) - ((d' &&& (2147483647 : Int32)) / (4 : Int32)) * (4 : Int32)))) - ((((s' &&& (2147483647 : Int32)) - ((s' &&& (2147483647 : Int32)) / (5 : Int32)) * (5 : Int32)) + ((1 : Int32) + ((d' &&& (2147483647 : Int32)) - ((d' &&& (2147483647 : Int32)) / (4 : Int32)) * (4 : Int32)))) / (5 : Int32)) * (5 : Int32))), .val (.int ((((s' &&& (2147483647 : Int32)) - ((s' &&& (2147483647 : Int32)) / (5 : Int32)) * (5 : Int32)) + ((2 : Int32) * ((1 : Int32) + ((d' &&& (2147483647 : Int32)) - ((d' &&& (2147483647 : Int32)) / (4 : Int32)) * (4 : Int32))))) - ((((s' &&& (2147483647 : Int32)) - ((s' &&& (2147483647 : Int32)) / (5 : Int32)) * (5 : Int32)) + ((2 : Int32) * ((1 : Int32) + ((d' &&& (2147483647 : Int32)) - ((d' &&& (2147483647 : Int32)) / (4 : Int32)) * (4 : Int32))))) / (5 : Int32)) * (5 : Int32))), .val (.int ((((s' &&& (2147483647 : Int32)) - ((s' &&& (2147483647 : Int32)) / (5 : Int32)) * (5 : Int32)) + ((3 : Int32) * ((1 : Int32) + ((d' &&& (2147483647 : Int32)) - ((d' &&& (2147483647 : Int32)) / (4 : Int32)) * (4 : Int32))))) - ((((s' &&& (2147483647 : Int32)) - ((s' &&& (2147483647 : Int32)) / (5 : Int32)) * (5 : Int32)) + ((3 : Int32) * ((1 : Int32) + ((d' &&& (2147483647 : Int32)) - ((d' &&& (2147483647 : Int32)) / (4 : Int32)) * (4 : Int32))))) / (5 : Int32)) * (5 : Int32))), .unset, .unset] [])) (fun _ k_ => XS.istore X12.here hx rfl (hb hby at_120) rfl (l' := #[.val (.int k1'), .val (.int k2'), .val (.int k3'), .val (.int k4'), .val (.int s'), .val (.int d'), .val (.ref b1), .val (.ref b3), .val (.int ((s' &&& (2147483647 : Int32)) - ((s' &&& (2147483647 : Int32)) / (5 : Int32)) * (5 : Int32))), .val (.int ((1 : Int32) + ((d' &&& (2147483647 : Int32)) - ((d' &&& (2147483647 : Int32)) / (4 : Int32)) * (4 : Int32)))), .val (.int ((s' &&& (2147483647 : Int32)) - ((s' &&& (2147483647 : Int32)) / (5 : Int32)) * (5 : Int32))), .val (.int ((((s' &&& (2147483647 : Int32)) - ((s' &&& (2147483647 : Int32)) / (5 : Int32)) * (5 : Int32)) + ((1 : Int32) + ((d' &&& (2147483647 : Int32)) - ((d' &&& (2147483647 : Int32)) / (4 : Int32)) * (4 : Int32)))) - ((((s' &&& (2147483647 : Int32)) - ((s' &&& (2147483647 : Int32)) / (5 : Int32)) * (5 : Int32)) + ((1 : Int32) + ((d' &&& (2147483647 : Int32)) - ((d' &&& (2147483647 : Int32)) / (4 : Int32)) * (4 : Int32)))) / (5 : Int32)) * (5 : Int32))), .val (.int ((((s' &&& (2147483647 : Int32)) - ((s' &&& (2147483647 : Int32)) / (5 : Int32)) * (5 : Int32)) + ((2 : Int32) * ((1 : Int32) + ((d' &&& (2147483647 : Int32)) - ((d' &&& (2147483647 : Int32)) / (4 : Int32)) * (4 : Int32))))) - ((((s' &&& (2147483647 : Int32)) - ((s' &&& (2147483647 : Int32)) / (5 : Int32)) * (5 : Int32)) + ((2 : Int32) * ((1 : Int32) + ((d' &&& (2147483647 : Int32)) - ((d' &&& (2147483647 : Int32)) / (4 : Int32)) * (4 : Int32))))) / (5 : Int32)) * (5 : Int32))), .val (.int ((((s' &&& (2147483647 : Int32)) - ((s' &&& (2147483647 : Int32)) / (5 : Int32)) * (5 : Int32)) + ((3 : Int32) * ((1 : Int32) + ((d' &&& (2147483647 : Int32)) - ((d' &&& (2147483647 : Int32)) / (4 : Int32)) * (4 : Int32))))) - ((((s' &&& (2147483647 : Int32)) - ((s' &&& (2147483647 : Int32)) / (5 : Int32)) * (5 : Int32)) + ((3 : Int32) * ((1 : Int32) + ((d' &&& (2147483647 : Int32)) - ((d' &&& (2147483647 : Int32)) / (4 : Int32)) * (4 : Int32))))) / (5 : Int32)) * (5 : Int32))), .unset, .unset]) rfl k_) ?_
  refine own_w (T' := T12) (g' := (mkF m 124 #[.val (.int k1'), .val (.int k2'), .val (.int k3'), .val (.int k4'), .val (.int s'), .val (.int d'), .val (.ref b1), .val (.ref b3), .val (.int ((s' &&& (2147483647 : Int32)) - ((s' &&& (2147483647 : Int32)) / (5 : Int32)) * (5 : Int32))), .val (.int ((1 : Int32) + ((d' &&& (2147483647 : Int32)) - ((d' &&& (2147483647 : Int32)) / (4 : Int32)) * (4 : Int32)))), .val (.int ((s' &&& (2147483647 : Int32)) - ((s' &&& (2147483647 : Int32)) / (5 : Int32)) * (5 : Int32))), .val (.int ((((s' &&& (2147483647 : Int32)) - ((s' &&& (2147483647 : Int32)) / (5 : Int32)) * (5 : Int32)) + ((1 : Int32) + ((d' &&& (2147483647 : Int32)) - ((d' &&& (2147483647 : Int32)) / (4 : Int32)) * (4 : Int32)))) - ((((s' &&& (2147483647 : Int32)) - ((s' &&& (2147483647 : Int32)) / (5 : Int32)) * (5 : Int32)) + ((1 : Int32) + ((d' &&& (2147483647 : Int32)) - ((d' &&& (2147483647 : Int32)) / (4 : Int32)) * (4 : Int32)))) / (5 : Int32)) * (5 : Int32))), .val (.int ((((s' &&& (2147483647 : Int32)) - ((s' &&& (2147483647 : Int32)) / (5 : Int32)) * (5 : Int32)) + ((2 : Int32) * ((1 : Int32) + ((d' &&& (2147483647 : Int32)) - ((d' &&& (2147483647 : Int32)) / (4 : Int32)) * (4 : Int32))))) - ((((s' &&& (2147483647 : Int32)) - ((s' &&& (2147483647 : Int32)) / (5 : Int32)) * (5 : Int32)) + ((2 : Int32) * ((1 : Int32) + ((d' &&& (2147483647 : Int32)) - ((d' &&& (2147483647 : Int32)) / (4 : Int32)) * (4 : Int32))))) / (5 : Int32)) * (5 : Int32))), .val (.int ((((s' &&& (2147483647 : Int32)) - ((s' &&& (2147483647 : Int32)) / (5 : Int32)) * (5 : Int32)) + ((3 : Int32) * ((1 : Int32) + ((d' &&& (2147483647 : Int32)) - ((d' &&& (2147483647 : Int32)) / (4 : Int32)) * (4 : Int32))))) - ((((s' &&& (2147483647 : Int32)) - ((s' &&& (2147483647 : Int32)) / (5 : Int32)) * (5 : Int32)) + ((3 : Int32) * ((1 : Int32) + ((d' &&& (2147483647 : Int32)) - ((d' &&& (2147483647 : Int32)) / (4 : Int32)) * (4 : Int32))))) / (5 : Int32)) * (5 : Int32))), .unset, .unset] [(.int ((s' &&& (2147483647 : Int32)) - ((s' &&& (2147483647 : Int32)) / (5 : Int32)) * (5 : Int32)))])) (fun _ k_ => XS.iload X12.here hx rfl (hb hby at_122) rfl k_) ?_
  refine own_w (T' := T12) (g' := (mkF m 125 #[.val (.int k1'), .val (.int k2'), .val (.int k3'), .val (.int k4'), .val (.int s'), .val (.int d'), .val (.ref b1), .val (.ref b3), .val (.int ((s' &&& (2147483647 : Int32)) - ((s' &&& (2147483647 : Int32)) / (5 : Int32)) * (5 : Int32))), .val (.int ((1 : Int32) + ((d' &&& (2147483647 : Int32)) - ((d' &&& (2147483647 : Int32)) / (4 : Int32)) * (4 : Int32)))), .val (.int ((s' &&& (2147483647 : Int32)) - ((s' &&& (2147483647 : Int32)) / (5 : Int32)) * (5 : Int32))), .val (.int ((((s' &&& (2147483647 : Int32)) - ((s' &&& (2147483647 : Int32)) / (5 : Int32)) * (5 : Int32)) + ((1 : Int32) + ((d' &&& (2147483647 : Int32)) - ((d' &&& (2147483647 : Int32)) / (4 : Int32)) * (4 : Int32)))) - ((((s' &&& (2147483647 : Int32)) - ((s' &&& (2147483647 : Int32)) / (5 : Int32)) * (5 : Int32)) + ((1 : Int32) + ((d' &&& (2147483647 : Int32)) - ((d' &&& (2147483647 : Int32)) / (4 : Int32)) * (4 : Int32)))) / (5 : Int32)) * (5 : Int32))), .val (.int ((((s' &&& (2147483647 : Int32)) - ((s' &&& (2147483647 : Int32)) / (5 : Int32)) * (5 : Int32)) + ((2 : Int32) * ((1 : Int32) + ((d' &&& (2147483647 : Int32)) - ((d' &&& (2147483647 : Int32)) / (4 : Int32)) * (4 : Int32))))) - ((((s' &&& (2147483647 : Int32)) - ((s' &&& (2147483647 : Int32)) / (5 : Int32)) * (5 : Int32)) + ((2 : Int32) * ((1 : Int32) + ((d' &&& (2147483647 : Int32)) - ((d' &&& (2147483647 : Int32)) / (4 : Int32)) * (4 : Int32))))) / (5 : Int32)) * (5 : Int32))), .val (.int ((((s' &&& (2147483647 : Int32)) - ((s' &&& (2147483647 : Int32)) / (5 : Int32)) * (5 : Int32)) + ((3 : Int32) * ((1 : Int32) + ((d' &&& (2147483647 : Int32)) - ((d' &&& (2147483647 : Int32)) / (4 : Int32)) * (4 : Int32))))) - ((((s' &&& (2147483647 : Int32)) - ((s' &&& (2147483647 : Int32)) / (5 : Int32)) * (5 : Int32)) + ((3 : Int32) * ((1 : Int32) + ((d' &&& (2147483647 : Int32)) - ((d' &&& (2147483647 : Int32)) / (4 : Int32)) * (4 : Int32))))) / (5 : Int32)) * (5 : Int32))), .unset, .unset] [(.int (4 : Int32)), (.int ((s' &&& (2147483647 : Int32)) - ((s' &&& (2147483647 : Int32)) / (5 : Int32)) * (5 : Int32)))])) (fun _ k_ => XS.iconst X12.here hx rfl (hb hby at_124) k_) ?_
  refine own_w (T' := T12) (g' := (mkF m 127 #[.val (.int k1'), .val (.int k2'), .val (.int k3'), .val (.int k4'), .val (.int s'), .val (.int d'), .val (.ref b1), .val (.ref b3), .val (.int ((s' &&& (2147483647 : Int32)) - ((s' &&& (2147483647 : Int32)) / (5 : Int32)) * (5 : Int32))), .val (.int ((1 : Int32) + ((d' &&& (2147483647 : Int32)) - ((d' &&& (2147483647 : Int32)) / (4 : Int32)) * (4 : Int32)))), .val (.int ((s' &&& (2147483647 : Int32)) - ((s' &&& (2147483647 : Int32)) / (5 : Int32)) * (5 : Int32))), .val (.int ((((s' &&& (2147483647 : Int32)) - ((s' &&& (2147483647 : Int32)) / (5 : Int32)) * (5 : Int32)) + ((1 : Int32) + ((d' &&& (2147483647 : Int32)) - ((d' &&& (2147483647 : Int32)) / (4 : Int32)) * (4 : Int32)))) - ((((s' &&& (2147483647 : Int32)) - ((s' &&& (2147483647 : Int32)) / (5 : Int32)) * (5 : Int32)) + ((1 : Int32) + ((d' &&& (2147483647 : Int32)) - ((d' &&& (2147483647 : Int32)) / (4 : Int32)) * (4 : Int32)))) / (5 : Int32)) * (5 : Int32))), .val (.int ((((s' &&& (2147483647 : Int32)) - ((s' &&& (2147483647 : Int32)) / (5 : Int32)) * (5 : Int32)) + ((2 : Int32) * ((1 : Int32) + ((d' &&& (2147483647 : Int32)) - ((d' &&& (2147483647 : Int32)) / (4 : Int32)) * (4 : Int32))))) - ((((s' &&& (2147483647 : Int32)) - ((s' &&& (2147483647 : Int32)) / (5 : Int32)) * (5 : Int32)) + ((2 : Int32) * ((1 : Int32) + ((d' &&& (2147483647 : Int32)) - ((d' &&& (2147483647 : Int32)) / (4 : Int32)) * (4 : Int32))))) / (5 : Int32)) * (5 : Int32))), .val (.int ((((s' &&& (2147483647 : Int32)) - ((s' &&& (2147483647 : Int32)) / (5 : Int32)) * (5 : Int32)) + ((3 : Int32) * ((1 : Int32) + ((d' &&& (2147483647 : Int32)) - ((d' &&& (2147483647 : Int32)) / (4 : Int32)) * (4 : Int32))))) - ((((s' &&& (2147483647 : Int32)) - ((s' &&& (2147483647 : Int32)) / (5 : Int32)) * (5 : Int32)) + ((3 : Int32) * ((1 : Int32) + ((d' &&& (2147483647 : Int32)) - ((d' &&& (2147483647 : Int32)) / (4 : Int32)) * (4 : Int32))))) / (5 : Int32)) * (5 : Int32))), .unset, .unset] [(.int ((1 : Int32) + ((d' &&& (2147483647 : Int32)) - ((d' &&& (2147483647 : Int32)) / (4 : Int32)) * (4 : Int32)))), (.int (4 : Int32)), (.int ((s' &&& (2147483647 : Int32)) - ((s' &&& (2147483647 : Int32)) / (5 : Int32)) * (5 : Int32)))])) (fun _ k_ => XS.iload X12.here hx rfl (hb hby at_125) rfl k_) ?_
  refine own_w (T' := T12) (g' := (mkF m 128 #[.val (.int k1'), .val (.int k2'), .val (.int k3'), .val (.int k4'), .val (.int s'), .val (.int d'), .val (.ref b1), .val (.ref b3), .val (.int ((s' &&& (2147483647 : Int32)) - ((s' &&& (2147483647 : Int32)) / (5 : Int32)) * (5 : Int32))), .val (.int ((1 : Int32) + ((d' &&& (2147483647 : Int32)) - ((d' &&& (2147483647 : Int32)) / (4 : Int32)) * (4 : Int32)))), .val (.int ((s' &&& (2147483647 : Int32)) - ((s' &&& (2147483647 : Int32)) / (5 : Int32)) * (5 : Int32))), .val (.int ((((s' &&& (2147483647 : Int32)) - ((s' &&& (2147483647 : Int32)) / (5 : Int32)) * (5 : Int32)) + ((1 : Int32) + ((d' &&& (2147483647 : Int32)) - ((d' &&& (2147483647 : Int32)) / (4 : Int32)) * (4 : Int32)))) - ((((s' &&& (2147483647 : Int32)) - ((s' &&& (2147483647 : Int32)) / (5 : Int32)) * (5 : Int32)) + ((1 : Int32) + ((d' &&& (2147483647 : Int32)) - ((d' &&& (2147483647 : Int32)) / (4 : Int32)) * (4 : Int32)))) / (5 : Int32)) * (5 : Int32))), .val (.int ((((s' &&& (2147483647 : Int32)) - ((s' &&& (2147483647 : Int32)) / (5 : Int32)) * (5 : Int32)) + ((2 : Int32) * ((1 : Int32) + ((d' &&& (2147483647 : Int32)) - ((d' &&& (2147483647 : Int32)) / (4 : Int32)) * (4 : Int32))))) - ((((s' &&& (2147483647 : Int32)) - ((s' &&& (2147483647 : Int32)) / (5 : Int32)) * (5 : Int32)) + ((2 : Int32) * ((1 : Int32) + ((d' &&& (2147483647 : Int32)) - ((d' &&& (2147483647 : Int32)) / (4 : Int32)) * (4 : Int32))))) / (5 : Int32)) * (5 : Int32))), .val (.int ((((s' &&& (2147483647 : Int32)) - ((s' &&& (2147483647 : Int32)) / (5 : Int32)) * (5 : Int32)) + ((3 : Int32) * ((1 : Int32) + ((d' &&& (2147483647 : Int32)) - ((d' &&& (2147483647 : Int32)) / (4 : Int32)) * (4 : Int32))))) - ((((s' &&& (2147483647 : Int32)) - ((s' &&& (2147483647 : Int32)) / (5 : Int32)) * (5 : Int32)) + ((3 : Int32) * ((1 : Int32) + ((d' &&& (2147483647 : Int32)) - ((d' &&& (2147483647 : Int32)) / (4 : Int32)) * (4 : Int32))))) / (5 : Int32)) * (5 : Int32))), .unset, .unset] [(.int ((4 : Int32) * ((1 : Int32) + ((d' &&& (2147483647 : Int32)) - ((d' &&& (2147483647 : Int32)) / (4 : Int32)) * (4 : Int32))))), (.int ((s' &&& (2147483647 : Int32)) - ((s' &&& (2147483647 : Int32)) / (5 : Int32)) * (5 : Int32)))])) (fun _ k_ => XS.imul X12.here hx rfl (hb hby at_127) rfl k_) ?_
  refine own_w (T' := T12) (g' := (mkF m 129 #[.val (.int k1'), .val (.int k2'), .val (.int k3'), .val (.int k4'), .val (.int s'), .val (.int d'), .val (.ref b1), .val (.ref b3), .val (.int ((s' &&& (2147483647 : Int32)) - ((s' &&& (2147483647 : Int32)) / (5 : Int32)) * (5 : Int32))), .val (.int ((1 : Int32) + ((d' &&& (2147483647 : Int32)) - ((d' &&& (2147483647 : Int32)) / (4 : Int32)) * (4 : Int32)))), .val (.int ((s' &&& (2147483647 : Int32)) - ((s' &&& (2147483647 : Int32)) / (5 : Int32)) * (5 : Int32))), .val (.int ((((s' &&& (2147483647 : Int32)) - ((s' &&& (2147483647 : Int32)) / (5 : Int32)) * (5 : Int32)) + ((1 : Int32) + ((d' &&& (2147483647 : Int32)) - ((d' &&& (2147483647 : Int32)) / (4 : Int32)) * (4 : Int32)))) - ((((s' &&& (2147483647 : Int32)) - ((s' &&& (2147483647 : Int32)) / (5 : Int32)) * (5 : Int32)) + ((1 : Int32) + ((d' &&& (2147483647 : Int32)) - ((d' &&& (2147483647 : Int32)) / (4 : Int32)) * (4 : Int32)))) / (5 : Int32)) * (5 : Int32))), .val (.int ((((s' &&& (2147483647 : Int32)) - ((s' &&& (2147483647 : Int32)) / (5 : Int32)) * (5 : Int32)) + ((2 : Int32) * ((1 : Int32) + ((d' &&& (2147483647 : Int32)) - ((d' &&& (2147483647 : Int32)) / (4 : Int32)) * (4 : Int32))))) - ((((s' &&& (2147483647 : Int32)) - ((s' &&& (2147483647 : Int32)) / (5 : Int32)) * (5 : Int32)) + ((2 : Int32) * ((1 : Int32) + ((d' &&& (2147483647 : Int32)) - ((d' &&& (2147483647 : Int32)) / (4 : Int32)) * (4 : Int32))))) / (5 : Int32)) * (5 : Int32))), .val (.int ((((s' &&& (2147483647 : Int32)) - ((s' &&& (2147483647 : Int32)) / (5 : Int32)) * (5 : Int32)) + ((3 : Int32) * ((1 : Int32) + ((d' &&& (2147483647 : Int32)) - ((d' &&& (2147483647 : Int32)) / (4 : Int32)) * (4 : Int32))))) - ((((s' &&& (2147483647 : Int32)) - ((s' &&& (2147483647 : Int32)) / (5 : Int32)) * (5 : Int32)) + ((3 : Int32) * ((1 : Int32) + ((d' &&& (2147483647 : Int32)) - ((d' &&& (2147483647 : Int32)) / (4 : Int32)) * (4 : Int32))))) / (5 : Int32)) * (5 : Int32))), .unset, .unset] [(.int (((s' &&& (2147483647 : Int32)) - ((s' &&& (2147483647 : Int32)) / (5 : Int32)) * (5 : Int32)) + ((4 : Int32) * ((1 : Int32) + ((d' &&& (2147483647 : Int32)) - ((d' &&& (2147483647 : Int32)) / (4 : Int32)) * (4 : Int32))))))])) (fun _ k_ => XS.iadd X12.here hx rfl (hb hby at_128) rfl k_) ?_
  refine own_w (T' := T12) (g' := (mkF m 130 #[.val (.int k1'), .val (.int k2'), .val (.int k3'), .val (.int k4'), .val (.int s'), .val (.int d'), .val (.ref b1), .val (.ref b3), .val (.int ((s' &&& (2147483647 : Int32)) - ((s' &&& (2147483647 : Int32)) / (5 : Int32)) * (5 : Int32))), .val (.int ((1 : Int32) + ((d' &&& (2147483647 : Int32)) - ((d' &&& (2147483647 : Int32)) / (4 : Int32)) * (4 : Int32)))), .val (.int ((s' &&& (2147483647 : Int32)) - ((s' &&& (2147483647 : Int32)) / (5 : Int32)) * (5 : Int32))), .val (.int ((((s' &&& (2147483647 : Int32)) - ((s' &&& (2147483647 : Int32)) / (5 : Int32)) * (5 : Int32)) + ((1 : Int32) + ((d' &&& (2147483647 : Int32)) - ((d' &&& (2147483647 : Int32)) / (4 : Int32)) * (4 : Int32)))) - ((((s' &&& (2147483647 : Int32)) - ((s' &&& (2147483647 : Int32)) / (5 : Int32)) * (5 : Int32)) + ((1 : Int32) + ((d' &&& (2147483647 : Int32)) - ((d' &&& (2147483647 : Int32)) / (4 : Int32)) * (4 : Int32)))) / (5 : Int32)) * (5 : Int32))), .val (.int ((((s' &&& (2147483647 : Int32)) - ((s' &&& (2147483647 : Int32)) / (5 : Int32)) * (5 : Int32)) + ((2 : Int32) * ((1 : Int32) + ((d' &&& (2147483647 : Int32)) - ((d' &&& (2147483647 : Int32)) / (4 : Int32)) * (4 : Int32))))) - ((((s' &&& (2147483647 : Int32)) - ((s' &&& (2147483647 : Int32)) / (5 : Int32)) * (5 : Int32)) + ((2 : Int32) * ((1 : Int32) + ((d' &&& (2147483647 : Int32)) - ((d' &&& (2147483647 : Int32)) / (4 : Int32)) * (4 : Int32))))) / (5 : Int32)) * (5 : Int32))), .val (.int ((((s' &&& (2147483647 : Int32)) - ((s' &&& (2147483647 : Int32)) / (5 : Int32)) * (5 : Int32)) + ((3 : Int32) * ((1 : Int32) + ((d' &&& (2147483647 : Int32)) - ((d' &&& (2147483647 : Int32)) / (4 : Int32)) * (4 : Int32))))) - ((((s' &&& (2147483647 : Int32)) - ((s' &&& (2147483647 : Int32)) / (5 : Int32)) * (5 : Int32)) + ((3 : Int32) * ((1 : Int32) + ((d' &&& (2147483647 : Int32)) - ((d' &&& (2147483647 : Int32)) / (4 : Int32)) * (4 : Int32))))) / (5 : Int32)) * (5 : Int32))), .unset, .unset] [(.int (5 : Int32)), (.int (((s' &&& (2147483647 : Int32)) - ((s' &&& (2147483647 : Int32)) / (5 : Int32)) * (5 : Int32)) + ((4 : Int32) * ((1 : Int32) + ((d' &&& (2147483647 : Int32)) - ((d' &&& (2147483647 : Int32)) / (4 : Int32)) * (4 : Int32))))))])) (fun _ k_ => XS.iconst X12.here hx rfl (hb hby at_129) k_) ?_
  refine own_w (T' := T12) (g' := (mkF m 131 #[.val (.int k1'), .val (.int k2'), .val (.int k3'), .val (.int k4'), .val (.int s'), .val (.int d'), .val (.ref b1), .val (.ref b3), .val (.int ((s' &&& (2147483647 : Int32)) - ((s' &&& (2147483647 : Int32)) / (5 : Int32)) * (5 : Int32))), .val (.int ((1 : Int32) + ((d' &&& (2147483647 : Int32)) - ((d' &&& (2147483647 : Int32)) / (4 : Int32)) * (4 : Int32)))), .val (.int ((s' &&& (2147483647 : Int32)) - ((s' &&& (2147483647 : Int32)) / (5 : Int32)) * (5 : Int32))), .val (.int ((((s' &&& (2147483647 : Int32)) - ((s' &&& (2147483647 : Int32)) / (5 : Int32)) * (5 : Int32)) + ((1 : Int32) + ((d' &&& (2147483647 : Int32)) - ((d' &&& (2147483647 : Int32)) / (4 : Int32)) * (4 : Int32)))) - ((((s' &&& (2147483647 : Int32)) - ((s' &&& (2147483647 : Int32)) / (5 : Int32)) * (5 : Int32)) + ((1 : Int32) + ((d' &&& (2147483647 : Int32)) - ((d' &&& (2147483647 : Int32)) / (4 : Int32)) * (4 : Int32)))) / (5 : Int32)) * (5 : Int32))), .val (.int ((((s' &&& (2147483647 : Int32)) - ((s' &&& (2147483647 : Int32)) / (5 : Int32)) * (5 : Int32)) + ((2 : Int32) * ((1 : Int32) + ((d' &&& (2147483647 : Int32)) - ((d' &&& (2147483647 : Int32)) / (4 : Int32)) * (4 : Int32))))) - ((((s' &&& (2147483647 : Int32)) - ((s' &&& (2147483647 : Int32)) / (5 : Int32)) * (5 : Int32)) + ((2 : Int32) * ((1 : Int32) + ((d' &&& (2147483647 : Int32)) - ((d' &&& (2147483647 : Int32)) / (4 : Int32)) * (4 : Int32))))) / (5 : Int32)) * (5 : Int32))), .val (.int ((((s' &&& (2147483647 : Int32)) - ((s' &&& (2147483647 : Int32)) / (5 : Int32)) * (5 : Int32)) + ((3 : Int32) * ((1 : Int32) + ((d' &&& (2147483647 : Int32)) - ((d' &&& (2147483647 : Int32)) / (4 : Int32)) * (4 : Int32))))) - ((((s' &&& (2147483647 : Int32)) - ((s' &&& (2147483647 : Int32)) / (5 : Int32)) * (5 : Int32)) + ((3 : Int32) * ((1 : Int32) + ((d' &&& (2147483647 : Int32)) - ((d' &&& (2147483647 : Int32)) / (4 : Int32)) * (4 : Int32))))) / (5 : Int32)) * (5 : Int32))), .unset, .unset] [(.int ((((s' &&& (2147483647 : Int32)) - ((s' &&& (2147483647 : Int32)) / (5 : Int32)) * (5 : Int32)) + ((4 : Int32) * ((1 : Int32) + ((d' &&& (2147483647 : Int32)) - ((d' &&& (2147483647 : Int32)) / (4 : Int32)) * (4 : Int32))))) - ((((s' &&& (2147483647 : Int32)) - ((s' &&& (2147483647 : Int32)) / (5 : Int32)) * (5 : Int32)) + ((4 : Int32) * ((1 : Int32) + ((d' &&& (2147483647 : Int32)) - ((d' &&& (2147483647 : Int32)) / (4 : Int32)) * (4 : Int32))))) / (5 : Int32)) * (5 : Int32)))])) (fun _ k_ => XS.irem X12.here hx rfl (hb hby at_130) rfl (by decide) k_) ?_
  refine own_w (T' := T12) (g' := (mkF m 133 #[.val (.int k1'), .val (.int k2'), .val (.int k3'), .val (.int k4'), .val (.int s'), .val (.int d'), .val (.ref b1), .val (.ref b3), .val (.int ((s' &&& (2147483647 : Int32)) - ((s' &&& (2147483647 : Int32)) / (5 : Int32)) * (5 : Int32))), .val (.int ((1 : Int32) + ((d' &&& (2147483647 : Int32)) - ((d' &&& (2147483647 : Int32)) / (4 : Int32)) * (4 : Int32)))), .val (.int ((s' &&& (2147483647 : Int32)) - ((s' &&& (2147483647 : Int32)) / (5 : Int32)) * (5 : Int32))), .val (.int ((((s' &&& (2147483647 : Int32)) - ((s' &&& (2147483647 : Int32)) / (5 : Int32)) * (5 : Int32)) + ((1 : Int32) + ((d' &&& (2147483647 : Int32)) - ((d' &&& (2147483647 : Int32)) / (4 : Int32)) * (4 : Int32)))) - ((((s' &&& (2147483647 : Int32)) - ((s' &&& (2147483647 : Int32)) / (5 : Int32)) * (5 : Int32)) + ((1 : Int32) + ((d' &&& (2147483647 : Int32)) - ((d' &&& (2147483647 : Int32)) / (4 : Int32)) * (4 : Int32)))) / (5 : Int32)) * (5 : Int32))), .val (.int ((((s' &&& (2147483647 : Int32)) - ((s' &&& (2147483647 : Int32)) / (5 : Int32)) * (5 : Int32)) + ((2 : Int32) * ((1 : Int32) + ((d' &&& (2147483647 : Int32)) - ((d' &&& (2147483647 : Int32)) / (4 : Int32)) * (4 : Int32))))) - ((((s' &&& (2147483647 : Int32)) - ((s' &&& (2147483647 : Int32)) / (5 : Int32)) * (5 : Int32)) + ((2 : Int32) * ((1 : Int32) + ((d' &&& (2147483647 : Int32)) - ((d' &&& (2147483647 : Int32)) / (4 : Int32)) * (4 : Int32))))) / (5 : Int32)) * (5 : Int32))), .val (.int ((((s' &&& (2147483647 : Int32)) - ((s' &&& (2147483647 : Int32)) / (5 : Int32)) * (5 : Int32)) + ((3 : Int32) * ((1 : Int32) + ((d' &&& (2147483647 : Int32)) - ((d' &&& (2147483647 : Int32)) / (4 : Int32)) * (4 : Int32))))) - ((((s' &&& (2147483647 : Int32)) - ((s' &&& (2147483647 : Int32)) / (5 : Int32)) * (5 : Int32)) + ((3 : Int32) * ((1 : Int32) + ((d' &&& (2147483647 : Int32)) - ((d' &&& (2147483647 : Int32)) / (4 : Int32)) * (4 : Int32))))) / (5 : Int32)) * (5 : Int32))), .val (.int ((((s' &&& (2147483647 : Int32)) - ((s' &&& (2147483647 : Int32)) / (5 : Int32)) * (5 : Int32)) + ((4 : Int32) * ((1 : Int32) + ((d' &&& (2147483647 : Int32)) - ((d' &&& (2147483647 : Int32)) / (4 : Int32)) * (4 : Int32))))) - ((((s' &&& (2147483647 : Int32)) - ((s' &&& (2147483647 : Int32)) / (5 : Int32)) * (5 : Int32)) + ((4 : Int32) * ((1 : Int32) + ((d' &&& (2147483647 : Int32)) - ((d' &&& (2147483647 : Int32)) / (4 : Int32)) * (4 : Int32))))) / (5 : Int32)) * (5 : Int32))), .unset] [])) (fun _ k_ => XS.istore X12.here hx rfl (hb hby at_131) rfl (l' := #[.val (.int k1'), .val (.int k2'), .val (.int k3'), .val (.int k4'), .val (.int s'), .val (.int d'), .val (.ref b1), .val (.ref b3), .val (.int ((s' &&& (2147483647 : Int32)) - ((s' &&& (2147483647 : Int32)) / (5 : Int32)) * (5 : Int32))), .val (.int ((1 : Int32) + ((d' &&& (2147483647 : Int32)) - ((d' &&& (2147483647 : Int32)) / (4 : Int32)) * (4 : Int32)))), .val (.int ((s' &&& (2147483647 : Int32)) - ((s' &&& (2147483647 : Int32)) / (5 : Int32)) * (5 : Int32))), .val (.int ((((s' &&& (2147483647 : Int32)) - ((s' &&& (2147483647 : Int32)) / (5 : Int32)) * (5 : Int32)) + ((1 : Int32) + ((d' &&& (2147483647 : Int32)) - ((d' &&& (2147483647 : Int32)) / (4 : Int32)) * (4 : Int32)))) - ((((s' &&& (2147483647 : Int32)) - ((s' &&& (2147483647 : Int32)) / (5 : Int32)) * (5 : Int32)) + ((1 : Int32) + ((d' &&& (2147483647 : Int32)) - ((d' &&& (2147483647 : Int32)) / (4 : Int32)) * (4 : Int32)))) / (5 : Int32)) * (5 : Int32))), .val (.int ((((s' &&& (2147483647 : Int32)) - ((s' &&& (2147483647 : Int32)) / (5 : Int32)) * (5 : Int32)) + ((2 : Int32) * ((1 : Int32) + ((d' &&& (2147483647 : Int32)) - ((d' &&& (2147483647 : Int32)) / (4 : Int32)) * (4 : Int32))))) - ((((s' &&& (2147483647 : Int32)) - ((s' &&& (2147483647 : Int32)) / (5 : Int32)) * (5 : Int32)) + ((2 : Int32) * ((1 : Int32) + ((d' &&& (2147483647 : Int32)) - ((d' &&& (2147483647 : Int32)) / (4 : Int32)) * (4 : Int32))))) / (5 : Int32)) * (5 : Int32))), .val (.int ((((s' &&& (2147483647 : Int32)) - ((s' &&& (2147483647 : Int32)) / (5 : Int32)) * (5 : Int32)) + ((3 : Int32) * ((1 : Int32) + ((d' &&& (2147483647 : Int32)) - ((d' &&& (2147483647 : Int32)) / (4 : Int32)) * (4 : Int32))))) - ((((s' &&& (2147483647 : Int32)) - ((s' &&& (2147483647 : Int32)) / (5 : Int32)) * (5 : Int32)) + ((3 : Int32) * ((1 : Int32) + ((d' &&& (2147483647 : Int32)) - ((d' &&& (2147483647 : Int32)) / (4 : Int32)) * (4 : Int32))))) / (5 : Int32)) * (5 : Int32))), .val (.int ((((s' &&& (2147483647 : Int32)) - ((s' &&& (2147483647 : Int32)) / (5 : Int32)) * (5 : Int32)) + ((4 : Int32) * ((1 : Int32) + ((d' &&& (2147483647 : Int32)) - ((d' &&& (2147483647 : Int32)) / (4 : Int32)) * (4 : Int32))))) - ((((s' &&& (2147483647 : Int32)) - ((s' &&& (2147483647 : Int32)) / (5 : Int32)) * (5 : Int32)) + ((4 : Int32) * ((1 : Int32) + ((d' &&& (2147483647 : Int32)) - ((d' &&& (2147483647 : Int32)) / (4 : Int32)) * (4 : Int32))))) / (5 : Int32)) * (5 : Int32))), .unset]) rfl k_) ?_
  refine own_w (T' := T12) (g' := (mkF m 134 #[.val (.int k1'), .val (.int k2'), .val (.int k3'), .val (.int k4'), .val (.int s'), .val (.int d'), .val (.ref b1), .val (.ref b3), .val (.int ((s' &&& (2147483647 : Int32)) - ((s' &&& (2147483647 : Int32)) / (5 : Int32)) * (5 : Int32))), .val (.int ((1 : Int32) + ((d' &&& (2147483647 : Int32)) - ((d' &&& (2147483647 : Int32)) / (4 : Int32)) * (4 : Int32)))), .val (.int ((s' &&& (2147483647 : Int32)) - ((s' &&& (2147483647 : Int32)) / (5 : Int32)) * (5 : Int32))), .val (.int ((((s' &&& (2147483647 : Int32)) - ((s' &&& (2147483647 : Int32)) / (5 : Int32)) * (5 : Int32)) + ((1 : Int32) + ((d' &&& (2147483647 : Int32)) - ((d' &&& (2147483647 : Int32)) / (4 : Int32)) * (4 : Int32)))) - ((((s' &&& (2147483647 : Int32)) - ((s' &&& (2147483647 : Int32)) / (5 : Int32)) * (5 : Int32)) + ((1 : Int32) + ((d' &&& (2147483647 : Int32)) - ((d' &&& (2147483647 : Int32)) / (4 : Int32)) * (4 : Int32)))) / (5 : Int32)) * (5 : Int32))), .val (.int ((((s' &&& (2147483647 : Int32)) - ((s' &&& (2147483647 : Int32)) / (5 : Int32)) * (5 : Int32)) + ((2 : Int32) * ((1 : Int32) + ((d' &&& (2147483647 : Int32)) - ((d' &&& (2147483647 : Int32)) / (4 : Int32)) * (4 : Int32))))) - ((((s' &&& (2147483647 : Int32)) - ((s' &&& (2147483647 : Int32)) / (5 : Int32)) * (5 : Int32)) + ((2 : Int32) * ((1 : Int32) + ((d' &&& (2147483647 : Int32)) - ((d' &&& (2147483647 : Int32)) / (4 : Int32)) * (4 : Int32))))) / (5 : Int32)) * (5 : Int32))), .val (.int ((((s' &&& (2147483647 : Int32)) - ((s' &&& (2147483647 : Int32)) / (5 : Int32)) * (5 : Int32)) + ((3 : Int32) * ((1 : Int32) + ((d' &&& (2147483647 : Int32)) - ((d' &&& (2147483647 : Int32)) / (4 : Int32)) * (4 : Int32))))) - ((((s' &&& (2147483647 : Int32)) - ((s' &&& (2147483647 : Int32)) / (5 : Int32)) * (5 : Int32)) + ((3 : Int32) * ((1 : Int32) + ((d' &&& (2147483647 : Int32)) - ((d' &&& (2147483647 : Int32)) / (4 : Int32)) * (4 : Int32))))) / (5 : Int32)) * (5 : Int32))), .val (.int ((((s' &&& (2147483647 : Int32)) - ((s' &&& (2147483647 : Int32)) / (5 : Int32)) * (5 : Int32)) + ((4 : Int32) * ((1 : Int32) + ((d' &&& (2147483647 : Int32)) - ((d' &&& (2147483647 : Int32)) / (4 : Int32)) * (4 : Int32))))) - ((((s' &&& (2147483647 : Int32)) - ((s' &&& (2147483647 : Int32)) / (5 : Int32)) * (5 : Int32)) + ((4 : Int32) * ((1 : Int32) + ((d' &&& (2147483647 : Int32)) - ((d' &&& (2147483647 : Int32)) / (4 : Int32)) * (4 : Int32))))) / (5 : Int32)) * (5 : Int32))), .unset] [(.int (1 : Int32))])) (fun _ k_ => XS.iconst X12.here hx rfl (hb hby at_133) k_) ?_
  refine own_w (T' := T12) (g' := (mkF m 136 #[.val (.int k1'), .val (.int k2'), .val (.int k3'), .val (.int k4'), .val (.int s'), .val (.int d'), .val (.ref b1), .val (.ref b3), .val (.int ((s' &&& (2147483647 : Int32)) - ((s' &&& (2147483647 : Int32)) / (5 : Int32)) * (5 : Int32))), .val (.int ((1 : Int32) + ((d' &&& (2147483647 : Int32)) - ((d' &&& (2147483647 : Int32)) / (4 : Int32)) * (4 : Int32)))), .val (.int ((s' &&& (2147483647 : Int32)) - ((s' &&& (2147483647 : Int32)) / (5 : Int32)) * (5 : Int32))), .val (.int ((((s' &&& (2147483647 : Int32)) - ((s' &&& (2147483647 : Int32)) / (5 : Int32)) * (5 : Int32)) + ((1 : Int32) + ((d' &&& (2147483647 : Int32)) - ((d' &&& (2147483647 : Int32)) / (4 : Int32)) * (4 : Int32)))) - ((((s' &&& (2147483647 : Int32)) - ((s' &&& (2147483647 : Int32)) / (5 : Int32)) * (5 : Int32)) + ((1 : Int32) + ((d' &&& (2147483647 : Int32)) - ((d' &&& (2147483647 : Int32)) / (4 : Int32)) * (4 : Int32)))) / (5 : Int32)) * (5 : Int32))), .val (.int ((((s' &&& (2147483647 : Int32)) - ((s' &&& (2147483647 : Int32)) / (5 : Int32)) * (5 : Int32)) + ((2 : Int32) * ((1 : Int32) + ((d' &&& (2147483647 : Int32)) - ((d' &&& (2147483647 : Int32)) / (4 : Int32)) * (4 : Int32))))) - ((((s' &&& (2147483647 : Int32)) - ((s' &&& (2147483647 : Int32)) / (5 : Int32)) * (5 : Int32)) + ((2 : Int32) * ((1 : Int32) + ((d' &&& (2147483647 : Int32)) - ((d' &&& (2147483647 : Int32)) / (4 : Int32)) * (4 : Int32))))) / (5 : Int32)) * (5 : Int32))), .val (.int ((((s' &&& (2147483647 : Int32)) - ((s' &&& (2147483647 : Int32)) / (5 : Int32)) * (5 : Int32)) + ((3 : Int32) * ((1 : Int32) + ((d' &&& (2147483647 : Int32)) - ((d' &&& (2147483647 : Int32)) / (4 : Int32)) * (4 : Int32))))) - ((((s' &&& (2147483647 : Int32)) - ((s' &&& (2147483647 : Int32)) / (5 : Int32)) * (5 : Int32)) + ((3 : Int32) * ((1 : Int32) + ((d' &&& (2147483647 : Int32)) - ((d' &&& (2147483647 : Int32)) / (4 : Int32)) * (4 : Int32))))) / (5 : Int32)) * (5 : Int32))), .val (.int ((((s' &&& (2147483647 : Int32)) - ((s' &&& (2147483647 : Int32)) / (5 : Int32)) * (5 : Int32)) + ((4 : Int32) * ((1 : Int32) + ((d' &&& (2147483647 : Int32)) - ((d' &&& (2147483647 : Int32)) / (4 : Int32)) * (4 : Int32))))) - ((((s' &&& (2147483647 : Int32)) - ((s' &&& (2147483647 : Int32)) / (5 : Int32)) * (5 : Int32)) + ((4 : Int32) * ((1 : Int32) + ((d' &&& (2147483647 : Int32)) - ((d' &&& (2147483647 : Int32)) / (4 : Int32)) * (4 : Int32))))) / (5 : Int32)) * (5 : Int32))), .val (.int (1 : Int32))] [])) (fun _ k_ => XS.istore X12.here hx rfl (hb hby at_134) rfl (l' := #[.val (.int k1'), .val (.int k2'), .val (.int k3'), .val (.int k4'), .val (.int s'), .val (.int d'), .val (.ref b1), .val (.ref b3), .val (.int ((s' &&& (2147483647 : Int32)) - ((s' &&& (2147483647 : Int32)) / (5 : Int32)) * (5 : Int32))), .val (.int ((1 : Int32) + ((d' &&& (2147483647 : Int32)) - ((d' &&& (2147483647 : Int32)) / (4 : Int32)) * (4 : Int32)))), .val (.int ((s' &&& (2147483647 : Int32)) - ((s' &&& (2147483647 : Int32)) / (5 : Int32)) * (5 : Int32))), .val (.int ((((s' &&& (2147483647 : Int32)) - ((s' &&& (2147483647 : Int32)) / (5 : Int32)) * (5 : Int32)) + ((1 : Int32) + ((d' &&& (2147483647 : Int32)) - ((d' &&& (2147483647 : Int32)) / (4 : Int32)) * (4 : Int32)))) - ((((s' &&& (2147483647 : Int32)) - ((s' &&& (2147483647 : Int32)) / (5 : Int32)) * (5 : Int32)) + ((1 : Int32) + ((d' &&& (2147483647 : Int32)) - ((d' &&& (2147483647 : Int32)) / (4 : Int32)) * (4 : Int32)))) / (5 : Int32)) * (5 : Int32))), .val (.int ((((s' &&& (2147483647 : Int32)) - ((s' &&& (2147483647 : Int32)) / (5 : Int32)) * (5 : Int32)) + ((2 : Int32) * ((1 : Int32) + ((d' &&& (2147483647 : Int32)) - ((d' &&& (2147483647 : Int32)) / (4 : Int32)) * (4 : Int32))))) - ((((s' &&& (2147483647 : Int32)) - ((s' &&& (2147483647 : Int32)) / (5 : Int32)) * (5 : Int32)) + ((2 : Int32) * ((1 : Int32) + ((d' &&& (2147483647 : Int32)) - ((d' &&& (2147483647 : Int32)) / (4 : Int32)) * (4 : Int32))))) / (5 : Int32)) * (5 : Int32))), .val (.int ((((s' &&& (2147483647 : Int32)) - ((s' &&& (2147483647 : Int32)) / (5 : Int32)) * (5 : Int32)) + ((3 : Int32) * ((1 : Int32) + ((d' &&& (2147483647 : Int32)) - ((d' &&& (2147483647 : Int32)) / (4 : Int32)) * (4 : Int32))))) - ((((s' &&& (2147483647 : Int32)) - ((s' &&& (2147483647 : Int32)) / (5 : Int32)) * (5 : Int32)) + ((3 : Int32) * ((1 : Int32) + ((d' &&& (2147483647 : Int32)) - ((d' &&& (2147483647 : Int32)) / (4 : Int32)) * (4 : Int32))))) / (5 : Int32)) * (5 : Int32))), .val (.int ((((s' &&& (2147483647 : Int32)) - ((s' &&& (2147483647 : Int32)) / (5 : Int32)) * (5 : Int32)) + ((4 : Int32) * ((1 : Int32) + ((d' &&& (2147483647 : Int32)) - ((d' &&& (2147483647 : Int32)) / (4 : Int32)) * (4 : Int32))))) - ((((s' &&& (2147483647 : Int32)) - ((s' &&& (2147483647 : Int32)) / (5 : Int32)) * (5 : Int32)) + ((4 : Int32) * ((1 : Int32) + ((d' &&& (2147483647 : Int32)) - ((d' &&& (2147483647 : Int32)) / (4 : Int32)) * (4 : Int32))))) / (5 : Int32)) * (5 : Int32))), .val (.int (1 : Int32))]) rfl k_) ?_
  obtain ⟨i0, hi0, lt0⟩ := own_idx0 s'
  obtain ⟨jd, hd, bd⟩ := own_idx4 d'
  generalize ((s' &&& (2147483647 : Int32)) - ((s' &&& (2147483647 : Int32)) / (5 : Int32)) * (5 : Int32)) = stt at *
  generalize ((1 : Int32) + ((d' &&& (2147483647 : Int32)) - ((d' &&& (2147483647 : Int32)) / (4 : Int32)) * (4 : Int32))) = stp at *
  obtain ⟨i1, hi1, lt1⟩ := own_idxk hi0 lt0 hd bd 1 (c := 1) (by decide) (by decide)
  rw [show (1 : Int32) * stp = stp from Int32.one_mul stp] at hi1
  obtain ⟨i2, hi2, lt2⟩ := own_idxk hi0 lt0 hd bd 2 (c := 2) (by decide) (by decide)
  obtain ⟨i3, hi3, lt3⟩ := own_idxk hi0 lt0 hd bd 3 (c := 3) (by decide) (by decide)
  obtain ⟨i4, hi4, lt4⟩ := own_idxk hi0 lt0 hd bd 4 (c := 4) (by decide) (by decide)
  generalize ((stt + stp) - ((stt + stp) / (5 : Int32)) * (5 : Int32)) = m1 at *
  generalize ((stt + ((2 : Int32) * stp)) - ((stt + ((2 : Int32) * stp)) / (5 : Int32)) * (5 : Int32)) = m2 at *
  generalize ((stt + ((3 : Int32) * stp)) - ((stt + ((3 : Int32) * stp)) / (5 : Int32)) * (5 : Int32)) = m3 at *
  generalize ((stt + ((4 : Int32) * stp)) - ((stt + ((4 : Int32) * stp)) / (5 : Int32)) * (5 : Int32)) = m4 at *
  refine own_w (T' := T12) (g' := (mkF m 138 #[.val (.int k1'), .val (.int k2'), .val (.int k3'), .val (.int k4'), .val (.int s'), .val (.int d'), .val (.ref b1), .val (.ref b3), .val (.int stt), .val (.int stp), .val (.int stt), .val (.int m1), .val (.int m2), .val (.int m3), .val (.int m4), .val (.int (1 : Int32))] [(.int (1 : Int32))])) (fun _ k_ => XS.iload X12.here hx rfl (hb hby at_136) rfl k_) ?_
  refine own_w (T' := T12) (g' := (mkF m 140 #[.val (.int k1'), .val (.int k2'), .val (.int k3'), .val (.int k4'), .val (.int s'), .val (.int d'), .val (.ref b1), .val (.ref b3), .val (.int stt), .val (.int stp), .val (.int stt), .val (.int m1), .val (.int m2), .val (.int m3), .val (.int m4), .val (.int (1 : Int32))] [(.ref b1), (.int (1 : Int32))])) (fun _ k_ => XS.aload X12.here hx rfl (hb hby at_138) rfl rfl k_) ?_
  refine own_w (T' := T12) (g' := (mkF m 142 #[.val (.int k1'), .val (.int k2'), .val (.int k3'), .val (.int k4'), .val (.int s'), .val (.int d'), .val (.ref b1), .val (.ref b3), .val (.int stt), .val (.int stp), .val (.int stt), .val (.int m1), .val (.int m2), .val (.int m3), .val (.int m4), .val (.int (1 : Int32))] [(.int stt), (.ref b1), (.int (1 : Int32))])) (fun _ k_ => XS.iload X12.here hx rfl (hb hby at_140) rfl k_) ?_
  obtain ⟨cq13, kq13, q13a, q13b, q13c⟩ := isOf hZ e12 X_12
  obtain ⟨_, _, ⟨T13, L13, k13, n13⟩, -, X13, ⟨Lc13, hQ13, l13, y13, z13⟩, st13⟩ := X12.virtualBack hx (y := (⟨"com/example/eigenvote/eigenvote/graph/Forest", "root", "(I)I"⟩ : MethodName)) (z := (⟨"com/example/eigenvote/eigenvote/graph/Forest", "root", "(I)I"⟩ : MethodName)) hown (mvT hZ (hw _ (List.mem_of_getElem? (i := 25) rfl))) (mvT hZ (hw _ (List.mem_of_getElem? (i := 26) rfl))) (notFace_of_selects (args := #[]) (mvT hZ (hw _ (List.mem_of_getElem? (i := 28) rfl)))) (mvT hZ (hw _ (List.mem_of_getElem? (i := 28) rfl))) (mvT hZ (hw _ (List.mem_of_getElem? (i := 27) rfl))) (by decide) (backOf (W := 1) (own_rm6 l Z a0 hw [] b1 stt pa _ l12 _ _ i0 h12 n0 Z12 G12 V12 g_pa ne_fp hi0 lt0 I12) hZ (hw _ (List.mem_of_getElem? (i := 29) rfl)) (hw _ (List.mem_of_getElem? (i := 2) rfl)) (by decide) (by decide)) q13a q13c (g := (mkF m 142 #[.val (.int k1'), .val (.int k2'), .val (.int k3'), .val (.int k4'), .val (.int s'), .val (.int d'), .val (.ref b1), .val (.ref b3), .val (.int stt), .val (.int stp), .val (.int stt), .val (.int m1), .val (.int m2), .val (.int m3), .val (.int m4), .val (.int (1 : Int32))] [(.int stt), (.ref b1), (.int (1 : Int32))])) rfl (by rw [hml]; rfl) (Steps.refl _) (argsL := [(.int stt)]) (rest := [(.int (1 : Int32))]) (lenOf own_pd4 rfl) rfl (by show 2 * 0 + _ ≤ _; exact Nat.le_of_eq rfl) (hb hby at_142) (fun _ _ => ⟨rfl, e12, (by decide : 3 + 0 ≤ _), (by decide : 11 + 0 ≤ _)⟩)
  dsimp only [Pt.U, Pt.locs, Pt.cells, Pt.slots] at X13 l13 y13 z13 st13 hQ13
  subst l13 y13 z13
  obtain ⟨h13, e13⟩ : ∃ h, T13.heap = h := ⟨_, rfl⟩
  rw [e13] at hQ13
  obtain ⟨rfl, N13q, K13, ⟨p13, I13, V13⟩⟩ := hQ13
  have N13 := Fr.app N12 N13q
  refine own_t (T' := T13) (g' := (mkF m 145 #[.val (.int k1'), .val (.int k2'), .val (.int k3'), .val (.int k4'), .val (.int s'), .val (.int d'), .val (.ref b1), .val (.ref b3), .val (.int stt), .val (.int stp), .val (.int stt), .val (.int m1), .val (.int m2), .val (.int m3), .val (.int m4), .val (.int (1 : Int32))] [(.int (Int32.ofNat (l12 i0))), (.int (1 : Int32))])) st13 ?_
  have Z13 : n0 ≤ h13.size := Nat.le_trans Z12 K13.1
  have G13 := G12.keep K13 (by simpa using ne_fp)
  have X_13 := X_12.keep K13
  have VL13 := own_Ar_keep VL12 K13 (by simpa using ne_lp)
  refine own_w (T' := T13) (g' := (mkF m 147 #[.val (.int k1'), .val (.int k2'), .val (.int k3'), .val (.int k4'), .val (.int s'), .val (.int d'), .val (.ref b1), .val (.ref b3), .val (.int stt), .val (.int stp), .val (.int stt), .val (.int m1), .val (.int m2), .val (.int m3), .val (.int m4), .val (.int (1 : Int32))] [(.ref b3), (.int (Int32.ofNat (l12 i0))), (.int (1 : Int32))])) (fun _ k_ => XS.aload X13.here hx rfl (hb hby at_145) rfl rfl k_) ?_
  refine own_w (T' := T13) (g' := (mkF m 149 #[.val (.int k1'), .val (.int k2'), .val (.int k3'), .val (.int k4'), .val (.int s'), .val (.int d'), .val (.ref b1), .val (.ref b3), .val (.int stt), .val (.int stp), .val (.int stt), .val (.int m1), .val (.int m2), .val (.int m3), .val (.int m4), .val (.int (1 : Int32))] [(.int stt), (.ref b3), (.int (Int32.ofNat (l12 i0))), (.int (1 : Int32))])) (fun _ k_ => XS.iload X13.here hx rfl (hb hby at_147) rfl k_) ?_
  obtain ⟨cl14, Ar14, hs14⟩ := id VL13
  refine own_w (T' := T13) (g' := (mkF m 150 #[.val (.int k1'), .val (.int k2'), .val (.int k3'), .val (.int k4'), .val (.int s'), .val (.int d'), .val (.ref b1), .val (.ref b3), .val (.int stt), .val (.int stp), .val (.int stt), .val (.int m1), .val (.int m2), .val (.int m3), .val (.int m4), .val (.int (1 : Int32))] [(.int (Int32.ofNat (l12 i0))), (.int (Int32.ofNat (l12 i0))), (.int (1 : Int32))])) (fun t_ k_ => X13.iaload hx (j := stt) (v := .int (Int32.ofNat (l12 i0))) (by rw [e13]; exact Ar14.1) (State.isArrayOf_alike hZ.alike Ar14.2.1) Ar14.2.2 (own_Ar_in hs14 hi0 (own_get_lt (show _ = some (Int32.ofNat (l12 i0)) from (own_lst_get lt0)))) (own_Ar_at hs14 hi0 (show _ = some (Int32.ofNat (l12 i0)) from (own_lst_get lt0))) (g := (mkF m 149 #[.val (.int k1'), .val (.int k2'), .val (.int k3'), .val (.int k4'), .val (.int s'), .val (.int d'), .val (.ref b1), .val (.ref b3), .val (.int stt), .val (.int stp), .val (.int stt), .val (.int m1), .val (.int m2), .val (.int m3), .val (.int m4), .val (.int (1 : Int32))] [(.int stt), (.ref b3), (.int (Int32.ofNat (l12 i0))), (.int (1 : Int32))])) rfl rfl (hb hby at_149) t_ k_) ?_
  refine own_w (T' := T13) (g' := (mkF m 153 #[.val (.int k1'), .val (.int k2'), .val (.int k3'), .val (.int k4'), .val (.int s'), .val (.int d'), .val (.ref b1), .val (.ref b3), .val (.int stt), .val (.int stp), .val (.int stt), .val (.int m1), .val (.int m2), .val (.int m3), .val (.int m4), .val (.int (1 : Int32))] [(.int (1 : Int32))])) (fun _ k_ => XS.icmpNo X13.here hx rfl (hb hby at_150) rfl (teq rfl).2 k_) ?_
  refine own_w (T' := T13) (g' := (mkF m 154 #[.val (.int k1'), .val (.int k2'), .val (.int k3'), .val (.int k4'), .val (.int s'), .val (.int d'), .val (.ref b1), .val (.ref b3), .val (.int stt), .val (.int stp), .val (.int stt), .val (.int m1), .val (.int m2), .val (.int m3), .val (.int m4), .val (.int (1 : Int32))] [(.int (1 : Int32)), (.int (1 : Int32))])) (fun _ k_ => XS.iconst X13.here hx rfl (hb hby at_153) k_) ?_
  refine own_w (T' := T13) (g' := (mkF m 158 #[.val (.int k1'), .val (.int k2'), .val (.int k3'), .val (.int k4'), .val (.int s'), .val (.int d'), .val (.ref b1), .val (.ref b3), .val (.int stt), .val (.int stp), .val (.int stt), .val (.int m1), .val (.int m2), .val (.int m3), .val (.int m4), .val (.int (1 : Int32))] [(.int (1 : Int32)), (.int (1 : Int32))])) (fun _ k_ => XS.goto X13.here hx rfl (pc0 := 154) (pc' := 158) rfl (hb hby at_154) (by decide) (by decide) k_) ?_
  refine own_w (T' := T13) (g' := (mkF m 159 #[.val (.int k1'), .val (.int k2'), .val (.int k3'), .val (.int k4'), .val (.int s'), .val (.int d'), .val (.ref b1), .val (.ref b3), .val (.int stt), .val (.int stp), .val (.int stt), .val (.int m1), .val (.int m2), .val (.int m3), .val (.int m4), .val (.int (1 : Int32))] [(.int (1 : Int32))])) (fun _ k_ => XS.iand X13.here hx rfl (hb hby at_158) rfl k_) ?_
  refine own_w (T' := T13) (g' := (mkF m 161 #[.val (.int k1'), .val (.int k2'), .val (.int k3'), .val (.int k4'), .val (.int s'), .val (.int d'), .val (.ref b1), .val (.ref b3), .val (.int stt), .val (.int stp), .val (.int stt), .val (.int m1), .val (.int m2), .val (.int m3), .val (.int m4), .val (.int (1 : Int32))] [])) (fun _ k_ => XS.istore X13.here hx rfl (hb hby at_159) rfl (l' := #[.val (.int k1'), .val (.int k2'), .val (.int k3'), .val (.int k4'), .val (.int s'), .val (.int d'), .val (.ref b1), .val (.ref b3), .val (.int stt), .val (.int stp), .val (.int stt), .val (.int m1), .val (.int m2), .val (.int m3), .val (.int m4), .val (.int (1 : Int32))]) rfl k_) ?_
  refine own_w (T' := T13) (g' := (mkF m 163 #[.val (.int k1'), .val (.int k2'), .val (.int k3'), .val (.int k4'), .val (.int s'), .val (.int d'), .val (.ref b1), .val (.ref b3), .val (.int stt), .val (.int stp), .val (.int stt), .val (.int m1), .val (.int m2), .val (.int m3), .val (.int m4), .val (.int (1 : Int32))] [(.int (1 : Int32))])) (fun _ k_ => XS.iload X13.here hx rfl (hb hby at_161) rfl k_) ?_
  refine own_w (T' := T13) (g' := (mkF m 165 #[.val (.int k1'), .val (.int k2'), .val (.int k3'), .val (.int k4'), .val (.int s'), .val (.int d'), .val (.ref b1), .val (.ref b3), .val (.int stt), .val (.int stp), .val (.int stt), .val (.int m1), .val (.int m2), .val (.int m3), .val (.int m4), .val (.int (1 : Int32))] [(.ref b1), (.int (1 : Int32))])) (fun _ k_ => XS.aload X13.here hx rfl (hb hby at_163) rfl rfl k_) ?_
  refine own_w (T' := T13) (g' := (mkF m 167 #[.val (.int k1'), .val (.int k2'), .val (.int k3'), .val (.int k4'), .val (.int s'), .val (.int d'), .val (.ref b1), .val (.ref b3), .val (.int stt), .val (.int stp), .val (.int stt), .val (.int m1), .val (.int m2), .val (.int m3), .val (.int m4), .val (.int (1 : Int32))] [(.int m1), (.ref b1), (.int (1 : Int32))])) (fun _ k_ => XS.iload X13.here hx rfl (hb hby at_165) rfl k_) ?_
  obtain ⟨cq15, kq15, q15a, q15b, q15c⟩ := isOf hZ e13 X_13
  obtain ⟨_, _, ⟨T15, L15, k15, n15⟩, -, X15, ⟨Lc15, hQ15, l15, y15, z15⟩, st15⟩ := X13.virtualBack hx (y := (⟨"com/example/eigenvote/eigenvote/graph/Forest", "root", "(I)I"⟩ : MethodName)) (z := (⟨"com/example/eigenvote/eigenvote/graph/Forest", "root", "(I)I"⟩ : MethodName)) hown (mvT hZ (hw _ (List.mem_of_getElem? (i := 25) rfl))) (mvT hZ (hw _ (List.mem_of_getElem? (i := 26) rfl))) (notFace_of_selects (args := #[]) (mvT hZ (hw _ (List.mem_of_getElem? (i := 28) rfl)))) (mvT hZ (hw _ (List.mem_of_getElem? (i := 28) rfl))) (mvT hZ (hw _ (List.mem_of_getElem? (i := 27) rfl))) (by decide) (backOf (W := 1) (own_rm6 l Z a0 hw [] b1 m1 pa _ l12 _ _ i1 h13 n0 Z13 G13 V13 g_pa ne_fp hi1 lt1 I13) hZ (hw _ (List.mem_of_getElem? (i := 29) rfl)) (hw _ (List.mem_of_getElem? (i := 2) rfl)) (by decide) (by decide)) q15a q15c (g := (mkF m 167 #[.val (.int k1'), .val (.int k2'), .val (.int k3'), .val (.int k4'), .val (.int s'), .val (.int d'), .val (.ref b1), .val (.ref b3), .val (.int stt), .val (.int stp), .val (.int stt), .val (.int m1), .val (.int m2), .val (.int m3), .val (.int m4), .val (.int (1 : Int32))] [(.int m1), (.ref b1), (.int (1 : Int32))])) rfl (by rw [hml]; rfl) (Steps.refl _) (argsL := [(.int m1)]) (rest := [(.int (1 : Int32))]) (lenOf own_pd4 rfl) rfl (by show 2 * 0 + _ ≤ _; exact Nat.le_of_eq rfl) (hb hby at_167) (fun _ _ => ⟨rfl, e13, (by decide : 3 + 0 ≤ _), (by decide : 11 + 0 ≤ _)⟩)
  dsimp only [Pt.U, Pt.locs, Pt.cells, Pt.slots] at X15 l15 y15 z15 st15 hQ15
  subst l15 y15 z15
  obtain ⟨h15, e15⟩ : ∃ h, T15.heap = h := ⟨_, rfl⟩
  rw [e15] at hQ15
  obtain ⟨rfl, N15q, K15, ⟨p15, I15, V15⟩⟩ := hQ15
  have N15 := Fr.app N13 N15q
  refine own_t (T' := T15) (g' := (mkF m 170 #[.val (.int k1'), .val (.int k2'), .val (.int k3'), .val (.int k4'), .val (.int s'), .val (.int d'), .val (.ref b1), .val (.ref b3), .val (.int stt), .val (.int stp), .val (.int stt), .val (.int m1), .val (.int m2), .val (.int m3), .val (.int m4), .val (.int (1 : Int32))] [(.int (Int32.ofNat (l12 i1))), (.int (1 : Int32))])) st15 ?_
  have Z15 : n0 ≤ h15.size := Nat.le_trans Z13 K15.1
  have G15 := G13.keep K15 (by simpa using ne_fp)
  have X_15 := X_13.keep K15
  have VL15 := own_Ar_keep VL13 K15 (by simpa using ne_lp)
  refine own_w (T' := T15) (g' := (mkF m 172 #[.val (.int k1'), .val (.int k2'), .val (.int k3'), .val (.int k4'), .val (.int s'), .val (.int d'), .val (.ref b1), .val (.ref b3), .val (.int stt), .val (.int stp), .val (.int stt), .val (.int m1), .val (.int m2), .val (.int m3), .val (.int m4), .val (.int (1 : Int32))] [(.ref b3), (.int (Int32.ofNat (l12 i1))), (.int (1 : Int32))])) (fun _ k_ => XS.aload X15.here hx rfl (hb hby at_170) rfl rfl k_) ?_
  refine own_w (T' := T15) (g' := (mkF m 174 #[.val (.int k1'), .val (.int k2'), .val (.int k3'), .val (.int k4'), .val (.int s'), .val (.int d'), .val (.ref b1), .val (.ref b3), .val (.int stt), .val (.int stp), .val (.int stt), .val (.int m1), .val (.int m2), .val (.int m3), .val (.int m4), .val (.int (1 : Int32))] [(.int m1), (.ref b3), (.int (Int32.ofNat (l12 i1))), (.int (1 : Int32))])) (fun _ k_ => XS.iload X15.here hx rfl (hb hby at_172) rfl k_) ?_
  obtain ⟨cl16, Ar16, hs16⟩ := id VL15
  refine own_w (T' := T15) (g' := (mkF m 175 #[.val (.int k1'), .val (.int k2'), .val (.int k3'), .val (.int k4'), .val (.int s'), .val (.int d'), .val (.ref b1), .val (.ref b3), .val (.int stt), .val (.int stp), .val (.int stt), .val (.int m1), .val (.int m2), .val (.int m3), .val (.int m4), .val (.int (1 : Int32))] [(.int (Int32.ofNat (l12 i1))), (.int (Int32.ofNat (l12 i1))), (.int (1 : Int32))])) (fun t_ k_ => X15.iaload hx (j := m1) (v := .int (Int32.ofNat (l12 i1))) (by rw [e15]; exact Ar16.1) (State.isArrayOf_alike hZ.alike Ar16.2.1) Ar16.2.2 (own_Ar_in hs16 hi1 (own_get_lt (show _ = some (Int32.ofNat (l12 i1)) from (own_lst_get lt1)))) (own_Ar_at hs16 hi1 (show _ = some (Int32.ofNat (l12 i1)) from (own_lst_get lt1))) (g := (mkF m 174 #[.val (.int k1'), .val (.int k2'), .val (.int k3'), .val (.int k4'), .val (.int s'), .val (.int d'), .val (.ref b1), .val (.ref b3), .val (.int stt), .val (.int stp), .val (.int stt), .val (.int m1), .val (.int m2), .val (.int m3), .val (.int m4), .val (.int (1 : Int32))] [(.int m1), (.ref b3), (.int (Int32.ofNat (l12 i1))), (.int (1 : Int32))])) rfl rfl (hb hby at_174) t_ k_) ?_
  refine own_w (T' := T15) (g' := (mkF m 178 #[.val (.int k1'), .val (.int k2'), .val (.int k3'), .val (.int k4'), .val (.int s'), .val (.int d'), .val (.ref b1), .val (.ref b3), .val (.int stt), .val (.int stp), .val (.int stt), .val (.int m1), .val (.int m2), .val (.int m3), .val (.int m4), .val (.int (1 : Int32))] [(.int (1 : Int32))])) (fun _ k_ => XS.icmpNo X15.here hx rfl (hb hby at_175) rfl (teq rfl).2 k_) ?_
  refine own_w (T' := T15) (g' := (mkF m 179 #[.val (.int k1'), .val (.int k2'), .val (.int k3'), .val (.int k4'), .val (.int s'), .val (.int d'), .val (.ref b1), .val (.ref b3), .val (.int stt), .val (.int stp), .val (.int stt), .val (.int m1), .val (.int m2), .val (.int m3), .val (.int m4), .val (.int (1 : Int32))] [(.int (1 : Int32)), (.int (1 : Int32))])) (fun _ k_ => XS.iconst X15.here hx rfl (hb hby at_178) k_) ?_
  refine own_w (T' := T15) (g' := (mkF m 183 #[.val (.int k1'), .val (.int k2'), .val (.int k3'), .val (.int k4'), .val (.int s'), .val (.int d'), .val (.ref b1), .val (.ref b3), .val (.int stt), .val (.int stp), .val (.int stt), .val (.int m1), .val (.int m2), .val (.int m3), .val (.int m4), .val (.int (1 : Int32))] [(.int (1 : Int32)), (.int (1 : Int32))])) (fun _ k_ => XS.goto X15.here hx rfl (pc0 := 179) (pc' := 183) rfl (hb hby at_179) (by decide) (by decide) k_) ?_
  refine own_w (T' := T15) (g' := (mkF m 184 #[.val (.int k1'), .val (.int k2'), .val (.int k3'), .val (.int k4'), .val (.int s'), .val (.int d'), .val (.ref b1), .val (.ref b3), .val (.int stt), .val (.int stp), .val (.int stt), .val (.int m1), .val (.int m2), .val (.int m3), .val (.int m4), .val (.int (1 : Int32))] [(.int (1 : Int32))])) (fun _ k_ => XS.iand X15.here hx rfl (hb hby at_183) rfl k_) ?_
  refine own_w (T' := T15) (g' := (mkF m 186 #[.val (.int k1'), .val (.int k2'), .val (.int k3'), .val (.int k4'), .val (.int s'), .val (.int d'), .val (.ref b1), .val (.ref b3), .val (.int stt), .val (.int stp), .val (.int stt), .val (.int m1), .val (.int m2), .val (.int m3), .val (.int m4), .val (.int (1 : Int32))] [])) (fun _ k_ => XS.istore X15.here hx rfl (hb hby at_184) rfl (l' := #[.val (.int k1'), .val (.int k2'), .val (.int k3'), .val (.int k4'), .val (.int s'), .val (.int d'), .val (.ref b1), .val (.ref b3), .val (.int stt), .val (.int stp), .val (.int stt), .val (.int m1), .val (.int m2), .val (.int m3), .val (.int m4), .val (.int (1 : Int32))]) rfl k_) ?_
  refine own_w (T' := T15) (g' := (mkF m 188 #[.val (.int k1'), .val (.int k2'), .val (.int k3'), .val (.int k4'), .val (.int s'), .val (.int d'), .val (.ref b1), .val (.ref b3), .val (.int stt), .val (.int stp), .val (.int stt), .val (.int m1), .val (.int m2), .val (.int m3), .val (.int m4), .val (.int (1 : Int32))] [(.int (1 : Int32))])) (fun _ k_ => XS.iload X15.here hx rfl (hb hby at_186) rfl k_) ?_
  refine own_w (T' := T15) (g' := (mkF m 190 #[.val (.int k1'), .val (.int k2'), .val (.int k3'), .val (.int k4'), .val (.int s'), .val (.int d'), .val (.ref b1), .val (.ref b3), .val (.int stt), .val (.int stp), .val (.int stt), .val (.int m1), .val (.int m2), .val (.int m3), .val (.int m4), .val (.int (1 : Int32))] [(.ref b1), (.int (1 : Int32))])) (fun _ k_ => XS.aload X15.here hx rfl (hb hby at_188) rfl rfl k_) ?_
  refine own_w (T' := T15) (g' := (mkF m 192 #[.val (.int k1'), .val (.int k2'), .val (.int k3'), .val (.int k4'), .val (.int s'), .val (.int d'), .val (.ref b1), .val (.ref b3), .val (.int stt), .val (.int stp), .val (.int stt), .val (.int m1), .val (.int m2), .val (.int m3), .val (.int m4), .val (.int (1 : Int32))] [(.int m2), (.ref b1), (.int (1 : Int32))])) (fun _ k_ => XS.iload X15.here hx rfl (hb hby at_190) rfl k_) ?_
  obtain ⟨cq17, kq17, q17a, q17b, q17c⟩ := isOf hZ e15 X_15
  obtain ⟨_, _, ⟨T17, L17, k17, n17⟩, -, X17, ⟨Lc17, hQ17, l17, y17, z17⟩, st17⟩ := X15.virtualBack hx (y := (⟨"com/example/eigenvote/eigenvote/graph/Forest", "root", "(I)I"⟩ : MethodName)) (z := (⟨"com/example/eigenvote/eigenvote/graph/Forest", "root", "(I)I"⟩ : MethodName)) hown (mvT hZ (hw _ (List.mem_of_getElem? (i := 25) rfl))) (mvT hZ (hw _ (List.mem_of_getElem? (i := 26) rfl))) (notFace_of_selects (args := #[]) (mvT hZ (hw _ (List.mem_of_getElem? (i := 28) rfl)))) (mvT hZ (hw _ (List.mem_of_getElem? (i := 28) rfl))) (mvT hZ (hw _ (List.mem_of_getElem? (i := 27) rfl))) (by decide) (backOf (W := 1) (own_rm6 l Z a0 hw [] b1 m2 pa _ l12 _ _ i2 h15 n0 Z15 G15 V15 g_pa ne_fp hi2 lt2 I15) hZ (hw _ (List.mem_of_getElem? (i := 29) rfl)) (hw _ (List.mem_of_getElem? (i := 2) rfl)) (by decide) (by decide)) q17a q17c (g := (mkF m 192 #[.val (.int k1'), .val (.int k2'), .val (.int k3'), .val (.int k4'), .val (.int s'), .val (.int d'), .val (.ref b1), .val (.ref b3), .val (.int stt), .val (.int stp), .val (.int stt), .val (.int m1), .val (.int m2), .val (.int m3), .val (.int m4), .val (.int (1 : Int32))] [(.int m2), (.ref b1), (.int (1 : Int32))])) rfl (by rw [hml]; rfl) (Steps.refl _) (argsL := [(.int m2)]) (rest := [(.int (1 : Int32))]) (lenOf own_pd4 rfl) rfl (by show 2 * 0 + _ ≤ _; exact Nat.le_of_eq rfl) (hb hby at_192) (fun _ _ => ⟨rfl, e15, (by decide : 3 + 0 ≤ _), (by decide : 11 + 0 ≤ _)⟩)
  dsimp only [Pt.U, Pt.locs, Pt.cells, Pt.slots] at X17 l17 y17 z17 st17 hQ17
  subst l17 y17 z17
  obtain ⟨h17, e17⟩ : ∃ h, T17.heap = h := ⟨_, rfl⟩
  rw [e17] at hQ17
  obtain ⟨rfl, N17q, K17, ⟨p17, I17, V17⟩⟩ := hQ17
  have N17 := Fr.app N15 N17q
  refine own_t (T' := T17) (g' := (mkF m 195 #[.val (.int k1'), .val (.int k2'), .val (.int k3'), .val (.int k4'), .val (.int s'), .val (.int d'), .val (.ref b1), .val (.ref b3), .val (.int stt), .val (.int stp), .val (.int stt), .val (.int m1), .val (.int m2), .val (.int m3), .val (.int m4), .val (.int (1 : Int32))] [(.int (Int32.ofNat (l12 i2))), (.int (1 : Int32))])) st17 ?_
  have Z17 : n0 ≤ h17.size := Nat.le_trans Z15 K17.1
  have G17 := G15.keep K17 (by simpa using ne_fp)
  have X_17 := X_15.keep K17
  have VL17 := own_Ar_keep VL15 K17 (by simpa using ne_lp)
  refine own_w (T' := T17) (g' := (mkF m 197 #[.val (.int k1'), .val (.int k2'), .val (.int k3'), .val (.int k4'), .val (.int s'), .val (.int d'), .val (.ref b1), .val (.ref b3), .val (.int stt), .val (.int stp), .val (.int stt), .val (.int m1), .val (.int m2), .val (.int m3), .val (.int m4), .val (.int (1 : Int32))] [(.ref b3), (.int (Int32.ofNat (l12 i2))), (.int (1 : Int32))])) (fun _ k_ => XS.aload X17.here hx rfl (hb hby at_195) rfl rfl k_) ?_
  refine own_w (T' := T17) (g' := (mkF m 199 #[.val (.int k1'), .val (.int k2'), .val (.int k3'), .val (.int k4'), .val (.int s'), .val (.int d'), .val (.ref b1), .val (.ref b3), .val (.int stt), .val (.int stp), .val (.int stt), .val (.int m1), .val (.int m2), .val (.int m3), .val (.int m4), .val (.int (1 : Int32))] [(.int m2), (.ref b3), (.int (Int32.ofNat (l12 i2))), (.int (1 : Int32))])) (fun _ k_ => XS.iload X17.here hx rfl (hb hby at_197) rfl k_) ?_
  obtain ⟨cl18, Ar18, hs18⟩ := id VL17
  refine own_w (T' := T17) (g' := (mkF m 200 #[.val (.int k1'), .val (.int k2'), .val (.int k3'), .val (.int k4'), .val (.int s'), .val (.int d'), .val (.ref b1), .val (.ref b3), .val (.int stt), .val (.int stp), .val (.int stt), .val (.int m1), .val (.int m2), .val (.int m3), .val (.int m4), .val (.int (1 : Int32))] [(.int (Int32.ofNat (l12 i2))), (.int (Int32.ofNat (l12 i2))), (.int (1 : Int32))])) (fun t_ k_ => X17.iaload hx (j := m2) (v := .int (Int32.ofNat (l12 i2))) (by rw [e17]; exact Ar18.1) (State.isArrayOf_alike hZ.alike Ar18.2.1) Ar18.2.2 (own_Ar_in hs18 hi2 (own_get_lt (show _ = some (Int32.ofNat (l12 i2)) from (own_lst_get lt2)))) (own_Ar_at hs18 hi2 (show _ = some (Int32.ofNat (l12 i2)) from (own_lst_get lt2))) (g := (mkF m 199 #[.val (.int k1'), .val (.int k2'), .val (.int k3'), .val (.int k4'), .val (.int s'), .val (.int d'), .val (.ref b1), .val (.ref b3), .val (.int stt), .val (.int stp), .val (.int stt), .val (.int m1), .val (.int m2), .val (.int m3), .val (.int m4), .val (.int (1 : Int32))] [(.int m2), (.ref b3), (.int (Int32.ofNat (l12 i2))), (.int (1 : Int32))])) rfl rfl (hb hby at_199) t_ k_) ?_
  refine own_w (T' := T17) (g' := (mkF m 203 #[.val (.int k1'), .val (.int k2'), .val (.int k3'), .val (.int k4'), .val (.int s'), .val (.int d'), .val (.ref b1), .val (.ref b3), .val (.int stt), .val (.int stp), .val (.int stt), .val (.int m1), .val (.int m2), .val (.int m3), .val (.int m4), .val (.int (1 : Int32))] [(.int (1 : Int32))])) (fun _ k_ => XS.icmpNo X17.here hx rfl (hb hby at_200) rfl (teq rfl).2 k_) ?_
  refine own_w (T' := T17) (g' := (mkF m 204 #[.val (.int k1'), .val (.int k2'), .val (.int k3'), .val (.int k4'), .val (.int s'), .val (.int d'), .val (.ref b1), .val (.ref b3), .val (.int stt), .val (.int stp), .val (.int stt), .val (.int m1), .val (.int m2), .val (.int m3), .val (.int m4), .val (.int (1 : Int32))] [(.int (1 : Int32)), (.int (1 : Int32))])) (fun _ k_ => XS.iconst X17.here hx rfl (hb hby at_203) k_) ?_
  refine own_w (T' := T17) (g' := (mkF m 208 #[.val (.int k1'), .val (.int k2'), .val (.int k3'), .val (.int k4'), .val (.int s'), .val (.int d'), .val (.ref b1), .val (.ref b3), .val (.int stt), .val (.int stp), .val (.int stt), .val (.int m1), .val (.int m2), .val (.int m3), .val (.int m4), .val (.int (1 : Int32))] [(.int (1 : Int32)), (.int (1 : Int32))])) (fun _ k_ => XS.goto X17.here hx rfl (pc0 := 204) (pc' := 208) rfl (hb hby at_204) (by decide) (by decide) k_) ?_
  refine own_w (T' := T17) (g' := (mkF m 209 #[.val (.int k1'), .val (.int k2'), .val (.int k3'), .val (.int k4'), .val (.int s'), .val (.int d'), .val (.ref b1), .val (.ref b3), .val (.int stt), .val (.int stp), .val (.int stt), .val (.int m1), .val (.int m2), .val (.int m3), .val (.int m4), .val (.int (1 : Int32))] [(.int (1 : Int32))])) (fun _ k_ => XS.iand X17.here hx rfl (hb hby at_208) rfl k_) ?_
  refine own_w (T' := T17) (g' := (mkF m 211 #[.val (.int k1'), .val (.int k2'), .val (.int k3'), .val (.int k4'), .val (.int s'), .val (.int d'), .val (.ref b1), .val (.ref b3), .val (.int stt), .val (.int stp), .val (.int stt), .val (.int m1), .val (.int m2), .val (.int m3), .val (.int m4), .val (.int (1 : Int32))] [])) (fun _ k_ => XS.istore X17.here hx rfl (hb hby at_209) rfl (l' := #[.val (.int k1'), .val (.int k2'), .val (.int k3'), .val (.int k4'), .val (.int s'), .val (.int d'), .val (.ref b1), .val (.ref b3), .val (.int stt), .val (.int stp), .val (.int stt), .val (.int m1), .val (.int m2), .val (.int m3), .val (.int m4), .val (.int (1 : Int32))]) rfl k_) ?_
  refine own_w (T' := T17) (g' := (mkF m 213 #[.val (.int k1'), .val (.int k2'), .val (.int k3'), .val (.int k4'), .val (.int s'), .val (.int d'), .val (.ref b1), .val (.ref b3), .val (.int stt), .val (.int stp), .val (.int stt), .val (.int m1), .val (.int m2), .val (.int m3), .val (.int m4), .val (.int (1 : Int32))] [(.int (1 : Int32))])) (fun _ k_ => XS.iload X17.here hx rfl (hb hby at_211) rfl k_) ?_
  refine own_w (T' := T17) (g' := (mkF m 215 #[.val (.int k1'), .val (.int k2'), .val (.int k3'), .val (.int k4'), .val (.int s'), .val (.int d'), .val (.ref b1), .val (.ref b3), .val (.int stt), .val (.int stp), .val (.int stt), .val (.int m1), .val (.int m2), .val (.int m3), .val (.int m4), .val (.int (1 : Int32))] [(.ref b1), (.int (1 : Int32))])) (fun _ k_ => XS.aload X17.here hx rfl (hb hby at_213) rfl rfl k_) ?_
  refine own_w (T' := T17) (g' := (mkF m 217 #[.val (.int k1'), .val (.int k2'), .val (.int k3'), .val (.int k4'), .val (.int s'), .val (.int d'), .val (.ref b1), .val (.ref b3), .val (.int stt), .val (.int stp), .val (.int stt), .val (.int m1), .val (.int m2), .val (.int m3), .val (.int m4), .val (.int (1 : Int32))] [(.int m3), (.ref b1), (.int (1 : Int32))])) (fun _ k_ => XS.iload X17.here hx rfl (hb hby at_215) rfl k_) ?_
  obtain ⟨cq19, kq19, q19a, q19b, q19c⟩ := isOf hZ e17 X_17
  obtain ⟨_, _, ⟨T19, L19, k19, n19⟩, -, X19, ⟨Lc19, hQ19, l19, y19, z19⟩, st19⟩ := X17.virtualBack hx (y := (⟨"com/example/eigenvote/eigenvote/graph/Forest", "root", "(I)I"⟩ : MethodName)) (z := (⟨"com/example/eigenvote/eigenvote/graph/Forest", "root", "(I)I"⟩ : MethodName)) hown (mvT hZ (hw _ (List.mem_of_getElem? (i := 25) rfl))) (mvT hZ (hw _ (List.mem_of_getElem? (i := 26) rfl))) (notFace_of_selects (args := #[]) (mvT hZ (hw _ (List.mem_of_getElem? (i := 28) rfl)))) (mvT hZ (hw _ (List.mem_of_getElem? (i := 28) rfl))) (mvT hZ (hw _ (List.mem_of_getElem? (i := 27) rfl))) (by decide) (backOf (W := 1) (own_rm6 l Z a0 hw [] b1 m3 pa _ l12 _ _ i3 h17 n0 Z17 G17 V17 g_pa ne_fp hi3 lt3 I17) hZ (hw _ (List.mem_of_getElem? (i := 29) rfl)) (hw _ (List.mem_of_getElem? (i := 2) rfl)) (by decide) (by decide)) q19a q19c (g := (mkF m 217 #[.val (.int k1'), .val (.int k2'), .val (.int k3'), .val (.int k4'), .val (.int s'), .val (.int d'), .val (.ref b1), .val (.ref b3), .val (.int stt), .val (.int stp), .val (.int stt), .val (.int m1), .val (.int m2), .val (.int m3), .val (.int m4), .val (.int (1 : Int32))] [(.int m3), (.ref b1), (.int (1 : Int32))])) rfl (by rw [hml]; rfl) (Steps.refl _) (argsL := [(.int m3)]) (rest := [(.int (1 : Int32))]) (lenOf own_pd4 rfl) rfl (by show 2 * 0 + _ ≤ _; exact Nat.le_of_eq rfl) (hb hby at_217) (fun _ _ => ⟨rfl, e17, (by decide : 3 + 0 ≤ _), (by decide : 11 + 0 ≤ _)⟩)
  dsimp only [Pt.U, Pt.locs, Pt.cells, Pt.slots] at X19 l19 y19 z19 st19 hQ19
  subst l19 y19 z19
  obtain ⟨h19, e19⟩ : ∃ h, T19.heap = h := ⟨_, rfl⟩
  rw [e19] at hQ19
  obtain ⟨rfl, N19q, K19, ⟨p19, I19, V19⟩⟩ := hQ19
  have N19 := Fr.app N17 N19q
  refine own_t (T' := T19) (g' := (mkF m 220 #[.val (.int k1'), .val (.int k2'), .val (.int k3'), .val (.int k4'), .val (.int s'), .val (.int d'), .val (.ref b1), .val (.ref b3), .val (.int stt), .val (.int stp), .val (.int stt), .val (.int m1), .val (.int m2), .val (.int m3), .val (.int m4), .val (.int (1 : Int32))] [(.int (Int32.ofNat (l12 i3))), (.int (1 : Int32))])) st19 ?_
  have Z19 : n0 ≤ h19.size := Nat.le_trans Z17 K19.1
  have G19 := G17.keep K19 (by simpa using ne_fp)
  have X_19 := X_17.keep K19
  have VL19 := own_Ar_keep VL17 K19 (by simpa using ne_lp)
  refine own_w (T' := T19) (g' := (mkF m 222 #[.val (.int k1'), .val (.int k2'), .val (.int k3'), .val (.int k4'), .val (.int s'), .val (.int d'), .val (.ref b1), .val (.ref b3), .val (.int stt), .val (.int stp), .val (.int stt), .val (.int m1), .val (.int m2), .val (.int m3), .val (.int m4), .val (.int (1 : Int32))] [(.ref b3), (.int (Int32.ofNat (l12 i3))), (.int (1 : Int32))])) (fun _ k_ => XS.aload X19.here hx rfl (hb hby at_220) rfl rfl k_) ?_
  refine own_w (T' := T19) (g' := (mkF m 224 #[.val (.int k1'), .val (.int k2'), .val (.int k3'), .val (.int k4'), .val (.int s'), .val (.int d'), .val (.ref b1), .val (.ref b3), .val (.int stt), .val (.int stp), .val (.int stt), .val (.int m1), .val (.int m2), .val (.int m3), .val (.int m4), .val (.int (1 : Int32))] [(.int m3), (.ref b3), (.int (Int32.ofNat (l12 i3))), (.int (1 : Int32))])) (fun _ k_ => XS.iload X19.here hx rfl (hb hby at_222) rfl k_) ?_
  obtain ⟨cl20, Ar20, hs20⟩ := id VL19
  refine own_w (T' := T19) (g' := (mkF m 225 #[.val (.int k1'), .val (.int k2'), .val (.int k3'), .val (.int k4'), .val (.int s'), .val (.int d'), .val (.ref b1), .val (.ref b3), .val (.int stt), .val (.int stp), .val (.int stt), .val (.int m1), .val (.int m2), .val (.int m3), .val (.int m4), .val (.int (1 : Int32))] [(.int (Int32.ofNat (l12 i3))), (.int (Int32.ofNat (l12 i3))), (.int (1 : Int32))])) (fun t_ k_ => X19.iaload hx (j := m3) (v := .int (Int32.ofNat (l12 i3))) (by rw [e19]; exact Ar20.1) (State.isArrayOf_alike hZ.alike Ar20.2.1) Ar20.2.2 (own_Ar_in hs20 hi3 (own_get_lt (show _ = some (Int32.ofNat (l12 i3)) from (own_lst_get lt3)))) (own_Ar_at hs20 hi3 (show _ = some (Int32.ofNat (l12 i3)) from (own_lst_get lt3))) (g := (mkF m 224 #[.val (.int k1'), .val (.int k2'), .val (.int k3'), .val (.int k4'), .val (.int s'), .val (.int d'), .val (.ref b1), .val (.ref b3), .val (.int stt), .val (.int stp), .val (.int stt), .val (.int m1), .val (.int m2), .val (.int m3), .val (.int m4), .val (.int (1 : Int32))] [(.int m3), (.ref b3), (.int (Int32.ofNat (l12 i3))), (.int (1 : Int32))])) rfl rfl (hb hby at_224) t_ k_) ?_
  refine own_w (T' := T19) (g' := (mkF m 228 #[.val (.int k1'), .val (.int k2'), .val (.int k3'), .val (.int k4'), .val (.int s'), .val (.int d'), .val (.ref b1), .val (.ref b3), .val (.int stt), .val (.int stp), .val (.int stt), .val (.int m1), .val (.int m2), .val (.int m3), .val (.int m4), .val (.int (1 : Int32))] [(.int (1 : Int32))])) (fun _ k_ => XS.icmpNo X19.here hx rfl (hb hby at_225) rfl (teq rfl).2 k_) ?_
  refine own_w (T' := T19) (g' := (mkF m 229 #[.val (.int k1'), .val (.int k2'), .val (.int k3'), .val (.int k4'), .val (.int s'), .val (.int d'), .val (.ref b1), .val (.ref b3), .val (.int stt), .val (.int stp), .val (.int stt), .val (.int m1), .val (.int m2), .val (.int m3), .val (.int m4), .val (.int (1 : Int32))] [(.int (1 : Int32)), (.int (1 : Int32))])) (fun _ k_ => XS.iconst X19.here hx rfl (hb hby at_228) k_) ?_
  refine own_w (T' := T19) (g' := (mkF m 233 #[.val (.int k1'), .val (.int k2'), .val (.int k3'), .val (.int k4'), .val (.int s'), .val (.int d'), .val (.ref b1), .val (.ref b3), .val (.int stt), .val (.int stp), .val (.int stt), .val (.int m1), .val (.int m2), .val (.int m3), .val (.int m4), .val (.int (1 : Int32))] [(.int (1 : Int32)), (.int (1 : Int32))])) (fun _ k_ => XS.goto X19.here hx rfl (pc0 := 229) (pc' := 233) rfl (hb hby at_229) (by decide) (by decide) k_) ?_
  refine own_w (T' := T19) (g' := (mkF m 234 #[.val (.int k1'), .val (.int k2'), .val (.int k3'), .val (.int k4'), .val (.int s'), .val (.int d'), .val (.ref b1), .val (.ref b3), .val (.int stt), .val (.int stp), .val (.int stt), .val (.int m1), .val (.int m2), .val (.int m3), .val (.int m4), .val (.int (1 : Int32))] [(.int (1 : Int32))])) (fun _ k_ => XS.iand X19.here hx rfl (hb hby at_233) rfl k_) ?_
  refine own_w (T' := T19) (g' := (mkF m 236 #[.val (.int k1'), .val (.int k2'), .val (.int k3'), .val (.int k4'), .val (.int s'), .val (.int d'), .val (.ref b1), .val (.ref b3), .val (.int stt), .val (.int stp), .val (.int stt), .val (.int m1), .val (.int m2), .val (.int m3), .val (.int m4), .val (.int (1 : Int32))] [])) (fun _ k_ => XS.istore X19.here hx rfl (hb hby at_234) rfl (l' := #[.val (.int k1'), .val (.int k2'), .val (.int k3'), .val (.int k4'), .val (.int s'), .val (.int d'), .val (.ref b1), .val (.ref b3), .val (.int stt), .val (.int stp), .val (.int stt), .val (.int m1), .val (.int m2), .val (.int m3), .val (.int m4), .val (.int (1 : Int32))]) rfl k_) ?_
  refine own_w (T' := T19) (g' := (mkF m 238 #[.val (.int k1'), .val (.int k2'), .val (.int k3'), .val (.int k4'), .val (.int s'), .val (.int d'), .val (.ref b1), .val (.ref b3), .val (.int stt), .val (.int stp), .val (.int stt), .val (.int m1), .val (.int m2), .val (.int m3), .val (.int m4), .val (.int (1 : Int32))] [(.int (1 : Int32))])) (fun _ k_ => XS.iload X19.here hx rfl (hb hby at_236) rfl k_) ?_
  refine own_w (T' := T19) (g' := (mkF m 240 #[.val (.int k1'), .val (.int k2'), .val (.int k3'), .val (.int k4'), .val (.int s'), .val (.int d'), .val (.ref b1), .val (.ref b3), .val (.int stt), .val (.int stp), .val (.int stt), .val (.int m1), .val (.int m2), .val (.int m3), .val (.int m4), .val (.int (1 : Int32))] [(.ref b1), (.int (1 : Int32))])) (fun _ k_ => XS.aload X19.here hx rfl (hb hby at_238) rfl rfl k_) ?_
  refine own_w (T' := T19) (g' := (mkF m 242 #[.val (.int k1'), .val (.int k2'), .val (.int k3'), .val (.int k4'), .val (.int s'), .val (.int d'), .val (.ref b1), .val (.ref b3), .val (.int stt), .val (.int stp), .val (.int stt), .val (.int m1), .val (.int m2), .val (.int m3), .val (.int m4), .val (.int (1 : Int32))] [(.int m4), (.ref b1), (.int (1 : Int32))])) (fun _ k_ => XS.iload X19.here hx rfl (hb hby at_240) rfl k_) ?_
  obtain ⟨cq21, kq21, q21a, q21b, q21c⟩ := isOf hZ e19 X_19
  obtain ⟨_, _, ⟨T21, L21, k21, n21⟩, -, X21, ⟨Lc21, hQ21, l21, y21, z21⟩, st21⟩ := X19.virtualBack hx (y := (⟨"com/example/eigenvote/eigenvote/graph/Forest", "root", "(I)I"⟩ : MethodName)) (z := (⟨"com/example/eigenvote/eigenvote/graph/Forest", "root", "(I)I"⟩ : MethodName)) hown (mvT hZ (hw _ (List.mem_of_getElem? (i := 25) rfl))) (mvT hZ (hw _ (List.mem_of_getElem? (i := 26) rfl))) (notFace_of_selects (args := #[]) (mvT hZ (hw _ (List.mem_of_getElem? (i := 28) rfl)))) (mvT hZ (hw _ (List.mem_of_getElem? (i := 28) rfl))) (mvT hZ (hw _ (List.mem_of_getElem? (i := 27) rfl))) (by decide) (backOf (W := 1) (own_rm6 l Z a0 hw [] b1 m4 pa _ l12 _ _ i4 h19 n0 Z19 G19 V19 g_pa ne_fp hi4 lt4 I19) hZ (hw _ (List.mem_of_getElem? (i := 29) rfl)) (hw _ (List.mem_of_getElem? (i := 2) rfl)) (by decide) (by decide)) q21a q21c (g := (mkF m 242 #[.val (.int k1'), .val (.int k2'), .val (.int k3'), .val (.int k4'), .val (.int s'), .val (.int d'), .val (.ref b1), .val (.ref b3), .val (.int stt), .val (.int stp), .val (.int stt), .val (.int m1), .val (.int m2), .val (.int m3), .val (.int m4), .val (.int (1 : Int32))] [(.int m4), (.ref b1), (.int (1 : Int32))])) rfl (by rw [hml]; rfl) (Steps.refl _) (argsL := [(.int m4)]) (rest := [(.int (1 : Int32))]) (lenOf own_pd4 rfl) rfl (by show 2 * 0 + _ ≤ _; exact Nat.le_of_eq rfl) (hb hby at_242) (fun _ _ => ⟨rfl, e19, (by decide : 3 + 0 ≤ _), (by decide : 11 + 0 ≤ _)⟩)
  dsimp only [Pt.U, Pt.locs, Pt.cells, Pt.slots] at X21 l21 y21 z21 st21 hQ21
  subst l21 y21 z21
  obtain ⟨h21, e21⟩ : ∃ h, T21.heap = h := ⟨_, rfl⟩
  rw [e21] at hQ21
  obtain ⟨rfl, N21q, K21, ⟨p21, I21, V21⟩⟩ := hQ21
  have N21 := Fr.app N19 N21q
  refine own_t (T' := T21) (g' := (mkF m 245 #[.val (.int k1'), .val (.int k2'), .val (.int k3'), .val (.int k4'), .val (.int s'), .val (.int d'), .val (.ref b1), .val (.ref b3), .val (.int stt), .val (.int stp), .val (.int stt), .val (.int m1), .val (.int m2), .val (.int m3), .val (.int m4), .val (.int (1 : Int32))] [(.int (Int32.ofNat (l12 i4))), (.int (1 : Int32))])) st21 ?_
  have Z21 : n0 ≤ h21.size := Nat.le_trans Z19 K21.1
  have G21 := G19.keep K21 (by simpa using ne_fp)
  have X_21 := X_19.keep K21
  have VL21 := own_Ar_keep VL19 K21 (by simpa using ne_lp)
  refine own_w (T' := T21) (g' := (mkF m 247 #[.val (.int k1'), .val (.int k2'), .val (.int k3'), .val (.int k4'), .val (.int s'), .val (.int d'), .val (.ref b1), .val (.ref b3), .val (.int stt), .val (.int stp), .val (.int stt), .val (.int m1), .val (.int m2), .val (.int m3), .val (.int m4), .val (.int (1 : Int32))] [(.ref b3), (.int (Int32.ofNat (l12 i4))), (.int (1 : Int32))])) (fun _ k_ => XS.aload X21.here hx rfl (hb hby at_245) rfl rfl k_) ?_
  refine own_w (T' := T21) (g' := (mkF m 249 #[.val (.int k1'), .val (.int k2'), .val (.int k3'), .val (.int k4'), .val (.int s'), .val (.int d'), .val (.ref b1), .val (.ref b3), .val (.int stt), .val (.int stp), .val (.int stt), .val (.int m1), .val (.int m2), .val (.int m3), .val (.int m4), .val (.int (1 : Int32))] [(.int m4), (.ref b3), (.int (Int32.ofNat (l12 i4))), (.int (1 : Int32))])) (fun _ k_ => XS.iload X21.here hx rfl (hb hby at_247) rfl k_) ?_
  obtain ⟨cl22, Ar22, hs22⟩ := id VL21
  refine own_w (T' := T21) (g' := (mkF m 250 #[.val (.int k1'), .val (.int k2'), .val (.int k3'), .val (.int k4'), .val (.int s'), .val (.int d'), .val (.ref b1), .val (.ref b3), .val (.int stt), .val (.int stp), .val (.int stt), .val (.int m1), .val (.int m2), .val (.int m3), .val (.int m4), .val (.int (1 : Int32))] [(.int (Int32.ofNat (l12 i4))), (.int (Int32.ofNat (l12 i4))), (.int (1 : Int32))])) (fun t_ k_ => X21.iaload hx (j := m4) (v := .int (Int32.ofNat (l12 i4))) (by rw [e21]; exact Ar22.1) (State.isArrayOf_alike hZ.alike Ar22.2.1) Ar22.2.2 (own_Ar_in hs22 hi4 (own_get_lt (show _ = some (Int32.ofNat (l12 i4)) from (own_lst_get lt4)))) (own_Ar_at hs22 hi4 (show _ = some (Int32.ofNat (l12 i4)) from (own_lst_get lt4))) (g := (mkF m 249 #[.val (.int k1'), .val (.int k2'), .val (.int k3'), .val (.int k4'), .val (.int s'), .val (.int d'), .val (.ref b1), .val (.ref b3), .val (.int stt), .val (.int stp), .val (.int stt), .val (.int m1), .val (.int m2), .val (.int m3), .val (.int m4), .val (.int (1 : Int32))] [(.int m4), (.ref b3), (.int (Int32.ofNat (l12 i4))), (.int (1 : Int32))])) rfl rfl (hb hby at_249) t_ k_) ?_
  refine own_w (T' := T21) (g' := (mkF m 253 #[.val (.int k1'), .val (.int k2'), .val (.int k3'), .val (.int k4'), .val (.int s'), .val (.int d'), .val (.ref b1), .val (.ref b3), .val (.int stt), .val (.int stp), .val (.int stt), .val (.int m1), .val (.int m2), .val (.int m3), .val (.int m4), .val (.int (1 : Int32))] [(.int (1 : Int32))])) (fun _ k_ => XS.icmpNo X21.here hx rfl (hb hby at_250) rfl (teq rfl).2 k_) ?_
  refine own_w (T' := T21) (g' := (mkF m 254 #[.val (.int k1'), .val (.int k2'), .val (.int k3'), .val (.int k4'), .val (.int s'), .val (.int d'), .val (.ref b1), .val (.ref b3), .val (.int stt), .val (.int stp), .val (.int stt), .val (.int m1), .val (.int m2), .val (.int m3), .val (.int m4), .val (.int (1 : Int32))] [(.int (1 : Int32)), (.int (1 : Int32))])) (fun _ k_ => XS.iconst X21.here hx rfl (hb hby at_253) k_) ?_
  refine own_w (T' := T21) (g' := (mkF m 258 #[.val (.int k1'), .val (.int k2'), .val (.int k3'), .val (.int k4'), .val (.int s'), .val (.int d'), .val (.ref b1), .val (.ref b3), .val (.int stt), .val (.int stp), .val (.int stt), .val (.int m1), .val (.int m2), .val (.int m3), .val (.int m4), .val (.int (1 : Int32))] [(.int (1 : Int32)), (.int (1 : Int32))])) (fun _ k_ => XS.goto X21.here hx rfl (pc0 := 254) (pc' := 258) rfl (hb hby at_254) (by decide) (by decide) k_) ?_
  refine own_w (T' := T21) (g' := (mkF m 259 #[.val (.int k1'), .val (.int k2'), .val (.int k3'), .val (.int k4'), .val (.int s'), .val (.int d'), .val (.ref b1), .val (.ref b3), .val (.int stt), .val (.int stp), .val (.int stt), .val (.int m1), .val (.int m2), .val (.int m3), .val (.int m4), .val (.int (1 : Int32))] [(.int (1 : Int32))])) (fun _ k_ => XS.iand X21.here hx rfl (hb hby at_258) rfl k_) ?_
  refine own_w (T' := T21) (g' := (mkF m 261 #[.val (.int k1'), .val (.int k2'), .val (.int k3'), .val (.int k4'), .val (.int s'), .val (.int d'), .val (.ref b1), .val (.ref b3), .val (.int stt), .val (.int stp), .val (.int stt), .val (.int m1), .val (.int m2), .val (.int m3), .val (.int m4), .val (.int (1 : Int32))] [])) (fun _ k_ => XS.istore X21.here hx rfl (hb hby at_259) rfl (l' := #[.val (.int k1'), .val (.int k2'), .val (.int k3'), .val (.int k4'), .val (.int s'), .val (.int d'), .val (.ref b1), .val (.ref b3), .val (.int stt), .val (.int stp), .val (.int stt), .val (.int m1), .val (.int m2), .val (.int m3), .val (.int m4), .val (.int (1 : Int32))]) rfl k_) ?_
  refine own_w (T' := T21) (g' := (mkF m 263 #[.val (.int k1'), .val (.int k2'), .val (.int k3'), .val (.int k4'), .val (.int s'), .val (.int d'), .val (.ref b1), .val (.ref b3), .val (.int stt), .val (.int stp), .val (.int stt), .val (.int m1), .val (.int m2), .val (.int m3), .val (.int m4), .val (.int (1 : Int32))] [(.int (1 : Int32))])) (fun _ k_ => XS.iload X21.here hx rfl (hb hby at_261) rfl k_) ?_
  obtain ⟨fs, hr, hrun, hended, hW, hsame⟩ := X21.leave (v := some (.int (1 : Int32))) (fun h => by rw [Bd.returns] at h; cases h)
  exact ⟨_, _, retOut X21 hx Bd.returns rfl (Or.inl ⟨rfl, Or.inr (Or.inl rfl), _, rfl⟩) (hb hby at_263) hr, hrun, hended, _, _, rfl, (by show own_Q0 Z k1' k2' k3' k4' s' d' h0 n0 _ T21.heap _; rw [e21]; exact ⟨rfl, N21⟩), ⟨_, rfl⟩, hW, hsame.mono (by decide) (by decide)⟩
set_option maxRecDepth 65536 in
set_option maxHeartbeats 40000000 in
theorem comes_1 {Post : Tables → Env → Array Value → State → Outcome → State → Prop} (hpost : ∀ tb e args s v u, (limb_1_1.after args s (.returned v) u = true ∧ limb_1_2.after args s (.returned v) u = true ∧ True) → FrameEnd s (.returned v) u (Jvm.fieldLocs frame_1_writes args s ++ Jvm.arrayLocs frame_1_arrays args s ++ Jvm.staticLocs frame_1_statics s) 16 128 → Post tb e args s (.returned v) u) :
    ArmFor flags0 classFile x code maxLocals ret World_1 tables_1 room_1 Calls_1 rest_1 Pre_1 Post := by
  intro l hfl _ _ p e ha hc hk s m args below hf hA hF happ hP
  obtain ⟨hcalls, hrest, hpre⟩ := hP
  obtain ⟨-, -, -, hnamed, -, -, -, hat⟩ := (Spec.applies_iff hf).mp happ
  obtain ⟨hg, hn⟩ := and_e (Cond.before_iff.mp (show (Jvm.Cond.and given_1 narrow_1).before args s = true from hpre))
  obtain ⟨hcount, hr0⟩ := and_e hg
  obtain ⟨ga0, hr1⟩ := and_e hr0
  obtain ⟨ga1, hr2⟩ := and_e hr1
  obtain ⟨ga2, hr3⟩ := and_e hr2
  obtain ⟨ga3, hr4⟩ := and_e hr3
  obtain ⟨ga4, hr5⟩ := and_e hr4
  have ga5 := hr5
  obtain ⟨w0, w1, w2, w3, w4, w5, rfl⟩ : ∃ w0 w1 w2 w3 w4 w5 : Value, args = #[w0, w1, w2, w3, w4, w5] := by
    have hs : args.size = 6 := by simpa [Cond.value, given_1] using hcount
    obtain ⟨L⟩ := args
    match L, hs with
    | [w0, w1, w2, w3, w4, w5], _ => exact ⟨w0, w1, w2, w3, w4, w5, rfl⟩
  have hw := fun d (hd : d ∈ tables_1) => atoms_spec (ws := Jvm.Cond.code x code maxLocals ret :: tables_1) hat d (List.mem_cons_of_mem _ hd)
  obtain ⟨i0, ei0⟩ := is_v ga0
  obtain rfl : w0 = (.int i0) := Option.some.inj ei0
  obtain ⟨i1, ei1⟩ := is_v ga1
  obtain rfl : w1 = (.int i1) := Option.some.inj ei1
  obtain ⟨i2, ei2⟩ := is_v ga2
  obtain rfl : w2 = (.int i2) := Option.some.inj ei2
  obtain ⟨i3, ei3⟩ := is_v ga3
  obtain rfl : w3 = (.int i3) := Option.some.inj ei3
  obtain ⟨i4, ei4⟩ := is_v ga4
  obtain rfl : w4 = (.int i4) := Option.some.inj ei4
  obtain ⟨i5, ei5⟩ := is_v ga5
  obtain rfl : w5 = (.int i5) := Option.some.inj ei5
  obtain ⟨n, o, h1, h2, h3, _, L, rfl, ⟨rfl, N⟩, hq⟩ := own_rm0 l s _ hw tables_1 i0 i1 i2 i3 i4 i5 s.heap s.heap.size (Nat.le_refl _) p e ha hc hk s m _ below hf ((Spec.applies_iff_loose hf).mp happ).1 ⟨rfl, State.Warmed39.refl s, rfl⟩ trivial
  refine ⟨n, _, h1, h2, h3, hpost _ _ _ _ _ _ ⟨Cond.after_iff.mpr rfl, Cond.after_iff.mpr (eq_i res_at (Term.int_eval (1)) rfl), trivial⟩ ⟨hq.1, hq.2.1, (hq.2.2.sift fun y hy => Or.inr (N y hy)).mono (by decide) (by decide)⟩⟩
theorem main_1_1 : Claimed_1_1 := comes_1 fun _ _ _ _ _ _ h hF => ⟨h.1, hF⟩
theorem main_1_2 : Claimed_1_2 := comes_1 fun _ _ _ _ _ _ h hF => ⟨h.2.1, hF⟩
end Jvm.Pilot.@@N@@
namespace Jvm.Pilot.@@N@@
open Jvm Jvm.ClassFile Sem Op Lib Jvm.Free Jvm.Stand Jvm.Pilot.@@N@@.Jvm.D
/-! MADE BY PROGRAM (witnessworld.py) out of the Statement's table words and the real class files: 9 classes; the members and pool entries that the words name. The judged class is class 1, her method 1. -/
namespace start1
open Jvm.ClassFile
def u (s : String) : CpInfo := .utf8 (stringToUtf16 s)
/-- a pool by its gaps: so many unusable entries, then the entry; so many at the end -/
def gap : Nat → List CpInfo → List CpInfo
  | 0, r => r
  | n + 1, r => .unusable :: gap n r
def poolList (es : List (Nat × CpInfo)) (last : Nat) : List CpInfo := es.foldr (fun e r => gap e.1 (e.2 :: r)) (gap last [])
def pool (es : List (Nat × CpInfo)) (last : Nat) : Array CpInfo := ⟨poolList es last⟩
def fileOf (pool : Array CpInfo) (this : Nat) (attrs : Array Attribute := #[]) (ms : Array MethodInfo := #[]) (fl : Nat := 33) (sup : Nat := 0) (ifs : Array Nat := #[]) (fds : Array FieldInfo := #[]) : ClassFile where
  minorVersion := 0
  majorVersion := 65
  constantPool := pool
  accessFlags := fl
  thisClass := this
  superClass := sup
  interfaces := ifs
  fields := fds
  methods := ms
  attributes := attrs
def plain (name : String) (sup : Option ClassId) : Class where
  name := name
  kind := .ordinary
  loader := none
  accessFlags := 33
  super := sup
  interfaces := #[]
  cf := none
  fields := #[]
  methods := #[]
  instanceTypes := #[]
  staticTypes := #[]
  resolved := #[]
  callSites := []
  init := .initialized
  statics := none
  mirror := none

def pool0 : Array CpInfo := pool [(5, u "<init>"), (0, u "()V"), (1, .class_ 10), (1, u "java/lang/Object")] 113

def k0c0 : Code := { maxStack := 0, maxLocals := 1, code := object_method_1_code, exceptionTable := #[], attributes := #[] }
def k0m0 : Method := { name := "<init>", desc := "()V", sig := { parameters := [], returnType := none }, accessFlags := 1, code := some k0c0 }
/-- java/lang/Object -/
def k0 : Class := { plain "java/lang/Object" none with
  accessFlags := 33
  interfaces := #[]
  cf := some (fileOf pool0 8 #[] #[{ accessFlags := 1, nameIndex := 5, descriptorIndex := 6, attributes := #[] }] 33 0 #[] #[])
  fields := #[]
  methods := #[k0m0]
  instanceTypes := #[]
  staticTypes := #[]
  resolved := Array.replicate 124 none
  statics := none }

def pool1 : Array CpInfo := pool [(2, .class_ 4), (1, u "java/lang/Object"), (0, u "<init>"), (0, u "()V"), (0, .class_ 8), (0, u "com/example/eigenvote/eigenvote/graph/Forest"), (0, .methodref 7 10), (0, .nameAndType 5 11), (0, u "(I)V"), (0, .methodref 13 14), (0, .class_ 15), (0, .nameAndType 16 17), (0, u "com/example/eigenvote/eigenvote/graph/ForestRootPinLaw"), (0, u "join"), (0, u "(Lcom/example/eigenvote/eigenvote/graph/Forest;[II)V"), (0, .integer 2147483647), (0, .methodref 7 20), (0, .nameAndType 21 22), (0, u "root"), (0, u "(I)I"), (0, .methodref 7 24), (0, .nameAndType 25 26), (0, u "attach"), (0, u "(II)V"), (0, .methodref 13 28), (0, .nameAndType 29 30), (0, u "relabel"), (0, u "([III)V"), (2, u "law"), (0, u "(IIIIII)Z")] 5

def k1m0 : Method := { name := "<init>", desc := "()V", sig := { parameters := [], returnType := none }, accessFlags := 1, code := none }
def k1c1 : Code := { maxStack := 4, maxLocals := 16, code := code, exceptionTable := #[], attributes := #[] }
def k1m1 : Method := { name := "law", desc := "(IIIIII)Z", sig := { parameters := [.int, .int, .int, .int, .int, .int], returnType := some .boolean }, accessFlags := 9, code := some k1c1 }
def k1c2 : Code := { maxStack := 3, maxLocals := 7, code := method_3_code, exceptionTable := #[], attributes := #[] }
def k1m2 : Method := { name := "join", desc := "(Lcom/example/eigenvote/eigenvote/graph/Forest;[II)V", sig := { parameters := [(.object "com/example/eigenvote/eigenvote/graph/Forest"), (.array .int), .int], returnType := none }, accessFlags := 10, code := some k1c2 }
def k1c3 : Code := { maxStack := 3, maxLocals := 3, code := method_4_code, exceptionTable := #[], attributes := #[] }
def k1m3 : Method := { name := "relabel", desc := "([III)V", sig := { parameters := [(.array .int), .int, .int], returnType := none }, accessFlags := 10, code := some k1c3 }
/-- com/example/eigenvote/eigenvote/graph/ForestRootPinLaw -/
def k1 : Class := { plain "com/example/eigenvote/eigenvote/graph/ForestRootPinLaw" (some 0) with
  accessFlags := 49
  interfaces := #[]
  cf := some (fileOf pool1 13 #[] #[{ accessFlags := 1, nameIndex := 5, descriptorIndex := 6, attributes := #[] }, { accessFlags := 9, nameIndex := 33, descriptorIndex := 34, attributes := #[] }, { accessFlags := 10, nameIndex := 16, descriptorIndex := 17, attributes := #[] }, { accessFlags := 10, nameIndex := 29, descriptorIndex := 30, attributes := #[] }] 49 2 #[] #[])
  fields := #[]
  methods := #[k1m0, k1m1, k1m2, k1m3]
  instanceTypes := #[]
  staticTypes := #[]
  resolved := Array.replicate 40 none
  statics := none }

def pool2 : Array CpInfo := pool [(1, .methodref 2 3), (0, .class_ 4), (0, .nameAndType 5 6), (0, u "java/lang/Object"), (0, u "<init>"), (0, u "()V"), (0, .fieldref 8 9), (0, .class_ 10), (0, .nameAndType 11 12), (0, u "com/example/eigenvote/eigenvote/graph/Forest"), (0, u "parents"), (0, u "[I"), (0, u "(I)V"), (3, u "root"), (0, u "(I)I"), (0, u "attach"), (0, u "(II)V")] 2

def k2c0 : Code := { maxStack := 3, maxLocals := 3, code := prog_8_method_1_code, exceptionTable := #[], attributes := #[] }
def k2m0 : Method := { name := "<init>", desc := "(I)V", sig := { parameters := [.int], returnType := none }, accessFlags := 1, code := some k2c0 }
def k2c1 : Code := { maxStack := 5, maxLocals := 3, code := prog_8_method_2_code, exceptionTable := #[], attributes := #[] }
def k2m1 : Method := { name := "root", desc := "(I)I", sig := { parameters := [.int], returnType := some .int }, accessFlags := 1, code := some k2c1 }
def k2c2 : Code := { maxStack := 3, maxLocals := 3, code := prog_8_method_3_code, exceptionTable := #[], attributes := #[] }
def k2m2 : Method := { name := "attach", desc := "(II)V", sig := { parameters := [.int, .int], returnType := none }, accessFlags := 1, code := some k2c2 }
/-- com/example/eigenvote/eigenvote/graph/Forest -/
def k2 : Class := { plain "com/example/eigenvote/eigenvote/graph/Forest" (some 0) with
  accessFlags := 33
  interfaces := #[]
  cf := some (fileOf pool2 8 #[] #[{ accessFlags := 1, nameIndex := 5, descriptorIndex := 13, attributes := #[] }, { accessFlags := 1, nameIndex := 17, descriptorIndex := 18, attributes := #[] }, { accessFlags := 1, nameIndex := 19, descriptorIndex := 20, attributes := #[] }] 33 2 #[] #[{ accessFlags := 18, nameIndex := 11, descriptorIndex := 12, attributes := #[] }])
  fields := #[{ name := "parents", type := (.array .int), accessFlags := 18, slot := 0, constantValue := 0 }]
  methods := #[k2m0, k2m1, k2m2]
  instanceTypes := #[(.array .int)]
  staticTypes := #[]
  resolved := Array.replicate 23 none
  statics := none }

def pool3 : Array CpInfo := pool [(1, u "java/lang/Cloneable"), (0, .class_ 1), (0, u "java/lang/Object"), (0, .class_ 3)] 3

/-- java/lang/Cloneable -/
def k3 : Class := { plain "java/lang/Cloneable" (some 0) with
  accessFlags := 1537
  interfaces := #[]
  cf := some (fileOf pool3 2 #[] #[] 1537 4 #[] #[])
  fields := #[]
  methods := #[]
  instanceTypes := #[]
  staticTypes := #[]
  resolved := Array.replicate 8 none
  statics := none }

def pool4 : Array CpInfo := pool [(1, u "java/io/Serializable"), (0, .class_ 1), (0, u "java/lang/Object"), (0, .class_ 3)] 3

/-- java/io/Serializable -/
def k4 : Class := { plain "java/io/Serializable" (some 0) with
  accessFlags := 1537
  interfaces := #[]
  cf := some (fileOf pool4 2 #[] #[] 1537 4 #[] #[])
  fields := #[]
  methods := #[]
  instanceTypes := #[]
  staticTypes := #[]
  resolved := Array.replicate 8 none
  statics := none }

/-- the primitive byte -/
def k5 : Class := { plain "byte" none with kind := .primitive 'B', accessFlags := 0x411 }
/-- [B -/
def k6 : Class := { plain "[B" (some 0) with kind := .array 5 .byte, interfaces := #[3, 4], accessFlags := 1041 }

/-- the primitive int -/
def k7 : Class := { plain "int" none with kind := .primitive 'I', accessFlags := 0x411 }
/-- [I -/
def k8 : Class := { plain "[I" (some 0) with kind := .array 7 .int, interfaces := #[3, 4], accessFlags := 1041 }

def heap : Heap := #[]
def classes : Array Class := #[k0, k1, k2, k3, k4, k5, k6, k7, k8]
def interned : List (Array UInt16 × Addr) := []
def slotsUsed : Nat := 0
def theMethod : MethodId := ⟨1, 1⟩
def args0 : Array Value := #[.int 5, .int 7, .int 9, .int 100, .int 65, .int 66]
def aboutOver (below : List Frame) : State where
  vm := { classes := classes, interned := interned.toArray }
  heap := heap
  slotsUsed := slotsUsed
  threads := #[{ frames := .invoking theMethod args0 :: below }]
def below0 : List Frame := [.native { method := ⟨0, 0⟩, args := #[] }]
def about1 : State := aboutOver below0
def p0 : Program := .bare "" "" ""
def e0 : Env := launch0.env 0 0 0
theorem w_frames : about1.frames = Frame.invoking theMethod args0 :: below0 := rfl
set_option maxRecDepth 65536 in
theorem w_args : argsFit about1.vm theMethod args0 = true := by decide +kernel
set_option maxRecDepth 65536 in
theorem w_heap : heapFits about1 = true := by decide +kernel
set_option maxRecDepth 65536 in
theorem w_runnable : about1.curStatus? = some .runnable := by decide +kernel
set_option maxRecDepth 65536 in
theorem w_alone : about1.alone = true := by decide +kernel
set_option maxRecDepth 65536 in
theorem w_named : about1.methodNamed? x = some theMethod := by decide +kernel
set_option maxRecDepth 65536 in
theorem w_hears : about1.hears theMethod below0 = true := by decide +kernel
set_option maxRecDepth 65536 in
theorem w_ripe : about1.ripe theMethod args0 below0 = true := by decide +kernel
theorem w_running : about1.status = .running := rfl
set_option maxRecDepth 65536 in
theorem w_room : about1.hasRoom e0.platform room_1 = true :=
  launch0.hasRoom_least _ room_1 (by decide +kernel) (by decide +kernel) (by decide +kernel) (by decide +kernel) (by decide +kernel) (by decide +kernel)
theorem allAtoms_all (ts : List Jvm.Cond) (a : Array Jvm.Value) (st : Jvm.State) : (allAtoms ts).before a st = ts.all (fun c => c.before a st) := by
  induction ts with
  | nil => rfl
  | cons c t ih =>
    show (Jvm.Cond.and c (allAtoms t)).before a st = _
    rw [Jvm.Cond.before_and, ih, List.all_cons]
def words1 : List Jvm.Cond := Jvm.Cond.code x code maxLocals ret :: tables_1
/-- a 'code' word, met by the world's own term for the bytes: nothing is compared byte by byte -/
theorem code_word {y : MethodName} {bytes : ByteArray} {mx : Nat} {rt : Option FieldType} {a : Array Value} {s : State} {m : MethodId} {meth : Method} {c : Code} (h1 : s.methodNamed? y = some m) (h2 : s.vm.method? m = some meth) (h3 : meth.code = some c) (h4 : c.code = bytes)
    (h5 : (c.maxLocals == mx && c.exceptionTable.isEmpty && decide (c.maxStack ≤ mostOperands) && decide (meth.sig.returnType = rt) && !meth.locks && decide (parseMethodDescriptor y.desc = some meth.sig)) = true) : (Jvm.Cond.code y bytes mx rt).before a s = true := by
  simp only [Bool.and_eq_true, beq_iff_eq, Bool.not_eq_true', decide_eq_true_eq] at h5
  obtain ⟨⟨⟨⟨⟨g1, g2⟩, g3⟩, g4⟩, g5⟩, g6⟩ := h5
  simp [Cond.before, Cond.holds, Cond.value, h1, h2, h3, h4, g1, g2, g3, g4, g5, g6]
def isCode : Jvm.Cond → Bool
  | .code _ _ _ _ => true
  | _ => false
theorem all_split {L : List Jvm.Cond} {P : Jvm.Cond → Bool} (h1 : L.all (fun c => isCode c || P c) = true) (h2 : ∀ c ∈ L.filter isCode, P c = true) : L.all P = true := by
  refine List.all_eq_true.mpr fun c hc => ?_
  have h := List.all_eq_true.mp h1 c hc
  rcases Bool.eq_false_or_eq_true (isCode c) with hi | hi
  · exact h2 c (List.mem_filter.mpr ⟨hc, hi⟩)
  · simpa [hi] using h
set_option maxRecDepth 65536 in
theorem w_c0 : (Jvm.Cond.code x code maxLocals ret).before args0 about1 = true := code_word (m := ⟨1, 1⟩) (meth := k1m1) (c := k1c1) (by decide +kernel) rfl rfl rfl (by decide +kernel)
set_option maxRecDepth 65536 in
theorem w_c1 : (Jvm.Cond.code ({ cls := "com/example/eigenvote/eigenvote/graph/Forest", name := "<init>", desc := "(I)V" } : Jvm.MethodName) prog_8_method_1_code (3 : Nat) (Option.none : Option Jvm.ClassFile.FieldType)).before args0 about1 = true := code_word (m := ⟨2, 0⟩) (meth := k2m0) (c := k2c0) (by decide +kernel) rfl rfl rfl (by decide +kernel)
set_option maxRecDepth 65536 in
theorem w_c2 : (Jvm.Cond.code ({ cls := "java/lang/Object", name := "<init>", desc := "()V" } : Jvm.MethodName) object_method_1_code (1 : Nat) (Option.none : Option Jvm.ClassFile.FieldType)).before args0 about1 = true := code_word (m := ⟨0, 0⟩) (meth := k0m0) (c := k0c0) (by decide +kernel) rfl rfl rfl (by decide +kernel)
set_option maxRecDepth 65536 in
theorem w_c3 : (Jvm.Cond.code ({ cls := "com/example/eigenvote/eigenvote/graph/ForestRootPinLaw", name := "join", desc := "(Lcom/example/eigenvote/eigenvote/graph/Forest;[II)V" } : Jvm.MethodName) method_3_code (7 : Nat) (Option.none : Option Jvm.ClassFile.FieldType)).before args0 about1 = true := code_word (m := ⟨1, 2⟩) (meth := k1m2) (c := k1c2) (by decide +kernel) rfl rfl rfl (by decide +kernel)
set_option maxRecDepth 65536 in
theorem w_c4 : (Jvm.Cond.code ({ cls := "com/example/eigenvote/eigenvote/graph/Forest", name := "attach", desc := "(II)V" } : Jvm.MethodName) prog_8_method_3_code (3 : Nat) (Option.none : Option Jvm.ClassFile.FieldType)).before args0 about1 = true := code_word (m := ⟨2, 2⟩) (meth := k2m2) (c := k2c2) (by decide +kernel) rfl rfl rfl (by decide +kernel)
set_option maxRecDepth 65536 in
theorem w_c5 : (Jvm.Cond.code ({ cls := "com/example/eigenvote/eigenvote/graph/ForestRootPinLaw", name := "relabel", desc := "([III)V" } : Jvm.MethodName) method_4_code (3 : Nat) (Option.none : Option Jvm.ClassFile.FieldType)).before args0 about1 = true := code_word (m := ⟨1, 3⟩) (meth := k1m3) (c := k1c3) (by decide +kernel) rfl rfl rfl (by decide +kernel)
set_option maxRecDepth 65536 in
theorem w_c6 : (Jvm.Cond.code ({ cls := "com/example/eigenvote/eigenvote/graph/Forest", name := "root", desc := "(I)I" } : Jvm.MethodName) prog_8_method_2_code (3 : Nat) (Option.some Jvm.ClassFile.FieldType.int)).before args0 about1 = true := code_word (m := ⟨2, 1⟩) (meth := k2m1) (c := k2c1) (by decide +kernel) rfl rfl rfl (by decide +kernel)
def codes1 : List Jvm.Cond := [Jvm.Cond.code x code maxLocals ret, Jvm.Cond.code ({ cls := "com/example/eigenvote/eigenvote/graph/Forest", name := "<init>", desc := "(I)V" } : Jvm.MethodName) prog_8_method_1_code (3 : Nat) (Option.none : Option Jvm.ClassFile.FieldType), Jvm.Cond.code ({ cls := "java/lang/Object", name := "<init>", desc := "()V" } : Jvm.MethodName) object_method_1_code (1 : Nat) (Option.none : Option Jvm.ClassFile.FieldType), Jvm.Cond.code ({ cls := "com/example/eigenvote/eigenvote/graph/ForestRootPinLaw", name := "join", desc := "(Lcom/example/eigenvote/eigenvote/graph/Forest;[II)V" } : Jvm.MethodName) method_3_code (7 : Nat) (Option.none : Option Jvm.ClassFile.FieldType), Jvm.Cond.code ({ cls := "com/example/eigenvote/eigenvote/graph/Forest", name := "attach", desc := "(II)V" } : Jvm.MethodName) prog_8_method_3_code (3 : Nat) (Option.none : Option Jvm.ClassFile.FieldType), Jvm.Cond.code ({ cls := "com/example/eigenvote/eigenvote/graph/ForestRootPinLaw", name := "relabel", desc := "([III)V" } : Jvm.MethodName) method_4_code (3 : Nat) (Option.none : Option Jvm.ClassFile.FieldType), Jvm.Cond.code ({ cls := "com/example/eigenvote/eigenvote/graph/Forest", name := "root", desc := "(I)I" } : Jvm.MethodName) prog_8_method_2_code (3 : Nat) (Option.some Jvm.ClassFile.FieldType.int)]
set_option maxRecDepth 65536 in
theorem codes_eq : words1.filter isCode = codes1 := rfl
theorem w_codes : ∀ c ∈ words1.filter isCode, c.before args0 about1 = true := by
  rw [codes_eq]
  intro c hc
  simp only [codes1, List.mem_cons, List.not_mem_nil, or_false] at hc
  rcases hc with rfl | rfl | rfl | rfl | rfl | rfl | rfl
  · exact w_c0
  · exact w_c1
  · exact w_c2
  · exact w_c3
  · exact w_c4
  · exact w_c5
  · exact w_c6
set_option maxRecDepth 65536 in
theorem w_t1 : (words1.take 24).all (fun c => isCode c || c.before args0 about1) = true := by decide +kernel
set_option maxRecDepth 65536 in
theorem w_t2 : (words1.drop 24).all (fun c => isCode c || c.before args0 about1) = true := by decide +kernel
theorem w_tables : (allAtoms (Jvm.Cond.code x code maxLocals ret :: tables_1)).before args0 about1 = true := by
  rw [allAtoms_all]
  show words1.all (fun c => c.before args0 about1) = true
  refine all_split ?_ w_codes
  rw [← List.take_append_drop 24 words1, List.all_append, w_t1, w_t2]
  rfl
set_option maxRecDepth 65536 in
theorem w_case : (Jvm.Cond.and given_1 narrow_1).before args0 about1 = true := by decide +kernel
theorem w_applies : (headSpec (Jvm.Cond.code x code maxLocals ret :: tables_1) room_1).applies x e0.platform about1 = true :=
  (Spec.applies_iff w_frames).mpr ⟨w_running, w_runnable, w_alone, w_named, w_hears, w_ripe, w_room, w_tables⟩
theorem atStart : AtStart classFile x code maxLocals ret World_1 tables_1 room_1 Calls_1 rest_1 Pre_1 launch0 p0 e0 about1 theMethod args0 below0 :=
  ⟨lists_1, trivial, launch0.admits_env _ _ _, launch0.least_env, fairChoices_fair.cas, fairChoices_fair.clock, w_frames, w_args, w_heap, w_applies, trivial, trivial, w_case⟩
end start1
theorem witness_1 : WitnessClaimed_1 := ⟨start1.p0, start1.e0, start1.about1, start1.theMethod, start1.args0, start1.below0, start1.atStart⟩
end Jvm.Pilot.@@N@@
