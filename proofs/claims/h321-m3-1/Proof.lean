import JvmDerived
import JvmDerived.Pilot.@@N@@Statement
import JvmDerived.Pilot.@@N@@Code
set_option linter.unusedVariables false
set_option linter.unusedSimpArgs false
namespace Jvm.Pilot.@@N@@
open Jvm Jvm.ClassFile Sem Op Lib Jvm.Free Jvm.Stand Jvm.LawKit Jvm.RoadKit Bundle Jvm.Pilot.@@N@@.Jvm.D
/-- what is left to show at a frame of the walk: the run from there ends as the contract says -/
def own_G (p : Program) (e : Env) (below : List Frame) (s : State) (Q : Option Value → Heap → List Loc → Prop) (ce sl : Nat) (T : State) (g : JFrame) : Prop :=
  ∃ s₂ o, Steps p.tables e below (T.setTop g) s₂ ∧ s₂.status = .running ∧ Ended s₂ below o ∧ ∃ v L, o = .returned v ∧ Q v s₂.heap L ∧ FrameEnd s o s₂ L ce sl
theorem own_w {p : Program} {e : Env} {below : List Frame} {s : State} {Q : Option Value → Heap → List Loc → Prop} {ce sl : Nat} {T T' : State} {g g' : JFrame}
    (st : ∀ target, Steps p.tables e below (T'.setTop g') target → Steps p.tables e below (T.setTop g) target) (k : own_G p e below s Q ce sl T' g') : own_G p e below s Q ce sl T g := by
  obtain ⟨u, o, a, r⟩ := k
  exact ⟨u, o, st u a, r⟩
theorem own_t {p : Program} {e : Env} {below : List Frame} {s : State} {Q : Option Value → Heap → List Loc → Prop} {ce sl : Nat} {T T' : State} {g g' : JFrame}
    (st : Steps p.tables e below (T.setTop g) (T'.setTop g')) (k : own_G p e below s Q ce sl T' g') : own_G p e below s Q ce sl T g := own_w (fun _ k => st.trans k) k
theorem own_sta {Z : State} {h h' : Heap} {C n d : String} {v : Value} {a : Addr} (F : Sta Z h C n d v) (K : Keep h h' [a]) (na : ∀ cell : Cell, h[a]? = some cell → cell.vm.isStatics = false) : Sta Z h' C n d v := by
  obtain ⟨cf, i, k, f, st, cell, h1, h2, h3, h4, h5, h6, h7⟩ := F
  refine ⟨cf, i, k, f, st, cell, h1, h2, h3, h4, K.2.1 st cell h5 (fun q => ?_), h6, h7⟩
  have e : st = a := List.mem_singleton.mp q
  subst e
  rw [na _ h5] at h6; cases h6
theorem own_nb {P : Prop} [Decidable P] : narrow .boolean (.int (if P then (1 : Int32) else 0)) = .int (if P then (1 : Int32) else 0) := by split <;> rfl
theorem own_ite0 {P : Prop} [Decidable P] : ((if P then (1 : Int32) else 0) = 0) = ¬ P := by by_cases h : P <;> simp [h]
def own_Ar (Z : State) (h : Heap) (a : Addr) (ty : FieldType) (xs : List Int32) : Prop := ∃ c : Cell, Arr Z h a c ty ∧ c.slots = (xs.map Value.int).toArray
section Arrays
variable {Z : State} {h h' : Heap} {a b : Addr} {ty : FieldType} {xs : List Int32} {c : Cell} {i : Nat} {j x y v : Int32} {sl : Nat} {u : Value} {ws : List Addr}
theorem own_Ar_lt (V : own_Ar Z h a ty xs) : a < h.size := by obtain ⟨c, A, -⟩ := V; exact A.lt
theorem own_Ar_ext (V : own_Ar Z h a ty xs) (E : Ext h h') : own_Ar Z h' a ty xs := by obtain ⟨c, A, r⟩ := V; exact ⟨c, A.ext E, r⟩
theorem own_Ar_other (V : own_Ar Z h b ty xs) (W : Wr h h' a sl u) (q : b ≠ a) : own_Ar Z h' b ty xs := by obtain ⟨c, A, r⟩ := V; exact ⟨c, A.other W q, r⟩
theorem own_Ar_keep (V : own_Ar Z h a ty xs) (K : Keep h h' ws) (q : a ∉ ws) : own_Ar Z h' a ty xs := by obtain ⟨c, A, r⟩ := V; exact ⟨c, ⟨K.2.1 a c A.1 q, A.2⟩, r⟩
theorem own_Ar_new {cA : ClassId} {n : Int32} {k : Nat} (A : Arr Z h a (newA cA ty n) ty) (hd : defaultValue ty = .int 0) (hn : n.toNatClampNeg = k) : own_Ar Z h a ty (List.replicate k 0) := by
  refine ⟨_, A, ?_⟩
  show Array.replicate n.toNatClampNeg (defaultValue ty) = _
  rw [hd, hn]; simp
theorem own_ix (hj : j.toInt = (i : Int)) : j.toNatClampNeg = i := by show j.toInt.toNat = i; rw [hj]; rfl
theorem own_Ar_set (V : own_Ar Z h a ty xs) (W : Wr h h' a j.toNatClampNeg (.int y)) (hj : j.toInt = (i : Int)) (hv : y = v) : own_Ar Z h' a ty (xs.set i v) := by
  obtain ⟨c, A, hs⟩ := V
  subst hv
  refine ⟨_, A.same W, ?_⟩
  show c.slots.setIfInBounds _ _ = _
  rw [hs, own_ix hj]; simp [List.map_set]
theorem own_Ar_in (hs : c.slots = (xs.map Value.int).toArray) (hj : j.toInt = (i : Int)) (hi : i < xs.length) : ¬ (j < 0 ∨ c.slots.size ≤ j.toNatClampNeg) := by
  rw [hs, own_ix hj, Int32.lt_iff_toInt_lt, hj, show (0 : Int32).toInt = 0 from rfl]
  simp; omega
theorem own_Ar_at (hs : c.slots = (xs.map Value.int).toArray) (hj : j.toInt = (i : Int)) (hx : xs[i]? = some x) : c.slots[j.toNatClampNeg]? = some (.int x) := by
  rw [hs, own_ix hj]; simp [hx]
theorem own_fitc (A : Arr Z h a c ty) (hs : c.slots = (xs.map Value.int).toArray) (hf : ∀ x ∈ xs, fits ty (.int x) = true) : FitC Z c := fitC_of A fun i hi v hv => by
  rw [hs] at hv
  simp only [List.getElem?_toArray, List.getElem?_map, Option.map_eq_some_iff] at hv
  obtain ⟨x, hx, rfl⟩ := hv
  exact hf x (List.mem_of_getElem? hx)
theorem own_get_lt (hx : xs[i]? = some x) : i < xs.length := (List.getElem?_eq_some_iff.mp hx).1
end Arrays
theorem own_rem {x y : Int32} (d : Nat) (hy : y.toInt = d) (hd : 0 < d) (hx : 0 ≤ x.toInt) : (x - (x / y) * y).toInt = x.toInt % d := by
  have q := (c_idiv x y d hy (by intro h; rw [h] at hy; have : (-1 : Int32).toInt = -1 := by decide
                                 omega)).1 hx
  have m := c_imul (x / y) y
  have s := c_isub x (x / y * y)
  rw [q, hy] at m
  have e := Int.mul_ediv_add_emod x.toInt d
  have r0 := Int.emod_nonneg x.toInt (show (d : Int) ≠ 0 by omega)
  have r1 := Int.emod_lt_of_pos x.toInt (show (0 : Int) < d by omega)
  have p0 : 0 ≤ x.toInt / d := Int.ediv_nonneg hx (by omega)
  have p1 : 0 ≤ (d : Int) * (x.toInt / d) := Int.mul_nonneg (by omega) p0
  rw [Int.mul_comm (x.toInt / d) d] at m
  have l1 := x.toInt_lt; have l2 := (x / y * y).toInt_lt; have l3 := (x / y * y).le_toInt; have l4 := (x - x / y * y).toInt_lt; have l5 := (x - x / y * y).le_toInt
  have hy2 := y.toInt_lt
  generalize (d : Int) * (x.toInt / d) = P at *
  generalize x.toInt % (d : Int) = r at *
  omega
theorem own_ifc {A B : Prop} [Decidable A] [Decidable B] (h : A ↔ B) : (if A then (1 : Int32) else 0) = if B then 1 else 0 := by
  by_cases a : A
  · rw [if_pos a, if_pos (h.mp a)]
  · rw [if_neg a, if_neg fun b => a (h.mpr b)]
def own_Str (Z : State) (h : Heap) (a : Addr) (xs : List Int32) : Prop := Exa Z h a "java/lang/String" ∧ Fld Z h a "java/lang/String" "coder" "B" (.int (0 : Int32)) ∧ ∃ b, Fld Z h a "java/lang/String" "value" "[B" (.ref b) ∧ own_Ar Z h b .byte xs
section Strs
variable {Z : State} {h h' : Heap} {a b : Addr} {xs : List Int32} {EL : List (String × Nat)} {vm : Vm}
theorem own_Str_ext (F : own_Str Z h a xs) (E : Ext h h') : own_Str Z h' a xs := by
  obtain ⟨e, c, b, v, A⟩ := F
  exact ⟨e.ext E, c.ext E, b, v.ext E, own_Ar_ext A E⟩
theorem own_Str_keep (F : own_Str Z h a xs) (K : Keep h h' []) : own_Str Z h' a xs := by
  obtain ⟨e, c, b, v, A⟩ := F
  exact ⟨e.keep K, c.keep K (by simp), b, v.keep K (by simp), own_Ar_keep A K (by simp)⟩
theorem own_sta0 {C n d : String} {v : Value} (F : Sta Z h C n d v) (K : Keep h h' []) : Sta Z h' C n d v := by
  obtain ⟨cf, i, k, f, st, cell, h1, h2, h3, h4, h5, h6, h7⟩ := F
  exact ⟨cf, i, k, f, st, cell, h1, h2, h3, h4, K.2.1 st cell h5 (by simp), h6, h7⟩
end Strs
/-- what is left to show at a frame of a walk that may intern -/
def own_GW (Z : State) (EL : List (String × Nat)) (p : Program) (e : Env) (below : List Frame) (s : State) (Q : Option Value → Heap → List Loc → Prop) (ce sl : Nat) (T : State) (g : JFrame) : Prop :=
  ∃ s₂ o, Steps p.tables e below (T.setTop g) s₂ ∧ s₂.status = .running ∧ Ended s₂ below o ∧ ∃ v L, o = .returned v ∧ Q v s₂.heap L ∧ CHr Z EL s.vm s.heap s₂.vm s₂.heap ∧ ReturnedEndW s o s₂ L ce sl
section Wide
variable {Z : State} {EL : List (String × Nat)} {p : Program} {e : Env} {below : List Frame} {s : State} {Q : Option Value → Heap → List Loc → Prop} {ce sl : Nat} {T T' : State} {g g' : JFrame}
theorem own_ww (st : ∀ target, Steps p.tables e below (T'.setTop g') target → Steps p.tables e below (T.setTop g) target) (k : own_GW Z EL p e below s Q ce sl T' g') : own_GW Z EL p e below s Q ce sl T g := by
  obtain ⟨u, o, a, r⟩ := k
  exact ⟨u, o, st u a, r⟩
theorem own_wt (st : Steps p.tables e below (T.setTop g) (T'.setTop g')) (k : own_GW Z EL p e below s Q ce sl T' g') : own_GW Z EL p e below s Q ce sl T g := own_ww (fun _ k => st.trans k) k
theorem own_since {vm : Vm} {n n' : Nat} (h : s.Since vm n) (q : n ≤ n') : s.Since vm n' := ⟨h.1, h.2.mono q⟩
theorem own_rmono {o : Outcome} {t : State} {L : List Loc} {k n k' n' : Nat} (h : ReturnedEndW s o t L k n) (hk : k ≤ k') (hn : n ≤ n') : ReturnedEndW s o t L k' n' := ⟨h.1, h.2.1, h.2.2.1, h.2.2.2.mono hk hn⟩
end Wide
def own_EL : List (String × Nat) := [("com/example/adjacency/adjacency/identity/NodeName", 13), ("com/example/adjacency/adjacency/identity/NodeNameParsePinLaw", 21), ("com/example/adjacency/adjacency/identity/NodeNameParsePinLaw", 23)]
set_option maxRecDepth 65536 in
theorem own_EW {Z : State} {a0 : Array Value} (hw : ∀ d ∈ tables_1, d.before a0 Z = true) : EW Z a0 own_EL := (EW.cons (hw _ (List.mem_of_getElem? (i := 42) rfl)) (text := "text") (by decide +kernel) (EW.cons (hw _ (List.mem_of_getElem? (i := 156) rfl)) (text := "abcdefghijklmnopqrstuvwxyz0123456789-abcdefghijklmnopqrstuvwxyz") (by decide +kernel) (EW.cons (hw _ (List.mem_of_getElem? (i := 157) rfl)) (text := "abcdefghijklmnopqrstuvwxyz0123456789-abcdefghijklmnopqrstuvwxyz.abcdefghijklmnopqrstuvwxyz0123456789-abcdefghijklmnopqrstuvwxyz.abcdefghijklmnopqrstuvwxyz0123456789-abcdefghijklmnopqrstuvwxyz.abcdefghijklmnopqrstuvwxyz0123456789-abcdefghijklmnopqrstuvwxyz") (by decide +kernel) EW.nil)))
theorem own_wS {Z : State} {a0 : Array Value} (hw : ∀ d ∈ tables_1, d.before a0 Z = true) : ∀ a ∈ Bundle.stringAtoms, a.before a0 Z = true := by
  intro d hd
  simp only [Bundle.stringAtoms, List.mem_cons, List.not_mem_nil, or_false] at hd
  rcases hd with rfl | rfl | rfl | rfl | rfl | rfl | rfl
  · first | exact (hw _ (List.mem_of_getElem? (i := 11) rfl)) | exact (hw _ (List.mem_of_getElem? (i := 10) rfl)) | exact (hw _ (List.mem_of_getElem? (i := 27) rfl)) | exact (hw _ (List.mem_of_getElem? (i := 37) rfl)) | exact (hw _ (List.mem_of_getElem? (i := 35) rfl)) | exact (hw _ (List.mem_of_getElem? (i := 43) rfl)) | exact (hw _ (List.mem_of_getElem? (i := 44) rfl))
  · first | exact (hw _ (List.mem_of_getElem? (i := 11) rfl)) | exact (hw _ (List.mem_of_getElem? (i := 10) rfl)) | exact (hw _ (List.mem_of_getElem? (i := 27) rfl)) | exact (hw _ (List.mem_of_getElem? (i := 37) rfl)) | exact (hw _ (List.mem_of_getElem? (i := 35) rfl)) | exact (hw _ (List.mem_of_getElem? (i := 43) rfl)) | exact (hw _ (List.mem_of_getElem? (i := 44) rfl))
  · first | exact (hw _ (List.mem_of_getElem? (i := 11) rfl)) | exact (hw _ (List.mem_of_getElem? (i := 10) rfl)) | exact (hw _ (List.mem_of_getElem? (i := 27) rfl)) | exact (hw _ (List.mem_of_getElem? (i := 37) rfl)) | exact (hw _ (List.mem_of_getElem? (i := 35) rfl)) | exact (hw _ (List.mem_of_getElem? (i := 43) rfl)) | exact (hw _ (List.mem_of_getElem? (i := 44) rfl))
  · first | exact (hw _ (List.mem_of_getElem? (i := 11) rfl)) | exact (hw _ (List.mem_of_getElem? (i := 10) rfl)) | exact (hw _ (List.mem_of_getElem? (i := 27) rfl)) | exact (hw _ (List.mem_of_getElem? (i := 37) rfl)) | exact (hw _ (List.mem_of_getElem? (i := 35) rfl)) | exact (hw _ (List.mem_of_getElem? (i := 43) rfl)) | exact (hw _ (List.mem_of_getElem? (i := 44) rfl))
  · first | exact (hw _ (List.mem_of_getElem? (i := 11) rfl)) | exact (hw _ (List.mem_of_getElem? (i := 10) rfl)) | exact (hw _ (List.mem_of_getElem? (i := 27) rfl)) | exact (hw _ (List.mem_of_getElem? (i := 37) rfl)) | exact (hw _ (List.mem_of_getElem? (i := 35) rfl)) | exact (hw _ (List.mem_of_getElem? (i := 43) rfl)) | exact (hw _ (List.mem_of_getElem? (i := 44) rfl))
  · first | exact (hw _ (List.mem_of_getElem? (i := 11) rfl)) | exact (hw _ (List.mem_of_getElem? (i := 10) rfl)) | exact (hw _ (List.mem_of_getElem? (i := 27) rfl)) | exact (hw _ (List.mem_of_getElem? (i := 37) rfl)) | exact (hw _ (List.mem_of_getElem? (i := 35) rfl)) | exact (hw _ (List.mem_of_getElem? (i := 43) rfl)) | exact (hw _ (List.mem_of_getElem? (i := 44) rfl))
  · first | exact (hw _ (List.mem_of_getElem? (i := 11) rfl)) | exact (hw _ (List.mem_of_getElem? (i := 10) rfl)) | exact (hw _ (List.mem_of_getElem? (i := 27) rfl)) | exact (hw _ (List.mem_of_getElem? (i := 37) rfl)) | exact (hw _ (List.mem_of_getElem? (i := 35) rfl)) | exact (hw _ (List.mem_of_getElem? (i := 43) rfl)) | exact (hw _ (List.mem_of_getElem? (i := 44) rfl))
theorem own_safe_null {Z : State} {h : Heap} {x : Addr} {EL : List (String × Nat)} {vm : Vm} (hal : Z.vm.Alike vm) (E : Exa Z h x "java/lang/String") (F : Fld Z h x "java/lang/String" "value" "[B" .null) : Safe Z EL vm h x := fun B => by
  obtain ⟨cell, k, e1, e2, e3, -, -⟩ := E
  obtain ⟨cell', cf, kf, i, f, g1, g2, g3, g4, g5, g6, g7⟩ := F
  cases e1.symm.trans g1
  obtain ⟨p, -, u, a, -, q, -, F, rfl | rfl⟩ := B
  · cases (show h[q.sa]? = some q.sC from F.ha).symm.trans e1
    obtain ⟨cS, ⟨⟨-, -, -, ⟨c1, k1, i1, f1, -⟩, -, -, -, v1, -⟩, -⟩, -⟩ := F
    obtain ⟨k3, e4, -⟩ := State.fieldFound?_setVm (s := ({ Z with heap := h } : State)) hal g2
    have e5 := (show (Wst Z vm h).fieldFound? _ _ _ = _ from e4).symm.trans f1
    simp only [Option.some.injEq, Prod.mk.injEq] at e5
    rw [← e5.2.2.2, g7] at v1
    cases v1
  · cases (show h[q.sd]? = some q.SA from F.hd).symm.trans e1
    obtain ⟨cS, -, -, f, -⟩ := F
    have f' : Z.vm.findClass "[B" = some q.SA.cls := by rw [← hal.findClass]; exact f
    obtain ⟨k1, q1, q2⟩ := Vm.findClass_spec f'
    obtain ⟨k2, q3, q4⟩ := Vm.findClass_spec e2
    cases q1.symm.trans q3
    have := q2.symm.trans q4
    exact absurd this (by decide)
theorem own_n8 (x : Int32) : nar .byte x.toInt8.toInt32 = x.toInt8.toInt32 := by
  apply Int32.toInt_inj.mp
  have h1 := c_i2b x
  have h2 := c_i2b x.toInt8.toInt32
  show (x.toInt8.toInt32.toInt8.toInt32).toInt = _
  omega
def own_asc (xs : List Int32) : Prop := ∀ x ∈ xs, 0 ≤ x.toInt ∧ x.toInt < 128
theorem own_asc_at {xs : List Int32} {i : Nat} {x : Int32} (h : own_asc xs) (q : xs[i]? = some x) : 0 ≤ x.toInt ∧ x.toInt < 128 := h x (List.mem_of_getElem? q)
def own_i2c (x : Int32) : Int32 := x.toUInt32.toUInt16.toUInt32.toInt32
theorem own_i2c_small {x : Int32} (h0 : 0 ≤ x.toInt) (h1 : x.toInt < 65536) : own_i2c x = x := by
  have h := c_i2c x
  apply Int32.toInt_inj.mp
  show (x.toUInt32.toUInt16.toUInt32.toInt32).toInt = _
  omega
theorem own_i2c2 (x : Int32) : own_i2c (own_i2c x) = own_i2c x := own_i2c_small (c_i2c x).2.1 (c_i2c x).2.2
theorem own_cv {x : Int32} (h : 0 ≤ x.toInt ∧ x.toInt < 128) : own_i2c (x &&& (255 : Int32)) = x := by
  have m := c_mask x 255 8 (by decide) (by decide)
  rw [own_i2c_small (by omega) (by omega)]
  apply Int32.toInt_inj.mp
  omega
theorem own_i2b_small {x : Int32} (h : 0 ≤ x.toInt ∧ x.toInt < 128) : x.toInt8.toInt32 = x := by
  have := c_i2b x
  apply Int32.toInt_inj.mp
  omega
theorem own_shr0 (x : Int32) : x >>> ((0 : Int32) &&& 31) = x := by
  apply Int32.toInt_inj.mp
  have := c_ishr x 0 0 (by decide)
  rw [this]; simp
theorem own_i32 {n : Nat} (h : n < 1000) : (n.toInt32).toInt = (n : Int) := Int32.toInt_ofNat_of_lt (by omega)
theorem own_ii {i' : Int32} {i : Nat} (h : i'.toInt = (i : Int)) (q : i < 1000) : i' = i.toInt32 := Int32.toInt_inj.mp (by rw [h, own_i32 q])
theorem own_n1 {n : Int32} {a : Nat} (h : n.toInt = (a : Int)) (ha : a < 1000) : (n + 1).toInt = ((a + 1 : Nat) : Int) := by
  have := c_iadd n 1
  have e : (1 : Int32).toInt = 1 := by decide
  have l1 := (n + 1).toInt_lt; have l2 := (n + 1).le_toInt
  omega
theorem own_lti {x y : Int32} {a b : Nat} (hx : x.toInt = (a : Int)) (hy : y.toInt = (b : Int)) : x < y ↔ a < b := by
  rw [Int32.lt_iff_toInt_lt, hx, hy]; omega
def own_mx (a b : Int32) : Int32 := if a < b then b else a
def own_mn (a b : Int32) : Int32 := if b < a then b else a
def own_fd (xs : List Int32) : Nat → Nat → Int32
  | 0, _ => -1
  | n + 1, i => if xs[i]? = some 46 then i.toInt32 else own_fd xs n (i + 1)
def own_cg (xs : List Int32) : Nat → Nat → Int32 → Int32
  | 0, _, acc => acc
  | n + 1, i, acc => own_cg xs n (i + 1) (if xs[i]? = some 46 then acc + 1 else acc)
def own_cl (xs : List Int32) : Int32 := own_cg xs xs.length 0 1
def own_okc (x : Int32) : Bool := (decide (¬ x < 97) && decide (¬ 122 < x)) || (decide (¬ x < 48) && decide (¬ 57 < x)) || decide (x = 45)
def own_lab (xs : List Int32) (f e : Nat) : Bool := decide (f < e) && decide (e ≤ f + 63) && decide (e ≤ xs.length) && decide (xs[f]? ≠ some 45) && decide (xs[e - 1]? ≠ some 45) && (List.range (e - f)).all fun k => match xs[f + k]? with
  | some x => own_okc x
  | none => false
def own_io (xs : List Int32) (i : Nat) : Int32 := own_fd xs (xs.length - i) i
def own_end (xs : List Int32) (i : Nat) : Nat := if own_io xs i < 0 then xs.length else (own_io xs i).toInt.toNat
def own_okp (xs : List Int32) : Nat → Nat → Bool
  | 0, i => decide (xs.length < i)
  | n + 1, i => decide (xs.length < i) || (own_lab xs i (own_end xs i) && own_okp xs n (own_end xs i + 1))
theorem own_fd_rng (xs : List Int32) : ∀ (n i : Nat), i + n < 1000 → own_fd xs n i < 0 ∨ ∃ j, own_fd xs n i = j.toInt32 ∧ i ≤ j ∧ j < i + n
  | 0, i, _ => Or.inl (by decide : (-1 : Int32) < 0)
  | n + 1, i, h => by
    unfold own_fd
    split
    · exact Or.inr ⟨i, rfl, by omega, by omega⟩
    · rcases own_fd_rng xs n (i + 1) (by omega) with q | ⟨j, q1, q2, q3⟩
      · exact Or.inl q
      · exact Or.inr ⟨j, q1, by omega, by omega⟩
theorem own_d22_0 : decode jdk_29_method_65_code 0 = .ok (.iload_n 0, 1) := by decide +kernel
theorem own_d22_1 : decode jdk_29_method_65_code 1 = .ok (.iload_n 1, 1) := by decide +kernel
theorem own_d22_2 : decode jdk_29_method_65_code 2 = .ok (.if_icmp .lt 7, 3) := by decide +kernel
theorem own_d22_9 : decode jdk_29_method_65_code 9 = .ok (.iload_n 1, 1) := by decide +kernel
theorem own_d22_10 : decode jdk_29_method_65_code 10 = .ok (.ireturn, 1) := by decide +kernel
theorem own_d22_5 : decode jdk_29_method_65_code 5 = .ok (.iload_n 0, 1) := by decide +kernel
theorem own_d22_6 : decode jdk_29_method_65_code 6 = .ok (.goto 4, 3) := by decide +kernel
theorem own_rm22_ef (m : MethodId) (x' : Int32) (y' : Int32) : entryFrame m #[(.int x'), (.int y')] 2 = mkF m 0 #[.val (.int x'), .val (.int y')] [] := by first | (simp [entryFrame, mkF, argsToLocals, Value.category]; done) | rfl
def own_Q22 (Z : State) (x' : Int32) (y' : Int32) (h0 : Heap) (n0 : Nat) (v_ : Option Value) (h : Heap) (L_ : List Loc) : Prop := v_ = some (.int (own_mx x' y')) ∧ Fr n0 L_ ∧ (h = h0)
set_option maxRecDepth 65536 in
set_option maxHeartbeats 40000000 in
theorem own_rm22 (l : Launch) (Z : State) (a0 : Array Value) (hw : ∀ d ∈ tables_1, d.before a0 Z = true) (ws : List Jvm.Cond) (x' : Int32) (y' : Int32) (h0 : Heap) (n0 : Nat) (Z0 : n0 ≤ h0.size)  :
    MetFree l (⟨"java/lang/Math", "max", "(II)I"⟩ : MethodName) (head1 (Jvm.Cond.code (⟨"java/lang/Math", "max", "(II)I"⟩ : MethodName) jdk_29_method_65_code 2 (some .int) :: ws) ({ frames := 0, cells := 0, slots := 0, locals := 0 } : Room)) (fun a_ U_ => a_ = #[(.int x'), (.int y')] ∧ Z.Warmed39 U_.vm ∧ U_.heap = h0) (fun _ _ _ _ _ => True) (fun _ U_ o_ V_ => ∃ v_ L_, o_ = .returned v_ ∧ own_Q22 Z x' y' h0 n0 v_ V_.heap L_ ∧ FrameEnd U_ o_ V_ L_ ({ frames := 0, cells := 0, slots := 0, locals := 0 } : Room).cells ({ frames := 0, cells := 0, slots := 0, locals := 0 } : Room).slots) := by
  refine MetFree.of_bodySF (Jvm.Free.JP.mathPlain rfl (by decide +kernel)) hisR ?_
  intro p e s m args below meth c s₁ Bd hml0 hP hK
  obtain ⟨rfl, hZ, hh⟩ := hP
  have hx := Bd.exec
  have hby := Bd.bytes
  have hml : c.maxLocals = 2 := hml0
  have hown : s.vm.findClass "java/lang/Math" = some m.cls := findClass_of_methodNamed Bd.named
  have hnm := (name_of_methodNamed Bd.named Bd.method).1
  have X0 : Stand p l e ({ frames := 0, cells := 0, slots := 0, locals := 0 } : Room) s m #[(.int x'), (.int y')] below meth c s₁ [] 0 0 := Stand.of_body Bd
  have e0 : s₁.heap = h0 := by rw [← hh, Bd.state]; rfl
  have N0 := Fr.nil n0
  show own_G p e below s (own_Q22 Z x' y' h0 n0) ({ frames := 0, cells := 0, slots := 0, locals := 0 } : Room).cells ({ frames := 0, cells := 0, slots := 0, locals := 0 } : Room).slots s₁ (entryFrame m #[(.int x'), (.int y')] 2)
  rw [own_rm22_ef]
  refine own_w (T' := s₁) (g' := (mkF m 1 #[.val (.int x'), .val (.int y')] [(.int x')])) (fun _ k_ => XS.iloadN X0.here hx rfl (hb hby own_d22_0) rfl k_) ?_
  refine own_w (T' := s₁) (g' := (mkF m 2 #[.val (.int x'), .val (.int y')] [(.int y'), (.int x')])) (fun _ k_ => XS.iloadN X0.here hx rfl (hb hby own_d22_1) rfl k_) ?_
  by_cases hc2 : x' < y'
  · refine own_w (T' := s₁) (g' := (mkF m 9 #[.val (.int x'), .val (.int y')] [])) (fun _ k_ => XS.icmpYes X0.here hx rfl (pc0 := 2) (pc' := 9) rfl (hb hby own_d22_2) rfl (tlt hc2).1 (by decide) (by decide) k_) ?_
    refine own_w (T' := s₁) (g' := (mkF m 10 #[.val (.int x'), .val (.int y')] [(.int y')])) (fun _ k_ => XS.iloadN X0.here hx rfl (hb hby own_d22_9) rfl k_) ?_
    obtain ⟨fs, hr, hrun, hended, hW, hsame⟩ := X0.leave (v := some (.int y')) (fun h => by rw [Bd.returns] at h; cases h)
    exact ⟨_, _, retOut X0 hx Bd.returns rfl (Or.inl ⟨rfl, Or.inl rfl, _, rfl⟩) (hb hby own_d22_10) hr, hrun, hended, _, _, rfl, (by show own_Q22 Z x' y' h0 n0 _ s₁.heap _; rw [e0]; exact ⟨(by simp [own_mx, hc2]), N0, rfl⟩), ⟨_, rfl⟩, hW, hsame.mono (by decide) (by decide)⟩
  · refine own_w (T' := s₁) (g' := (mkF m 5 #[.val (.int x'), .val (.int y')] [])) (fun _ k_ => XS.icmpNo X0.here hx rfl (hb hby own_d22_2) rfl (flt hc2).1 k_) ?_
    refine own_w (T' := s₁) (g' := (mkF m 6 #[.val (.int x'), .val (.int y')] [(.int x')])) (fun _ k_ => XS.iloadN X0.here hx rfl (hb hby own_d22_5) rfl k_) ?_
    refine own_w (T' := s₁) (g' := (mkF m 10 #[.val (.int x'), .val (.int y')] [(.int x')])) (fun _ k_ => XS.goto X0.here hx rfl (pc0 := 6) (pc' := 10) rfl (hb hby own_d22_6) (by decide) (by decide) k_) ?_
    obtain ⟨fs, hr, hrun, hended, hW, hsame⟩ := X0.leave (v := some (.int x')) (fun h => by rw [Bd.returns] at h; cases h)
    exact ⟨_, _, retOut X0 hx Bd.returns rfl (Or.inl ⟨rfl, Or.inl rfl, _, rfl⟩) (hb hby own_d22_10) hr, hrun, hended, _, _, rfl, (by show own_Q22 Z x' y' h0 n0 _ s₁.heap _; rw [e0]; exact ⟨(by simp [own_mx, hc2]), N0, rfl⟩), ⟨_, rfl⟩, hW, hsame.mono (by decide) (by decide)⟩
theorem own_d23_0 : decode jdk_29_method_69_code 0 = .ok (.iload_n 0, 1) := by decide +kernel
theorem own_d23_1 : decode jdk_29_method_69_code 1 = .ok (.iload_n 1, 1) := by decide +kernel
theorem own_d23_2 : decode jdk_29_method_69_code 2 = .ok (.if_icmp .gt 7, 3) := by decide +kernel
theorem own_d23_9 : decode jdk_29_method_69_code 9 = .ok (.iload_n 1, 1) := by decide +kernel
theorem own_d23_10 : decode jdk_29_method_69_code 10 = .ok (.ireturn, 1) := by decide +kernel
theorem own_d23_5 : decode jdk_29_method_69_code 5 = .ok (.iload_n 0, 1) := by decide +kernel
theorem own_d23_6 : decode jdk_29_method_69_code 6 = .ok (.goto 4, 3) := by decide +kernel
theorem own_rm23_ef (m : MethodId) (x' : Int32) (y' : Int32) : entryFrame m #[(.int x'), (.int y')] 2 = mkF m 0 #[.val (.int x'), .val (.int y')] [] := by first | (simp [entryFrame, mkF, argsToLocals, Value.category]; done) | rfl
def own_Q23 (Z : State) (x' : Int32) (y' : Int32) (h0 : Heap) (n0 : Nat) (v_ : Option Value) (h : Heap) (L_ : List Loc) : Prop := v_ = some (.int (own_mn x' y')) ∧ Fr n0 L_ ∧ (h = h0)
set_option maxRecDepth 65536 in
set_option maxHeartbeats 40000000 in
theorem own_rm23 (l : Launch) (Z : State) (a0 : Array Value) (hw : ∀ d ∈ tables_1, d.before a0 Z = true) (ws : List Jvm.Cond) (x' : Int32) (y' : Int32) (h0 : Heap) (n0 : Nat) (Z0 : n0 ≤ h0.size)  :
    MetFree l (⟨"java/lang/Math", "min", "(II)I"⟩ : MethodName) (head1 (Jvm.Cond.code (⟨"java/lang/Math", "min", "(II)I"⟩ : MethodName) jdk_29_method_69_code 2 (some .int) :: ws) ({ frames := 0, cells := 0, slots := 0, locals := 0 } : Room)) (fun a_ U_ => a_ = #[(.int x'), (.int y')] ∧ Z.Warmed39 U_.vm ∧ U_.heap = h0) (fun _ _ _ _ _ => True) (fun _ U_ o_ V_ => ∃ v_ L_, o_ = .returned v_ ∧ own_Q23 Z x' y' h0 n0 v_ V_.heap L_ ∧ FrameEnd U_ o_ V_ L_ ({ frames := 0, cells := 0, slots := 0, locals := 0 } : Room).cells ({ frames := 0, cells := 0, slots := 0, locals := 0 } : Room).slots) := by
  refine MetFree.of_bodySF (Jvm.Free.JP.mathPlain rfl (by decide +kernel)) hisR ?_
  intro p e s m args below meth c s₁ Bd hml0 hP hK
  obtain ⟨rfl, hZ, hh⟩ := hP
  have hx := Bd.exec
  have hby := Bd.bytes
  have hml : c.maxLocals = 2 := hml0
  have hown : s.vm.findClass "java/lang/Math" = some m.cls := findClass_of_methodNamed Bd.named
  have hnm := (name_of_methodNamed Bd.named Bd.method).1
  have X0 : Stand p l e ({ frames := 0, cells := 0, slots := 0, locals := 0 } : Room) s m #[(.int x'), (.int y')] below meth c s₁ [] 0 0 := Stand.of_body Bd
  have e0 : s₁.heap = h0 := by rw [← hh, Bd.state]; rfl
  have N0 := Fr.nil n0
  show own_G p e below s (own_Q23 Z x' y' h0 n0) ({ frames := 0, cells := 0, slots := 0, locals := 0 } : Room).cells ({ frames := 0, cells := 0, slots := 0, locals := 0 } : Room).slots s₁ (entryFrame m #[(.int x'), (.int y')] 2)
  rw [own_rm23_ef]
  refine own_w (T' := s₁) (g' := (mkF m 1 #[.val (.int x'), .val (.int y')] [(.int x')])) (fun _ k_ => XS.iloadN X0.here hx rfl (hb hby own_d23_0) rfl k_) ?_
  refine own_w (T' := s₁) (g' := (mkF m 2 #[.val (.int x'), .val (.int y')] [(.int y'), (.int x')])) (fun _ k_ => XS.iloadN X0.here hx rfl (hb hby own_d23_1) rfl k_) ?_
  by_cases hc2 : y' < x'
  · refine own_w (T' := s₁) (g' := (mkF m 9 #[.val (.int x'), .val (.int y')] [])) (fun _ k_ => XS.icmpYes X0.here hx rfl (pc0 := 2) (pc' := 9) rfl (hb hby own_d23_2) rfl (tlt hc2).2.2.1 (by decide) (by decide) k_) ?_
    refine own_w (T' := s₁) (g' := (mkF m 10 #[.val (.int x'), .val (.int y')] [(.int y')])) (fun _ k_ => XS.iloadN X0.here hx rfl (hb hby own_d23_9) rfl k_) ?_
    obtain ⟨fs, hr, hrun, hended, hW, hsame⟩ := X0.leave (v := some (.int y')) (fun h => by rw [Bd.returns] at h; cases h)
    exact ⟨_, _, retOut X0 hx Bd.returns rfl (Or.inl ⟨rfl, Or.inl rfl, _, rfl⟩) (hb hby own_d23_10) hr, hrun, hended, _, _, rfl, (by show own_Q23 Z x' y' h0 n0 _ s₁.heap _; rw [e0]; exact ⟨(by simp [own_mn, hc2]), N0, rfl⟩), ⟨_, rfl⟩, hW, hsame.mono (by decide) (by decide)⟩
  · refine own_w (T' := s₁) (g' := (mkF m 5 #[.val (.int x'), .val (.int y')] [])) (fun _ k_ => XS.icmpNo X0.here hx rfl (hb hby own_d23_2) rfl (flt hc2).2.2.1 k_) ?_
    refine own_w (T' := s₁) (g' := (mkF m 6 #[.val (.int x'), .val (.int y')] [(.int x')])) (fun _ k_ => XS.iloadN X0.here hx rfl (hb hby own_d23_5) rfl k_) ?_
    refine own_w (T' := s₁) (g' := (mkF m 10 #[.val (.int x'), .val (.int y')] [(.int x')])) (fun _ k_ => XS.goto X0.here hx rfl (pc0 := 6) (pc' := 10) rfl (hb hby own_d23_6) (by decide) (by decide) k_) ?_
    obtain ⟨fs, hr, hrun, hended, hW, hsame⟩ := X0.leave (v := some (.int x')) (fun h => by rw [Bd.returns] at h; cases h)
    exact ⟨_, _, retOut X0 hx Bd.returns rfl (Or.inl ⟨rfl, Or.inl rfl, _, rfl⟩) (hb hby own_d23_10) hr, hrun, hended, _, _, rfl, (by show own_Q23 Z x' y' h0 n0 _ s₁.heap _; rw [e0]; exact ⟨(by simp [own_mn, hc2]), N0, rfl⟩), ⟨_, rfl⟩, hW, hsame.mono (by decide) (by decide)⟩
theorem own_d21_0 : decode jdk_43_method_4_code 0 = .ok (.iload_n 0, 1) := by decide +kernel
theorem own_d21_1 : decode jdk_43_method_4_code 1 = .ok (.ifCond .lt 14, 3) := by decide +kernel
theorem own_d21_4 : decode jdk_43_method_4_code 4 = .ok (.iload_n 0, 1) := by decide +kernel
theorem own_d21_5 : decode jdk_43_method_4_code 5 = .ok (.sipush 255, 3) := by decide +kernel
theorem own_d21_8 : decode jdk_43_method_4_code 8 = .ok (.if_icmp .gt 7, 3) := by decide +kernel
theorem own_d21_11 : decode jdk_43_method_4_code 11 = .ok (.iconst 1, 1) := by decide +kernel
theorem own_d21_12 : decode jdk_43_method_4_code 12 = .ok (.goto 4, 3) := by decide +kernel
theorem own_d21_16 : decode jdk_43_method_4_code 16 = .ok (.ireturn, 1) := by decide +kernel
theorem own_pn_java_lang_StringLatin1 : plainName "java/lang/StringLatin1" = true := by first | (simp [plainName, overriddenIn]; done) | decide +kernel
theorem own_rm21_ef (m : MethodId)  : entryFrame m #[(.int (46 : Int32))] 1 = mkF m 0 #[.val (.int (46 : Int32))] [] := by first | (simp [entryFrame, mkF, argsToLocals, Value.category]; done) | rfl
def own_Q21 (Z : State)  (h0 : Heap) (n0 : Nat) (v_ : Option Value) (h : Heap) (L_ : List Loc) : Prop := v_ = some (.int (1 : Int32)) ∧ Fr n0 L_ ∧ (h = h0)
set_option maxRecDepth 65536 in
set_option maxHeartbeats 40000000 in
theorem own_rm21 (l : Launch) (Z : State) (a0 : Array Value) (hw : ∀ d ∈ tables_1, d.before a0 Z = true) (ws : List Jvm.Cond)  (h0 : Heap) (n0 : Nat) (Z0 : n0 ≤ h0.size)  :
    MetFree l (⟨"java/lang/StringLatin1", "canEncode", "(I)Z"⟩ : MethodName) (head1 (Jvm.Cond.code (⟨"java/lang/StringLatin1", "canEncode", "(I)Z"⟩ : MethodName) jdk_43_method_4_code 1 (some .boolean) :: ws) ({ frames := 0, cells := 0, slots := 0, locals := 0 } : Room)) (fun a_ U_ => a_ = #[(.int (46 : Int32))] ∧ Z.Warmed39 U_.vm ∧ U_.heap = h0) (fun _ _ _ _ _ => True) (fun _ U_ o_ V_ => ∃ v_ L_, o_ = .returned v_ ∧ own_Q21 Z  h0 n0 v_ V_.heap L_ ∧ FrameEnd U_ o_ V_ L_ ({ frames := 0, cells := 0, slots := 0, locals := 0 } : Room).cells ({ frames := 0, cells := 0, slots := 0, locals := 0 } : Room).slots) := by
  refine MetFree.of_bodySF (plainFor_of_name own_pn_java_lang_StringLatin1) hisR ?_
  intro p e s m args below meth c s₁ Bd hml0 hP hK
  obtain ⟨rfl, hZ, hh⟩ := hP
  have hx := Bd.exec
  have hby := Bd.bytes
  have hml : c.maxLocals = 1 := hml0
  have hown : s.vm.findClass "java/lang/StringLatin1" = some m.cls := findClass_of_methodNamed Bd.named
  have hnm := (name_of_methodNamed Bd.named Bd.method).1
  have X0 : Stand p l e ({ frames := 0, cells := 0, slots := 0, locals := 0 } : Room) s m #[(.int (46 : Int32))] below meth c s₁ [] 0 0 := Stand.of_body Bd
  have e0 : s₁.heap = h0 := by rw [← hh, Bd.state]; rfl
  have N0 := Fr.nil n0
  show own_G p e below s (own_Q21 Z  h0 n0) ({ frames := 0, cells := 0, slots := 0, locals := 0 } : Room).cells ({ frames := 0, cells := 0, slots := 0, locals := 0 } : Room).slots s₁ (entryFrame m #[(.int (46 : Int32))] 1)
  rw [own_rm21_ef]
  refine own_w (T' := s₁) (g' := (mkF m 1 #[.val (.int (46 : Int32))] [(.int (46 : Int32))])) (fun _ k_ => XS.iloadN X0.here hx rfl (hb hby own_d21_0) rfl k_) ?_
  refine own_w (T' := s₁) (g' := (mkF m 4 #[.val (.int (46 : Int32))] [])) (fun _ k_ => XS.ifNo X0.here hx rfl (hb hby own_d21_1) rfl ((if0 _ _).trans (flt (by decide)).1) k_) ?_
  refine own_w (T' := s₁) (g' := (mkF m 5 #[.val (.int (46 : Int32))] [(.int (46 : Int32))])) (fun _ k_ => XS.iloadN X0.here hx rfl (hb hby own_d21_4) rfl k_) ?_
  refine own_w (T' := s₁) (g' := (mkF m 8 #[.val (.int (46 : Int32))] [(.int (255 : Int32)), (.int (46 : Int32))])) (fun _ k_ => XS.sipush X0.here hx rfl (hb hby own_d21_5) k_) ?_
  refine own_w (T' := s₁) (g' := (mkF m 11 #[.val (.int (46 : Int32))] [])) (fun _ k_ => XS.icmpNo X0.here hx rfl (hb hby own_d21_8) rfl (flt (by decide)).2.2.1 k_) ?_
  refine own_w (T' := s₁) (g' := (mkF m 12 #[.val (.int (46 : Int32))] [(.int (1 : Int32))])) (fun _ k_ => XS.iconst X0.here hx rfl (hb hby own_d21_11) k_) ?_
  refine own_w (T' := s₁) (g' := (mkF m 16 #[.val (.int (46 : Int32))] [(.int (1 : Int32))])) (fun _ k_ => XS.goto X0.here hx rfl (pc0 := 12) (pc' := 16) rfl (hb hby own_d21_12) (by decide) (by decide) k_) ?_
  obtain ⟨fs, hr, hrun, hended, hW, hsame⟩ := X0.leave (v := some (.int (1 : Int32))) (fun h => by rw [Bd.returns] at h; cases h)
  exact ⟨_, _, retOut X0 hx Bd.returns rfl (Or.inl ⟨rfl, Or.inr (Or.inl rfl), _, rfl⟩) (hb hby own_d21_16) hr, hrun, hended, _, _, rfl, (by show own_Q21 Z  h0 n0 _ s₁.heap _; rw [e0]; exact ⟨rfl, N0, rfl⟩), ⟨_, rfl⟩, hW, hsame.mono (by decide) (by decide)⟩
theorem own_d13_0 : decode jdk_42_method_152_code 0 = .ok (.getstatic 38, 3) := by decide +kernel
theorem own_d13_3 : decode jdk_42_method_152_code 3 = .ok (.ifCond .eq 10, 3) := by decide +kernel
theorem own_d13_6 : decode jdk_42_method_152_code 6 = .ok (.aload_n 0, 1) := by decide +kernel
theorem own_d13_7 : decode jdk_42_method_152_code 7 = .ok (.getfield 15, 3) := by decide +kernel
theorem own_d13_10 : decode jdk_42_method_152_code 10 = .ok (.goto 4, 3) := by decide +kernel
theorem own_d13_14 : decode jdk_42_method_152_code 14 = .ok (.ireturn, 1) := by decide +kernel
theorem own_pn_java_lang_String : plainName "java/lang/String" = true := by first | (simp [plainName, overriddenIn]; done) | decide +kernel
theorem own_rm13_ef (m : MethodId) (a : Addr) : entryFrame m #[(.ref a)] 1 = mkF m 0 #[.val (.ref a)] [] := by first | (simp [entryFrame, mkF, argsToLocals, Value.category]; done) | rfl
def own_Q13 (Z : State) (a : Addr) (xs : List Int32) (cs : Int32) (h0 : Heap) (n0 : Nat) (v_ : Option Value) (h : Heap) (L_ : List Loc) : Prop := v_ = some (.int (0 : Int32)) ∧ Fr n0 L_ ∧ (h = h0)
set_option maxRecDepth 65536 in
set_option maxHeartbeats 40000000 in
theorem own_rm13 (l : Launch) (Z : State) (a0 : Array Value) (hw : ∀ d ∈ tables_1, d.before a0 Z = true) (ws : List Jvm.Cond) (a : Addr) (xs : List Int32) (cs : Int32) (h0 : Heap) (n0 : Nat) (Z0 : n0 ≤ h0.size) (Sa : own_Str Z h0 a xs) (lx : xs.length < 1000) (hcs : ¬ cs = (0 : Int32)) (S : Sta Z h0 "java/lang/String" "COMPACT_STRINGS" "Z" (.int cs)) :
    MetFree l (⟨"java/lang/String", "coder", "()B"⟩ : MethodName) (head1 (Jvm.Cond.code (⟨"java/lang/String", "coder", "()B"⟩ : MethodName) jdk_42_method_152_code 1 (some .byte) :: ws) ({ frames := 0, cells := 0, slots := 0, locals := 0 } : Room)) (fun a_ U_ => a_ = #[(.ref a)] ∧ Z.Warmed39 U_.vm ∧ U_.heap = h0) (fun _ _ _ _ _ => True) (fun _ U_ o_ V_ => ∃ v_ L_, o_ = .returned v_ ∧ own_Q13 Z a xs cs h0 n0 v_ V_.heap L_ ∧ FrameEnd U_ o_ V_ L_ ({ frames := 0, cells := 0, slots := 0, locals := 0 } : Room).cells ({ frames := 0, cells := 0, slots := 0, locals := 0 } : Room).slots) := by
  refine MetFree.of_bodySF (plainFor_of_name own_pn_java_lang_String) hisR ?_
  intro p e s m args below meth c s₁ Bd hml0 hP hK
  obtain ⟨rfl, hZ, hh⟩ := hP
  have hx := Bd.exec
  have hby := Bd.bytes
  have hml : c.maxLocals = 1 := hml0
  have hown : s.vm.findClass "java/lang/String" = some m.cls := findClass_of_methodNamed Bd.named
  have hnm := (name_of_methodNamed Bd.named Bd.method).1
  have X0 : Stand p l e ({ frames := 0, cells := 0, slots := 0, locals := 0 } : Room) s m #[(.ref a)] below meth c s₁ [] 0 0 := Stand.of_body Bd
  have e0 : s₁.heap = h0 := by rw [← hh, Bd.state]; rfl
  have N0 := Fr.nil n0
  show own_G p e below s (own_Q13 Z a xs cs h0 n0) ({ frames := 0, cells := 0, slots := 0, locals := 0 } : Room).cells ({ frames := 0, cells := 0, slots := 0, locals := 0 } : Room).slots s₁ (entryFrame m #[(.ref a)] 1)
  rw [own_rm13_ef]
  obtain ⟨Ea, Ca, xa, Fa, Aa⟩ := id Sa
  obtain ⟨T1, X1, e1, st1⟩ := getS2 X0 hx hZ hown (host := "") (Or.inl (hw _ (List.mem_of_getElem? (i := 22) rfl))) Via.refl e0 S (g := (mkF m 0 #[.val (.ref a)] [])) rfl (hb hby own_d13_0)
  refine own_w (T' := T1) (g' := (mkF m 3 #[.val (.ref a)] [(.int cs)])) st1 ?_
  refine own_w (T' := T1) (g' := (mkF m 6 #[.val (.ref a)] [])) (fun _ k_ => XS.ifNo X1.here hx rfl (hb hby own_d13_3) rfl ((if0 _ _).trans (feq hcs).1) k_) ?_
  refine own_w (T' := T1) (g' := (mkF m 7 #[.val (.ref a)] [(.ref a)])) (fun _ k_ => XS.aloadN X1.here hx rfl (hb hby own_d13_6) rfl rfl k_) ?_
  obtain ⟨T2, X2, e2, st2⟩ := getF X1 hx hZ hown (host := "") (Or.inl (hw _ (List.mem_of_getElem? (i := 34) rfl))) Via.refl e1 Ca (g := (mkF m 7 #[.val (.ref a)] [(.ref a)])) rfl rfl (hb hby own_d13_7)
  refine own_w (T' := T2) (g' := (mkF m 10 #[.val (.ref a)] [(.int (0 : Int32))])) st2 ?_
  refine own_w (T' := T2) (g' := (mkF m 14 #[.val (.ref a)] [(.int (0 : Int32))])) (fun _ k_ => XS.goto X2.here hx rfl (pc0 := 10) (pc' := 14) rfl (hb hby own_d13_10) (by decide) (by decide) k_) ?_
  obtain ⟨fs, hr, hrun, hended, hW, hsame⟩ := X2.leave (v := some (.int (0 : Int32))) (fun h => by rw [Bd.returns] at h; cases h)
  exact ⟨_, _, retOut X2 hx Bd.returns (by decide) (Or.inl ⟨rfl, Or.inr (Or.inr (Or.inl rfl)), _, rfl⟩) (hb hby own_d13_14) hr, hrun, hended, _, _, rfl, (by show own_Q13 Z a xs cs h0 n0 _ T2.heap _; rw [e2]; exact ⟨rfl, N0, rfl⟩), ⟨_, rfl⟩, hW, hsame.mono (by decide) (by decide)⟩
theorem own_d15_0 : decode jdk_42_method_154_code 0 = .ok (.getstatic 38, 3) := by decide +kernel
theorem own_d15_3 : decode jdk_42_method_154_code 3 = .ok (.ifCond .eq 14, 3) := by decide +kernel
theorem own_d15_6 : decode jdk_42_method_154_code 6 = .ok (.aload_n 0, 1) := by decide +kernel
theorem own_d15_7 : decode jdk_42_method_154_code 7 = .ok (.getfield 15, 3) := by decide +kernel
theorem own_d15_10 : decode jdk_42_method_154_code 10 = .ok (.ifCond .ne 7, 3) := by decide +kernel
theorem own_d15_13 : decode jdk_42_method_154_code 13 = .ok (.iconst 1, 1) := by decide +kernel
theorem own_d15_14 : decode jdk_42_method_154_code 14 = .ok (.goto 4, 3) := by decide +kernel
theorem own_d15_18 : decode jdk_42_method_154_code 18 = .ok (.ireturn, 1) := by decide +kernel
theorem own_rm15_ef (m : MethodId) (a : Addr) : entryFrame m #[(.ref a)] 1 = mkF m 0 #[.val (.ref a)] [] := by first | (simp [entryFrame, mkF, argsToLocals, Value.category]; done) | rfl
def own_Q15 (Z : State) (a : Addr) (xs : List Int32) (cs : Int32) (h0 : Heap) (n0 : Nat) (v_ : Option Value) (h : Heap) (L_ : List Loc) : Prop := v_ = some (.int (1 : Int32)) ∧ Fr n0 L_ ∧ (h = h0)
set_option maxRecDepth 65536 in
set_option maxHeartbeats 40000000 in
theorem own_rm15 (l : Launch) (Z : State) (a0 : Array Value) (hw : ∀ d ∈ tables_1, d.before a0 Z = true) (ws : List Jvm.Cond) (a : Addr) (xs : List Int32) (cs : Int32) (h0 : Heap) (n0 : Nat) (Z0 : n0 ≤ h0.size) (Sa : own_Str Z h0 a xs) (lx : xs.length < 1000) (hcs : ¬ cs = (0 : Int32)) (S : Sta Z h0 "java/lang/String" "COMPACT_STRINGS" "Z" (.int cs)) :
    MetFree l (⟨"java/lang/String", "isLatin1", "()Z"⟩ : MethodName) (head1 (Jvm.Cond.code (⟨"java/lang/String", "isLatin1", "()Z"⟩ : MethodName) jdk_42_method_154_code 1 (some .boolean) :: ws) ({ frames := 0, cells := 0, slots := 0, locals := 0 } : Room)) (fun a_ U_ => a_ = #[(.ref a)] ∧ Z.Warmed39 U_.vm ∧ U_.heap = h0) (fun _ _ _ _ _ => True) (fun _ U_ o_ V_ => ∃ v_ L_, o_ = .returned v_ ∧ own_Q15 Z a xs cs h0 n0 v_ V_.heap L_ ∧ FrameEnd U_ o_ V_ L_ ({ frames := 0, cells := 0, slots := 0, locals := 0 } : Room).cells ({ frames := 0, cells := 0, slots := 0, locals := 0 } : Room).slots) := by
  refine MetFree.of_bodySF (plainFor_of_name own_pn_java_lang_String) hisR ?_
  intro p e s m args below meth c s₁ Bd hml0 hP hK
  obtain ⟨rfl, hZ, hh⟩ := hP
  have hx := Bd.exec
  have hby := Bd.bytes
  have hml : c.maxLocals = 1 := hml0
  have hown : s.vm.findClass "java/lang/String" = some m.cls := findClass_of_methodNamed Bd.named
  have hnm := (name_of_methodNamed Bd.named Bd.method).1
  have X0 : Stand p l e ({ frames := 0, cells := 0, slots := 0, locals := 0 } : Room) s m #[(.ref a)] below meth c s₁ [] 0 0 := Stand.of_body Bd
  have e0 : s₁.heap = h0 := by rw [← hh, Bd.state]; rfl
  have N0 := Fr.nil n0
  show own_G p e below s (own_Q15 Z a xs cs h0 n0) ({ frames := 0, cells := 0, slots := 0, locals := 0 } : Room).cells ({ frames := 0, cells := 0, slots := 0, locals := 0 } : Room).slots s₁ (entryFrame m #[(.ref a)] 1)
  rw [own_rm15_ef]
  obtain ⟨Ea, Ca, xa, Fa, Aa⟩ := id Sa
  obtain ⟨T1, X1, e1, st1⟩ := getS2 X0 hx hZ hown (host := "") (Or.inl (hw _ (List.mem_of_getElem? (i := 22) rfl))) Via.refl e0 S (g := (mkF m 0 #[.val (.ref a)] [])) rfl (hb hby own_d15_0)
  refine own_w (T' := T1) (g' := (mkF m 3 #[.val (.ref a)] [(.int cs)])) st1 ?_
  refine own_w (T' := T1) (g' := (mkF m 6 #[.val (.ref a)] [])) (fun _ k_ => XS.ifNo X1.here hx rfl (hb hby own_d15_3) rfl ((if0 _ _).trans (feq hcs).1) k_) ?_
  refine own_w (T' := T1) (g' := (mkF m 7 #[.val (.ref a)] [(.ref a)])) (fun _ k_ => XS.aloadN X1.here hx rfl (hb hby own_d15_6) rfl rfl k_) ?_
  obtain ⟨T2, X2, e2, st2⟩ := getF X1 hx hZ hown (host := "") (Or.inl (hw _ (List.mem_of_getElem? (i := 34) rfl))) Via.refl e1 Ca (g := (mkF m 7 #[.val (.ref a)] [(.ref a)])) rfl rfl (hb hby own_d15_7)
  refine own_w (T' := T2) (g' := (mkF m 10 #[.val (.ref a)] [(.int (0 : Int32))])) st2 ?_
  refine own_w (T' := T2) (g' := (mkF m 13 #[.val (.ref a)] [])) (fun _ k_ => XS.ifNo X2.here hx rfl (hb hby own_d15_10) rfl ((if0 _ _).trans (teq rfl).2) k_) ?_
  refine own_w (T' := T2) (g' := (mkF m 14 #[.val (.ref a)] [(.int (1 : Int32))])) (fun _ k_ => XS.iconst X2.here hx rfl (hb hby own_d15_13) k_) ?_
  refine own_w (T' := T2) (g' := (mkF m 18 #[.val (.ref a)] [(.int (1 : Int32))])) (fun _ k_ => XS.goto X2.here hx rfl (pc0 := 14) (pc' := 18) rfl (hb hby own_d15_14) (by decide) (by decide) k_) ?_
  obtain ⟨fs, hr, hrun, hended, hW, hsame⟩ := X2.leave (v := some (.int (1 : Int32))) (fun h => by rw [Bd.returns] at h; cases h)
  exact ⟨_, _, retOut X2 hx Bd.returns rfl (Or.inl ⟨rfl, Or.inr (Or.inl rfl), _, rfl⟩) (hb hby own_d15_18) hr, hrun, hended, _, _, rfl, (by show own_Q15 Z a xs cs h0 n0 _ T2.heap _; rw [e2]; exact ⟨rfl, N0, rfl⟩), ⟨_, rfl⟩, hW, hsame.mono (by decide) (by decide)⟩
theorem own_d12_0 : decode jdk_42_method_54_code 0 = .ok (.aload_n 0, 1) := by decide +kernel
theorem own_d12_1 : decode jdk_42_method_54_code 1 = .ok (.getfield 9, 3) := by decide +kernel
theorem own_d12_4 : decode jdk_42_method_54_code 4 = .ok (.arraylength, 1) := by decide +kernel
theorem own_d12_5 : decode jdk_42_method_54_code 5 = .ok (.aload_n 0, 1) := by decide +kernel
theorem own_d12_6 : decode jdk_42_method_54_code 6 = .ok (.invokevirtual 335, 3) := by decide +kernel
theorem own_pd0 : parseMethodDescriptor "()B" = some ⟨[], some .byte⟩ := by decide +kernel
theorem own_d12_9 : decode jdk_42_method_54_code 9 = .ok (.ishr, 1) := by decide +kernel
theorem own_d12_10 : decode jdk_42_method_54_code 10 = .ok (.ireturn, 1) := by decide +kernel
theorem own_rm12_ef (m : MethodId) (a : Addr) : entryFrame m #[(.ref a)] 1 = mkF m 0 #[.val (.ref a)] [] := by first | (simp [entryFrame, mkF, argsToLocals, Value.category]; done) | rfl
def own_Q12 (Z : State) (a : Addr) (xs : List Int32) (cs : Int32) (h0 : Heap) (n0 : Nat) (v_ : Option Value) (h : Heap) (L_ : List Loc) : Prop := v_ = some (.int xs.length.toInt32) ∧ Fr n0 L_ ∧ (h = h0)
set_option maxRecDepth 65536 in
set_option maxHeartbeats 40000000 in
theorem own_rm12 (l : Launch) (Z : State) (a0 : Array Value) (hw : ∀ d ∈ tables_1, d.before a0 Z = true) (ws : List Jvm.Cond) (a : Addr) (xs : List Int32) (cs : Int32) (h0 : Heap) (n0 : Nat) (Z0 : n0 ≤ h0.size) (Sa : own_Str Z h0 a xs) (lx : xs.length < 1000) (hcs : ¬ cs = (0 : Int32)) (S : Sta Z h0 "java/lang/String" "COMPACT_STRINGS" "Z" (.int cs)) :
    MetFree l (⟨"java/lang/String", "length", "()I"⟩ : MethodName) (head1 (Jvm.Cond.code (⟨"java/lang/String", "length", "()I"⟩ : MethodName) jdk_42_method_54_code 1 (some .int) :: ws) ({ frames := 1, cells := 0, slots := 0, locals := 13 } : Room)) (fun a_ U_ => a_ = #[(.ref a)] ∧ Z.Warmed39 U_.vm ∧ U_.heap = h0) (fun _ _ _ _ _ => True) (fun _ U_ o_ V_ => ∃ v_ L_, o_ = .returned v_ ∧ own_Q12 Z a xs cs h0 n0 v_ V_.heap L_ ∧ FrameEnd U_ o_ V_ L_ ({ frames := 1, cells := 0, slots := 0, locals := 13 } : Room).cells ({ frames := 1, cells := 0, slots := 0, locals := 13 } : Room).slots) := by
  refine MetFree.of_bodySF (plainFor_of_name own_pn_java_lang_String) hisR ?_
  intro p e s m args below meth c s₁ Bd hml0 hP hK
  obtain ⟨rfl, hZ, hh⟩ := hP
  have hx := Bd.exec
  have hby := Bd.bytes
  have hml : c.maxLocals = 1 := hml0
  have hown : s.vm.findClass "java/lang/String" = some m.cls := findClass_of_methodNamed Bd.named
  have hnm := (name_of_methodNamed Bd.named Bd.method).1
  have X0 : Stand p l e ({ frames := 1, cells := 0, slots := 0, locals := 13 } : Room) s m #[(.ref a)] below meth c s₁ [] 0 0 := Stand.of_body Bd
  have e0 : s₁.heap = h0 := by rw [← hh, Bd.state]; rfl
  have N0 := Fr.nil n0
  show own_G p e below s (own_Q12 Z a xs cs h0 n0) ({ frames := 1, cells := 0, slots := 0, locals := 13 } : Room).cells ({ frames := 1, cells := 0, slots := 0, locals := 13 } : Room).slots s₁ (entryFrame m #[(.ref a)] 1)
  rw [own_rm12_ef]
  obtain ⟨Ea, Ca, xa, Fa, Aa⟩ := id Sa
  refine own_w (T' := s₁) (g' := (mkF m 1 #[.val (.ref a)] [(.ref a)])) (fun _ k_ => XS.aloadN X0.here hx rfl (hb hby own_d12_0) rfl rfl k_) ?_
  obtain ⟨T1, X1, e1, st1⟩ := getF X0 hx hZ hown (host := "") (Or.inl (hw _ (List.mem_of_getElem? (i := 36) rfl))) Via.refl e0 Fa (g := (mkF m 1 #[.val (.ref a)] [(.ref a)])) rfl rfl (hb hby own_d12_1)
  refine own_w (T' := T1) (g' := (mkF m 4 #[.val (.ref a)] [(.ref xa)])) st1 ?_
  obtain ⟨cl2, Ar2, hs2⟩ := id Aa
  have hl2 : cl2.slots.size.toInt32 = xs.length.toInt32 := by rw [hs2]; simp
  refine own_w (T' := T1) (g' := (mkF m 5 #[.val (.ref a)] [(.int xs.length.toInt32)])) (fun t_ k_ => X1.arraylength hx (by rw [e1]; exact Ar2.1) (State.isArrayOf_alike hZ.alike Ar2.2.1) (g := (mkF m 4 #[.val (.ref a)] [(.ref xa)])) rfl rfl (hb hby own_d12_4) t_ (by rw [hl2]; exact k_)) ?_
  refine own_w (T' := T1) (g' := (mkF m 6 #[.val (.ref a)] [(.ref a), (.int xs.length.toInt32)])) (fun _ k_ => XS.aloadN X1.here hx rfl (hb hby own_d12_5) rfl rfl k_) ?_
  obtain ⟨cq3, kq3, q3a, q3b, q3c⟩ := isOf hZ e1 Ea
  obtain ⟨_, _, ⟨T3, L3, k3, n3⟩, -, X3, ⟨Lc3, hQ3, l3, y3, z3⟩, st3⟩ := X1.virtualBack hx (y := (⟨"java/lang/String", "coder", "()B"⟩ : MethodName)) (z := (⟨"java/lang/String", "coder", "()B"⟩ : MethodName)) hown (mvT hZ (hw _ (List.mem_of_getElem? (i := 57) rfl))) (mvT hZ (hw _ (List.mem_of_getElem? (i := 58) rfl))) (notFace_of_selects (args := #[]) (mvT hZ (hw _ (List.mem_of_getElem? (i := 60) rfl)))) (mvT hZ (hw _ (List.mem_of_getElem? (i := 60) rfl))) (mvT hZ (hw _ (List.mem_of_getElem? (i := 59) rfl))) (by decide) (backOf (W := 1) (own_rm13 l Z a0 hw [] a xs cs h0 n0 Z0 Sa lx hcs S) hZ (hw _ (List.mem_of_getElem? (i := 61) rfl)) (hw _ (List.mem_of_getElem? (i := 11) rfl)) (by decide) (by decide)) q3a q3c (g := (mkF m 6 #[.val (.ref a)] [(.ref a), (.int xs.length.toInt32)])) rfl (by rw [hml]; rfl) (Steps.refl _) (argsL := []) (rest := [(.int xs.length.toInt32)]) (lenOf own_pd0 rfl) rfl (by show 2 * 0 + _ ≤ _; exact Nat.le_of_eq rfl) (hb hby own_d12_6) (fun _ _ => ⟨rfl, e1, (by decide : 0 + 0 ≤ _), (by decide : 0 + 0 ≤ _)⟩)
  dsimp only [Pt.U, Pt.locs, Pt.cells, Pt.slots] at X3 l3 y3 z3 st3 hQ3
  subst l3 y3 z3
  obtain ⟨rfl, N3q, e3⟩ := hQ3
  have N3 := Fr.app N0 N3q
  refine own_t (T' := T3) (g' := (mkF m 9 #[.val (.ref a)] [(.int (0 : Int32)), (.int xs.length.toInt32)])) st3 ?_
  refine own_w (T' := T3) (g' := (mkF m 10 #[.val (.ref a)] [(.int (xs.length.toInt32 >>> ((0 : Int32) &&& 31)))])) (fun _ k_ => XS.ishr X3.here hx rfl (hb hby own_d12_9) rfl k_) ?_
  obtain ⟨fs, hr, hrun, hended, hW, hsame⟩ := X3.leave (v := some (.int (xs.length.toInt32 >>> ((0 : Int32) &&& 31)))) (fun h => by rw [Bd.returns] at h; cases h)
  exact ⟨_, _, retOut X3 hx Bd.returns rfl (Or.inl ⟨rfl, Or.inl rfl, _, rfl⟩) (hb hby own_d12_10) hr, hrun, hended, _, _, rfl, (by show own_Q12 Z a xs cs h0 n0 _ T3.heap _; rw [e3]; exact ⟨(by rw [own_shr0]), N3, rfl⟩), ⟨_, rfl⟩, hW, hsame.mono (by decide) (by decide)⟩
theorem own_d18_0 : decode jdk_41_method_11_code 0 = .ok (.iload_n 0, 1) := by decide +kernel
theorem own_d18_1 : decode jdk_41_method_11_code 1 = .ok (.ifCond .lt 8, 3) := by decide +kernel
theorem own_d18_4 : decode jdk_41_method_11_code 4 = .ok (.iload_n 0, 1) := by decide +kernel
theorem own_d18_5 : decode jdk_41_method_11_code 5 = .ok (.iload_n 1, 1) := by decide +kernel
theorem own_d18_6 : decode jdk_41_method_11_code 6 = .ok (.if_icmp .lt 10, 3) := by decide +kernel
theorem own_d18_16 : decode jdk_41_method_11_code 16 = .ok (.iload_n 0, 1) := by decide +kernel
theorem own_d18_17 : decode jdk_41_method_11_code 17 = .ok (.ireturn, 1) := by decide +kernel
theorem own_pn_jdk_internal_util_Preconditions : plainName "jdk/internal/util/Preconditions" = true := by first | (simp [plainName, overriddenIn]; done) | decide +kernel
theorem own_rm18_n_ef (m : MethodId) (i' : Int32) (n' : Int32) : entryFrame m #[(.int i'), (.int n'), .null] 3 = mkF m 0 #[.val (.int i'), .val (.int n'), .val .null] [] := by first | (simp [entryFrame, mkF, argsToLocals, Value.category]; done) | rfl
def own_Q18_n (Z : State) (i' : Int32) (n' : Int32) (h0 : Heap) (n0 : Nat) (v_ : Option Value) (h : Heap) (L_ : List Loc) : Prop := v_ = some (.int i') ∧ Fr n0 L_ ∧ (h = h0)
set_option maxRecDepth 65536 in
set_option maxHeartbeats 40000000 in
theorem own_rm18_n (l : Launch) (Z : State) (a0 : Array Value) (hw : ∀ d ∈ tables_1, d.before a0 Z = true) (ws : List Jvm.Cond) (i' : Int32) (n' : Int32) (h0 : Heap) (n0 : Nat) (Z0 : n0 ≤ h0.size) (h1 : ¬ i' < (0 : Int32)) (h2 : i' < n') :
    MetFree l (⟨"jdk/internal/util/Preconditions", "checkIndex", "(IILjava/util/function/BiFunction;)I"⟩ : MethodName) (head1 (Jvm.Cond.code (⟨"jdk/internal/util/Preconditions", "checkIndex", "(IILjava/util/function/BiFunction;)I"⟩ : MethodName) jdk_41_method_11_code 3 (some .int) :: ws) ({ frames := 0, cells := 0, slots := 0, locals := 0 } : Room)) (fun a_ U_ => a_ = #[(.int i'), (.int n'), .null] ∧ Z.Warmed39 U_.vm ∧ U_.heap = h0) (fun _ _ _ _ _ => True) (fun _ U_ o_ V_ => ∃ v_ L_, o_ = .returned v_ ∧ own_Q18_n Z i' n' h0 n0 v_ V_.heap L_ ∧ FrameEnd U_ o_ V_ L_ ({ frames := 0, cells := 0, slots := 0, locals := 0 } : Room).cells ({ frames := 0, cells := 0, slots := 0, locals := 0 } : Room).slots) := by
  refine MetFree.of_bodySF (plainFor_of_name own_pn_jdk_internal_util_Preconditions) hisR ?_
  intro p e s m args below meth c s₁ Bd hml0 hP hK
  obtain ⟨rfl, hZ, hh⟩ := hP
  have hx := Bd.exec
  have hby := Bd.bytes
  have hml : c.maxLocals = 3 := hml0
  have hown : s.vm.findClass "jdk/internal/util/Preconditions" = some m.cls := findClass_of_methodNamed Bd.named
  have hnm := (name_of_methodNamed Bd.named Bd.method).1
  have X0 : Stand p l e ({ frames := 0, cells := 0, slots := 0, locals := 0 } : Room) s m #[(.int i'), (.int n'), .null] below meth c s₁ [] 0 0 := Stand.of_body Bd
  have e0 : s₁.heap = h0 := by rw [← hh, Bd.state]; rfl
  have N0 := Fr.nil n0
  show own_G p e below s (own_Q18_n Z i' n' h0 n0) ({ frames := 0, cells := 0, slots := 0, locals := 0 } : Room).cells ({ frames := 0, cells := 0, slots := 0, locals := 0 } : Room).slots s₁ (entryFrame m #[(.int i'), (.int n'), .null] 3)
  rw [own_rm18_n_ef]
  refine own_w (T' := s₁) (g' := (mkF m 1 #[.val (.int i'), .val (.int n'), .val .null] [(.int i')])) (fun _ k_ => XS.iloadN X0.here hx rfl (hb hby own_d18_0) rfl k_) ?_
  refine own_w (T' := s₁) (g' := (mkF m 4 #[.val (.int i'), .val (.int n'), .val .null] [])) (fun _ k_ => XS.ifNo X0.here hx rfl (hb hby own_d18_1) rfl ((if0 _ _).trans (flt h1).1) k_) ?_
  refine own_w (T' := s₁) (g' := (mkF m 5 #[.val (.int i'), .val (.int n'), .val .null] [(.int i')])) (fun _ k_ => XS.iloadN X0.here hx rfl (hb hby own_d18_4) rfl k_) ?_
  refine own_w (T' := s₁) (g' := (mkF m 6 #[.val (.int i'), .val (.int n'), .val .null] [(.int n'), (.int i')])) (fun _ k_ => XS.iloadN X0.here hx rfl (hb hby own_d18_5) rfl k_) ?_
  refine own_w (T' := s₁) (g' := (mkF m 16 #[.val (.int i'), .val (.int n'), .val .null] [])) (fun _ k_ => XS.icmpYes X0.here hx rfl (pc0 := 6) (pc' := 16) rfl (hb hby own_d18_6) rfl (tlt h2).1 (by decide) (by decide) k_) ?_
  refine own_w (T' := s₁) (g' := (mkF m 17 #[.val (.int i'), .val (.int n'), .val .null] [(.int i')])) (fun _ k_ => XS.iloadN X0.here hx rfl (hb hby own_d18_16) rfl k_) ?_
  obtain ⟨fs, hr, hrun, hended, hW, hsame⟩ := X0.leave (v := some (.int i')) (fun h => by rw [Bd.returns] at h; cases h)
  exact ⟨_, _, retOut X0 hx Bd.returns rfl (Or.inl ⟨rfl, Or.inl rfl, _, rfl⟩) (hb hby own_d18_17) hr, hrun, hended, _, _, rfl, (by show own_Q18_n Z i' n' h0 n0 _ s₁.heap _; rw [e0]; exact ⟨rfl, N0, rfl⟩), ⟨_, rfl⟩, hW, hsame.mono (by decide) (by decide)⟩
theorem own_rm18_r_ef (m : MethodId) (i' : Int32) (n' : Int32) (fa : Addr) : entryFrame m #[(.int i'), (.int n'), (.ref fa)] 3 = mkF m 0 #[.val (.int i'), .val (.int n'), .val (.ref fa)] [] := by first | (simp [entryFrame, mkF, argsToLocals, Value.category]; done) | rfl
def own_Q18_r (Z : State) (i' : Int32) (n' : Int32) (fa : Addr) (h0 : Heap) (n0 : Nat) (v_ : Option Value) (h : Heap) (L_ : List Loc) : Prop := v_ = some (.int i') ∧ Fr n0 L_ ∧ (h = h0)
set_option maxRecDepth 65536 in
set_option maxHeartbeats 40000000 in
theorem own_rm18_r (l : Launch) (Z : State) (a0 : Array Value) (hw : ∀ d ∈ tables_1, d.before a0 Z = true) (ws : List Jvm.Cond) (i' : Int32) (n' : Int32) (fa : Addr) (h0 : Heap) (n0 : Nat) (Z0 : n0 ≤ h0.size) (h1 : ¬ i' < (0 : Int32)) (h2 : i' < n') :
    MetFree l (⟨"jdk/internal/util/Preconditions", "checkIndex", "(IILjava/util/function/BiFunction;)I"⟩ : MethodName) (head1 (Jvm.Cond.code (⟨"jdk/internal/util/Preconditions", "checkIndex", "(IILjava/util/function/BiFunction;)I"⟩ : MethodName) jdk_41_method_11_code 3 (some .int) :: ws) ({ frames := 0, cells := 0, slots := 0, locals := 0 } : Room)) (fun a_ U_ => a_ = #[(.int i'), (.int n'), (.ref fa)] ∧ Z.Warmed39 U_.vm ∧ U_.heap = h0) (fun _ _ _ _ _ => True) (fun _ U_ o_ V_ => ∃ v_ L_, o_ = .returned v_ ∧ own_Q18_r Z i' n' fa h0 n0 v_ V_.heap L_ ∧ FrameEnd U_ o_ V_ L_ ({ frames := 0, cells := 0, slots := 0, locals := 0 } : Room).cells ({ frames := 0, cells := 0, slots := 0, locals := 0 } : Room).slots) := by
  refine MetFree.of_bodySF (plainFor_of_name own_pn_jdk_internal_util_Preconditions) hisR ?_
  intro p e s m args below meth c s₁ Bd hml0 hP hK
  obtain ⟨rfl, hZ, hh⟩ := hP
  have hx := Bd.exec
  have hby := Bd.bytes
  have hml : c.maxLocals = 3 := hml0
  have hown : s.vm.findClass "jdk/internal/util/Preconditions" = some m.cls := findClass_of_methodNamed Bd.named
  have hnm := (name_of_methodNamed Bd.named Bd.method).1
  have X0 : Stand p l e ({ frames := 0, cells := 0, slots := 0, locals := 0 } : Room) s m #[(.int i'), (.int n'), (.ref fa)] below meth c s₁ [] 0 0 := Stand.of_body Bd
  have e0 : s₁.heap = h0 := by rw [← hh, Bd.state]; rfl
  have N0 := Fr.nil n0
  show own_G p e below s (own_Q18_r Z i' n' fa h0 n0) ({ frames := 0, cells := 0, slots := 0, locals := 0 } : Room).cells ({ frames := 0, cells := 0, slots := 0, locals := 0 } : Room).slots s₁ (entryFrame m #[(.int i'), (.int n'), (.ref fa)] 3)
  rw [own_rm18_r_ef]
  refine own_w (T' := s₁) (g' := (mkF m 1 #[.val (.int i'), .val (.int n'), .val (.ref fa)] [(.int i')])) (fun _ k_ => XS.iloadN X0.here hx rfl (hb hby own_d18_0) rfl k_) ?_
  refine own_w (T' := s₁) (g' := (mkF m 4 #[.val (.int i'), .val (.int n'), .val (.ref fa)] [])) (fun _ k_ => XS.ifNo X0.here hx rfl (hb hby own_d18_1) rfl ((if0 _ _).trans (flt h1).1) k_) ?_
  refine own_w (T' := s₁) (g' := (mkF m 5 #[.val (.int i'), .val (.int n'), .val (.ref fa)] [(.int i')])) (fun _ k_ => XS.iloadN X0.here hx rfl (hb hby own_d18_4) rfl k_) ?_
  refine own_w (T' := s₁) (g' := (mkF m 6 #[.val (.int i'), .val (.int n'), .val (.ref fa)] [(.int n'), (.int i')])) (fun _ k_ => XS.iloadN X0.here hx rfl (hb hby own_d18_5) rfl k_) ?_
  refine own_w (T' := s₁) (g' := (mkF m 16 #[.val (.int i'), .val (.int n'), .val (.ref fa)] [])) (fun _ k_ => XS.icmpYes X0.here hx rfl (pc0 := 6) (pc' := 16) rfl (hb hby own_d18_6) rfl (tlt h2).1 (by decide) (by decide) k_) ?_
  refine own_w (T' := s₁) (g' := (mkF m 17 #[.val (.int i'), .val (.int n'), .val (.ref fa)] [(.int i')])) (fun _ k_ => XS.iloadN X0.here hx rfl (hb hby own_d18_16) rfl k_) ?_
  obtain ⟨fs, hr, hrun, hended, hW, hsame⟩ := X0.leave (v := some (.int i')) (fun h => by rw [Bd.returns] at h; cases h)
  exact ⟨_, _, retOut X0 hx Bd.returns rfl (Or.inl ⟨rfl, Or.inl rfl, _, rfl⟩) (hb hby own_d18_17) hr, hrun, hended, _, _, rfl, (by show own_Q18_r Z i' n' fa h0 n0 _ s₁.heap _; rw [e0]; exact ⟨rfl, N0, rfl⟩), ⟨_, rfl⟩, hW, hsame.mono (by decide) (by decide)⟩
theorem own_d17_0 : decode jdk_42_method_155_code 0 = .ok (.iload_n 0, 1) := by decide +kernel
theorem own_d17_1 : decode jdk_42_method_155_code 1 = .ok (.iload_n 1, 1) := by decide +kernel
theorem own_d17_2 : decode jdk_42_method_155_code 2 = .ok (.getstatic 1053, 3) := by decide +kernel
theorem own_d17_5 : decode jdk_42_method_155_code 5 = .ok (.invokestatic 1059, 3) := by decide +kernel
theorem own_pd1 : parseMethodDescriptor "(IILjava/util/function/BiFunction;)I" = some ⟨[.int, .int, (.object "java/util/function/BiFunction")], some .int⟩ := by decide +kernel
theorem own_d17_8 : decode jdk_42_method_155_code 8 = .ok (.pop, 1) := by decide +kernel
theorem own_d17_9 : decode jdk_42_method_155_code 9 = .ok (.return_, 1) := by decide +kernel
theorem own_rm17_ef (m : MethodId) (i' : Int32) (n' : Int32) : entryFrame m #[(.int i'), (.int n')] 2 = mkF m 0 #[.val (.int i'), .val (.int n')] [] := by first | (simp [entryFrame, mkF, argsToLocals, Value.category]; done) | rfl
def own_Q17 (Z : State) (i' : Int32) (n' : Int32) (sf : Value) (h0 : Heap) (n0 : Nat) (v_ : Option Value) (h : Heap) (L_ : List Loc) : Prop := v_ = none ∧ Fr n0 L_ ∧ (h = h0)
set_option maxRecDepth 65536 in
set_option maxHeartbeats 40000000 in
theorem own_rm17 (l : Launch) (Z : State) (a0 : Array Value) (hw : ∀ d ∈ tables_1, d.before a0 Z = true) (ws : List Jvm.Cond) (i' : Int32) (n' : Int32) (sf : Value) (h0 : Heap) (n0 : Nat) (Z0 : n0 ≤ h0.size) (h1 : ¬ i' < (0 : Int32)) (h2 : i' < n') (hsf : sf.isRef = true) (SF : Sta Z h0 "jdk/internal/util/Preconditions" "SIOOBE_FORMATTER" "Ljava/util/function/BiFunction;" sf) :
    MetFree l (⟨"java/lang/String", "checkIndex", "(II)V"⟩ : MethodName) (head1 (Jvm.Cond.code (⟨"java/lang/String", "checkIndex", "(II)V"⟩ : MethodName) jdk_42_method_155_code 2 none :: ws) ({ frames := 1, cells := 0, slots := 0, locals := 14 } : Room)) (fun a_ U_ => a_ = #[(.int i'), (.int n')] ∧ Z.Warmed39 U_.vm ∧ U_.heap = h0) (fun _ _ _ _ _ => True) (fun _ U_ o_ V_ => ∃ v_ L_, o_ = .returned v_ ∧ own_Q17 Z i' n' sf h0 n0 v_ V_.heap L_ ∧ FrameEnd U_ o_ V_ L_ ({ frames := 1, cells := 0, slots := 0, locals := 14 } : Room).cells ({ frames := 1, cells := 0, slots := 0, locals := 14 } : Room).slots) := by
  refine MetFree.of_bodySF (plainFor_of_name own_pn_java_lang_String) hisR ?_
  intro p e s m args below meth c s₁ Bd hml0 hP hK
  obtain ⟨rfl, hZ, hh⟩ := hP
  have hx := Bd.exec
  have hby := Bd.bytes
  have hml : c.maxLocals = 2 := hml0
  have hown : s.vm.findClass "java/lang/String" = some m.cls := findClass_of_methodNamed Bd.named
  have hnm := (name_of_methodNamed Bd.named Bd.method).1
  have X0 : Stand p l e ({ frames := 1, cells := 0, slots := 0, locals := 14 } : Room) s m #[(.int i'), (.int n')] below meth c s₁ [] 0 0 := Stand.of_body Bd
  have e0 : s₁.heap = h0 := by rw [← hh, Bd.state]; rfl
  have N0 := Fr.nil n0
  show own_G p e below s (own_Q17 Z i' n' sf h0 n0) ({ frames := 1, cells := 0, slots := 0, locals := 14 } : Room).cells ({ frames := 1, cells := 0, slots := 0, locals := 14 } : Room).slots s₁ (entryFrame m #[(.int i'), (.int n')] 2)
  rw [own_rm17_ef]
  refine own_w (T' := s₁) (g' := (mkF m 1 #[.val (.int i'), .val (.int n')] [(.int i')])) (fun _ k_ => XS.iloadN X0.here hx rfl (hb hby own_d17_0) rfl k_) ?_
  refine own_w (T' := s₁) (g' := (mkF m 2 #[.val (.int i'), .val (.int n')] [(.int n'), (.int i')])) (fun _ k_ => XS.iloadN X0.here hx rfl (hb hby own_d17_1) rfl k_) ?_
  obtain ⟨T1, X1, e1, st1⟩ := getS2 X0 hx hZ hown (host := "") (Or.inl (hw _ (List.mem_of_getElem? (i := 79) rfl))) Via.refl e0 SF (g := (mkF m 2 #[.val (.int i'), .val (.int n')] [(.int n'), (.int i')])) rfl (hb hby own_d17_2)
  refine own_w (T' := T1) (g' := (mkF m 5 #[.val (.int i'), .val (.int n')] [sf, (.int n'), (.int i')])) st1 ?_
  rcases ref_cases hsf with hsn | ⟨fa, hsn⟩
  · rw [hsn]
    obtain ⟨_, _, ⟨T2, L2, k2, n2⟩, -, X2, ⟨Lc2, hQ2, l2, y2, z2⟩, st2⟩ := Jvm.LawKit.callS X1 hx (y := (⟨"jdk/internal/util/Preconditions", "checkIndex", "(IILjava/util/function/BiFunction;)I"⟩ : MethodName)) hown (mvT hZ (hw _ (List.mem_of_getElem? (i := 81) rfl))) (mvT hZ (hw _ (List.mem_of_getElem? (i := 82) rfl))) (mvT hZ (hw _ (List.mem_of_getElem? (i := 80) rfl))) (mvT hZ (hw _ (List.mem_of_getElem? (i := 83) rfl))) (by decide) (backOf (W := 0) (own_rm18_n l Z a0 hw [] i' n'  h0 n0 Z0 h1 h2) hZ (hw _ (List.mem_of_getElem? (i := 83) rfl)) (hw _ (List.mem_of_getElem? (i := 80) rfl)) (by decide) (by decide)) (g := (mkF m 5 #[.val (.int i'), .val (.int n')] [.null, (.int n'), (.int i')])) rfl (by rw [hml]; rfl) (argsL := [(.int i'), (.int n'), .null]) (rest := []) (lenOf own_pd1 rfl) rfl (by show 2 * 0 + _ ≤ _; exact Nat.le_of_eq rfl) (hb hby own_d17_5) (fun _ _ => ⟨rfl, e1, (by decide : 0 + 0 ≤ _), (by decide : 0 + 0 ≤ _)⟩)
    dsimp only [Pt.U, Pt.locs, Pt.cells, Pt.slots] at X2 l2 y2 z2 st2 hQ2
    subst l2 y2 z2
    obtain ⟨rfl, N2q, e2⟩ := hQ2
    have N2 := Fr.app N0 N2q
    refine own_w (T' := T2) (g' := (mkF m 8 #[.val (.int i'), .val (.int n')] [(.int i')])) st2 ?_
    refine own_w (T' := T2) (g' := (mkF m 9 #[.val (.int i'), .val (.int n')] [])) (fun _ k_ => XS.pop X2.here hx rfl (hb hby own_d17_8) rfl rfl k_) ?_
    obtain ⟨fs, hr, hrun, hended, hW, hsame⟩ := X2.leave (v := none) (fun _ => rfl)
    exact ⟨_, _, X2.returnOut hx Bd.returns (hb hby own_d17_9) hr, hrun, hended, _, _, rfl, (by show own_Q17 Z i' n' sf h0 n0 _ T2.heap _; rw [e2]; exact ⟨rfl, N2, rfl⟩), ⟨_, rfl⟩, hW, hsame.mono (by decide) (by decide)⟩
  · rw [hsn]
    obtain ⟨_, _, ⟨T3, L3, k3, n3⟩, -, X3, ⟨Lc3, hQ3, l3, y3, z3⟩, st3⟩ := Jvm.LawKit.callS X1 hx (y := (⟨"jdk/internal/util/Preconditions", "checkIndex", "(IILjava/util/function/BiFunction;)I"⟩ : MethodName)) hown (mvT hZ (hw _ (List.mem_of_getElem? (i := 81) rfl))) (mvT hZ (hw _ (List.mem_of_getElem? (i := 82) rfl))) (mvT hZ (hw _ (List.mem_of_getElem? (i := 80) rfl))) (mvT hZ (hw _ (List.mem_of_getElem? (i := 83) rfl))) (by decide) (backOf (W := 0) (own_rm18_r l Z a0 hw [] i' n' fa  h0 n0 Z0 h1 h2) hZ (hw _ (List.mem_of_getElem? (i := 83) rfl)) (hw _ (List.mem_of_getElem? (i := 80) rfl)) (by decide) (by decide)) (g := (mkF m 5 #[.val (.int i'), .val (.int n')] [(.ref fa), (.int n'), (.int i')])) rfl (by rw [hml]; rfl) (argsL := [(.int i'), (.int n'), (.ref fa)]) (rest := []) (lenOf own_pd1 rfl) rfl (by show 2 * 0 + _ ≤ _; exact Nat.le_of_eq rfl) (hb hby own_d17_5) (fun _ _ => ⟨rfl, e1, (by decide : 0 + 0 ≤ _), (by decide : 0 + 0 ≤ _)⟩)
    dsimp only [Pt.U, Pt.locs, Pt.cells, Pt.slots] at X3 l3 y3 z3 st3 hQ3
    subst l3 y3 z3
    obtain ⟨rfl, N3q, e3⟩ := hQ3
    have N3 := Fr.app N0 N3q
    refine own_w (T' := T3) (g' := (mkF m 8 #[.val (.int i'), .val (.int n')] [(.int i')])) st3 ?_
    refine own_w (T' := T3) (g' := (mkF m 9 #[.val (.int i'), .val (.int n')] [])) (fun _ k_ => XS.pop X3.here hx rfl (hb hby own_d17_8) rfl rfl k_) ?_
    obtain ⟨fs, hr, hrun, hended, hW, hsame⟩ := X3.leave (v := none) (fun _ => rfl)
    exact ⟨_, _, X3.returnOut hx Bd.returns (hb hby own_d17_9) hr, hrun, hended, _, _, rfl, (by show own_Q17 Z i' n' sf h0 n0 _ T3.heap _; rw [e3]; exact ⟨rfl, N3, rfl⟩), ⟨_, rfl⟩, hW, hsame.mono (by decide) (by decide)⟩
theorem own_d16_0 : decode jdk_43_method_2_code 0 = .ok (.iload_n 1, 1) := by decide +kernel
theorem own_d16_1 : decode jdk_43_method_2_code 1 = .ok (.aload_n 0, 1) := by decide +kernel
theorem own_d16_2 : decode jdk_43_method_2_code 2 = .ok (.arraylength, 1) := by decide +kernel
theorem own_d16_3 : decode jdk_43_method_2_code 3 = .ok (.invokestatic 9, 3) := by decide +kernel
theorem own_pd2 : parseMethodDescriptor "(II)V" = some ⟨[.int, .int], none⟩ := by decide +kernel
theorem own_d16_6 : decode jdk_43_method_2_code 6 = .ok (.aload_n 0, 1) := by decide +kernel
theorem own_d16_7 : decode jdk_43_method_2_code 7 = .ok (.iload_n 1, 1) := by decide +kernel
theorem own_d16_8 : decode jdk_43_method_2_code 8 = .ok (.baload, 1) := by decide +kernel
theorem own_d16_9 : decode jdk_43_method_2_code 9 = .ok (.sipush 255, 3) := by decide +kernel
theorem own_d16_12 : decode jdk_43_method_2_code 12 = .ok (.iand, 1) := by decide +kernel
theorem own_d16_13 : decode jdk_43_method_2_code 13 = .ok (.i2c, 1) := by decide +kernel
theorem own_d16_14 : decode jdk_43_method_2_code 14 = .ok (.ireturn, 1) := by decide +kernel
theorem own_rm16_ef (m : MethodId) (xa : Addr) (i' : Int32) : entryFrame m #[(.ref xa), (.int i')] 2 = mkF m 0 #[.val (.ref xa), .val (.int i')] [] := by first | (simp [entryFrame, mkF, argsToLocals, Value.category]; done) | rfl
def own_Q16 (Z : State) (xa : Addr) (i' : Int32) (xs : List Int32) (sf : Value) (i : Nat) (x : Int32) (h0 : Heap) (n0 : Nat) (v_ : Option Value) (h : Heap) (L_ : List Loc) : Prop := v_ = some (.int x) ∧ Fr n0 L_ ∧ (h = h0)
set_option maxRecDepth 65536 in
set_option maxHeartbeats 40000000 in
theorem own_rm16 (l : Launch) (Z : State) (a0 : Array Value) (hw : ∀ d ∈ tables_1, d.before a0 Z = true) (ws : List Jvm.Cond) (xa : Addr) (i' : Int32) (xs : List Int32) (sf : Value) (i : Nat) (x : Int32) (h0 : Heap) (n0 : Nat) (Z0 : n0 ≤ h0.size) (Aa : own_Ar Z h0 xa .byte xs) (lx : xs.length < 1000) (hsf : sf.isRef = true) (SF : Sta Z h0 "jdk/internal/util/Preconditions" "SIOOBE_FORMATTER" "Ljava/util/function/BiFunction;" sf) (hasc : own_asc xs) (hi : i'.toInt = (i : Int)) (hx' : xs[i]? = some x) :
    MetFree l (⟨"java/lang/StringLatin1", "charAt", "([BI)C"⟩ : MethodName) (head1 (Jvm.Cond.code (⟨"java/lang/StringLatin1", "charAt", "([BI)C"⟩ : MethodName) jdk_43_method_2_code 2 (some .char) :: ws) ({ frames := 2, cells := 0, slots := 0, locals := 27 } : Room)) (fun a_ U_ => a_ = #[(.ref xa), (.int i')] ∧ Z.Warmed39 U_.vm ∧ U_.heap = h0) (fun _ _ _ _ _ => True) (fun _ U_ o_ V_ => ∃ v_ L_, o_ = .returned v_ ∧ own_Q16 Z xa i' xs sf i x h0 n0 v_ V_.heap L_ ∧ FrameEnd U_ o_ V_ L_ ({ frames := 2, cells := 0, slots := 0, locals := 27 } : Room).cells ({ frames := 2, cells := 0, slots := 0, locals := 27 } : Room).slots) := by
  refine MetFree.of_bodySF (plainFor_of_name own_pn_java_lang_StringLatin1) hisR ?_
  intro p e s m args below meth c s₁ Bd hml0 hP hK
  obtain ⟨rfl, hZ, hh⟩ := hP
  have hx := Bd.exec
  have hby := Bd.bytes
  have hml : c.maxLocals = 2 := hml0
  have hown : s.vm.findClass "java/lang/StringLatin1" = some m.cls := findClass_of_methodNamed Bd.named
  have hnm := (name_of_methodNamed Bd.named Bd.method).1
  have X0 : Stand p l e ({ frames := 2, cells := 0, slots := 0, locals := 27 } : Room) s m #[(.ref xa), (.int i')] below meth c s₁ [] 0 0 := Stand.of_body Bd
  have e0 : s₁.heap = h0 := by rw [← hh, Bd.state]; rfl
  have N0 := Fr.nil n0
  show own_G p e below s (own_Q16 Z xa i' xs sf i x h0 n0) ({ frames := 2, cells := 0, slots := 0, locals := 27 } : Room).cells ({ frames := 2, cells := 0, slots := 0, locals := 27 } : Room).slots s₁ (entryFrame m #[(.ref xa), (.int i')] 2)
  rw [own_rm16_ef]
  have il := own_get_lt hx'
  refine own_w (T' := s₁) (g' := (mkF m 1 #[.val (.ref xa), .val (.int i')] [(.int i')])) (fun _ k_ => XS.iloadN X0.here hx rfl (hb hby own_d16_0) rfl k_) ?_
  refine own_w (T' := s₁) (g' := (mkF m 2 #[.val (.ref xa), .val (.int i')] [(.ref xa), (.int i')])) (fun _ k_ => XS.aloadN X0.here hx rfl (hb hby own_d16_1) rfl rfl k_) ?_
  obtain ⟨cl1, Ar1, hs1⟩ := id Aa
  have hl1 : cl1.slots.size.toInt32 = xs.length.toInt32 := by rw [hs1]; simp
  refine own_w (T' := s₁) (g' := (mkF m 3 #[.val (.ref xa), .val (.int i')] [(.int xs.length.toInt32), (.int i')])) (fun t_ k_ => X0.arraylength hx (by rw [e0]; exact Ar1.1) (State.isArrayOf_alike hZ.alike Ar1.2.1) (g := (mkF m 2 #[.val (.ref xa), .val (.int i')] [(.ref xa), (.int i')])) rfl rfl (hb hby own_d16_2) t_ (by rw [hl1]; exact k_)) ?_
  obtain ⟨_, _, ⟨T2, L2, k2, n2⟩, -, X2, ⟨Lc2, hQ2, l2, y2, z2⟩, st2⟩ := Jvm.LawKit.callS X0 hx (y := (⟨"java/lang/String", "checkIndex", "(II)V"⟩ : MethodName)) hown (mvT hZ (hw _ (List.mem_of_getElem? (i := 76) rfl))) (mvT hZ (hw _ (List.mem_of_getElem? (i := 77) rfl))) (mvT hZ (hw _ (List.mem_of_getElem? (i := 11) rfl))) (mvT hZ (hw _ (List.mem_of_getElem? (i := 78) rfl))) (by decide) (backOf (W := 0) (own_rm17 l Z a0 hw [] i' xs.length.toInt32 sf h0 n0 Z0 (fun q => by rw [Int32.lt_iff_toInt_lt, hi, show (0 : Int32).toInt = 0 from rfl] at q; omega) ((own_lti hi (own_i32 lx)).mpr il) hsf SF) hZ (hw _ (List.mem_of_getElem? (i := 78) rfl)) (hw _ (List.mem_of_getElem? (i := 11) rfl)) (by decide) (by decide)) (g := (mkF m 3 #[.val (.ref xa), .val (.int i')] [(.int xs.length.toInt32), (.int i')])) rfl (by rw [hml]; rfl) (argsL := [(.int i'), (.int xs.length.toInt32)]) (rest := []) (lenOf own_pd2 rfl) rfl (by show 2 * 0 + _ ≤ _; exact Nat.le_of_eq rfl) (hb hby own_d16_3) (fun _ _ => ⟨rfl, e0, (by decide : 0 + 0 ≤ _), (by decide : 0 + 0 ≤ _)⟩)
  dsimp only [Pt.U, Pt.locs, Pt.cells, Pt.slots] at X2 l2 y2 z2 st2 hQ2
  subst l2 y2 z2
  obtain ⟨rfl, N2q, e2⟩ := hQ2
  have N2 := Fr.app N0 N2q
  refine own_w (T' := T2) (g' := (mkF m 6 #[.val (.ref xa), .val (.int i')] [])) st2 ?_
  refine own_w (T' := T2) (g' := (mkF m 7 #[.val (.ref xa), .val (.int i')] [(.ref xa)])) (fun _ k_ => XS.aloadN X2.here hx rfl (hb hby own_d16_6) rfl rfl k_) ?_
  refine own_w (T' := T2) (g' := (mkF m 8 #[.val (.ref xa), .val (.int i')] [(.int i'), (.ref xa)])) (fun _ k_ => XS.iloadN X2.here hx rfl (hb hby own_d16_7) rfl k_) ?_
  obtain ⟨cl3, Ar3, hs3⟩ := id Aa
  refine own_w (T' := T2) (g' := (mkF m 9 #[.val (.ref xa), .val (.int i')] [(.int x)])) (fun t_ k_ => X2.baloadBytes hx (j := i') (v := .int x) (by rw [e2]; exact Ar3.1) (State.isArrayOf_alike hZ.alike Ar3.2.1) Ar3.2.2 (own_Ar_in hs3 hi (own_get_lt (show _ = some x from hx'))) (own_Ar_at hs3 hi (show _ = some x from hx')) (g := (mkF m 8 #[.val (.ref xa), .val (.int i')] [(.int i'), (.ref xa)])) rfl rfl (hb hby own_d16_8) t_ k_) ?_
  refine own_w (T' := T2) (g' := (mkF m 12 #[.val (.ref xa), .val (.int i')] [(.int (255 : Int32)), (.int x)])) (fun _ k_ => XS.sipush X2.here hx rfl (hb hby own_d16_9) k_) ?_
  refine own_w (T' := T2) (g' := (mkF m 13 #[.val (.ref xa), .val (.int i')] [(.int (x &&& (255 : Int32)))])) (fun _ k_ => XS.iand X2.here hx rfl (hb hby own_d16_12) rfl k_) ?_
  refine own_w (T' := T2) (g' := (mkF m 14 #[.val (.ref xa), .val (.int i')] [(.int ((x &&& (255 : Int32)).toUInt32.toUInt16.toUInt32.toInt32))])) (fun _ k_ => XS.i2c X2.here hx rfl (hb hby own_d16_13) rfl k_) ?_
  obtain ⟨fs, hr, hrun, hended, hW, hsame⟩ := X2.leave (v := some (.int ((x &&& (255 : Int32)).toUInt32.toUInt16.toUInt32.toInt32))) (fun h => by rw [Bd.returns] at h; cases h)
  exact ⟨_, _, retOut X2 hx Bd.returns (show narrow .char (.int ((x &&& (255 : Int32)).toUInt32.toUInt16.toUInt32.toInt32)) = (.int ((x &&& (255 : Int32)).toUInt32.toUInt16.toUInt32.toInt32)) from congrArg Value.int (own_i2c2 _)) (Or.inl ⟨rfl, Or.inr (Or.inr (Or.inr (Or.inl rfl))), _, rfl⟩) (hb hby own_d16_14) hr, hrun, hended, _, _, rfl, (by show own_Q16 Z xa i' xs sf i x h0 n0 _ T2.heap _; rw [e2]; exact ⟨(congrArg (fun z => some (Value.int z)) (own_cv (own_asc_at hasc hx'))), N2, rfl⟩), ⟨_, rfl⟩, hW, hsame.mono (by decide) (by decide)⟩
theorem own_d14_0 : decode jdk_42_method_56_code 0 = .ok (.aload_n 0, 1) := by decide +kernel
theorem own_d14_1 : decode jdk_42_method_56_code 1 = .ok (.invokevirtual 492, 3) := by decide +kernel
theorem own_pd3 : parseMethodDescriptor "()Z" = some ⟨[], some .boolean⟩ := by decide +kernel
theorem own_d14_4 : decode jdk_42_method_56_code 4 = .ok (.ifCond .eq 12, 3) := by decide +kernel
theorem own_d14_7 : decode jdk_42_method_56_code 7 = .ok (.aload_n 0, 1) := by decide +kernel
theorem own_d14_8 : decode jdk_42_method_56_code 8 = .ok (.getfield 9, 3) := by decide +kernel
theorem own_d14_11 : decode jdk_42_method_56_code 11 = .ok (.iload_n 1, 1) := by decide +kernel
theorem own_d14_12 : decode jdk_42_method_56_code 12 = .ok (.invokestatic 495, 3) := by decide +kernel
theorem own_pd4 : parseMethodDescriptor "([BI)C" = some ⟨[(.array .byte), .int], some .char⟩ := by decide +kernel
theorem own_d14_15 : decode jdk_42_method_56_code 15 = .ok (.ireturn, 1) := by decide +kernel
theorem own_rm14_ef (m : MethodId) (a : Addr) (i' : Int32) : entryFrame m #[(.ref a), (.int i')] 2 = mkF m 0 #[.val (.ref a), .val (.int i')] [] := by first | (simp [entryFrame, mkF, argsToLocals, Value.category]; done) | rfl
def own_Q14 (Z : State) (a : Addr) (i' : Int32) (xs : List Int32) (cs : Int32) (sf : Value) (i : Nat) (x : Int32) (h0 : Heap) (n0 : Nat) (v_ : Option Value) (h : Heap) (L_ : List Loc) : Prop := v_ = some (.int x) ∧ Fr n0 L_ ∧ (h = h0)
set_option maxRecDepth 65536 in
set_option maxHeartbeats 40000000 in
theorem own_rm14 (l : Launch) (Z : State) (a0 : Array Value) (hw : ∀ d ∈ tables_1, d.before a0 Z = true) (ws : List Jvm.Cond) (a : Addr) (i' : Int32) (xs : List Int32) (cs : Int32) (sf : Value) (i : Nat) (x : Int32) (h0 : Heap) (n0 : Nat) (Z0 : n0 ≤ h0.size) (Sa : own_Str Z h0 a xs) (lx : xs.length < 1000) (hcs : ¬ cs = (0 : Int32)) (S : Sta Z h0 "java/lang/String" "COMPACT_STRINGS" "Z" (.int cs)) (hsf : sf.isRef = true) (SF : Sta Z h0 "jdk/internal/util/Preconditions" "SIOOBE_FORMATTER" "Ljava/util/function/BiFunction;" sf) (hasc : own_asc xs) (hi : i'.toInt = (i : Int)) (hx' : xs[i]? = some x) :
    MetFree l (⟨"java/lang/String", "charAt", "(I)C"⟩ : MethodName) (head1 (Jvm.Cond.code (⟨"java/lang/String", "charAt", "(I)C"⟩ : MethodName) jdk_42_method_56_code 2 (some .char) :: ws) ({ frames := 3, cells := 0, slots := 0, locals := 40 } : Room)) (fun a_ U_ => a_ = #[(.ref a), (.int i')] ∧ Z.Warmed39 U_.vm ∧ U_.heap = h0) (fun _ _ _ _ _ => True) (fun _ U_ o_ V_ => ∃ v_ L_, o_ = .returned v_ ∧ own_Q14 Z a i' xs cs sf i x h0 n0 v_ V_.heap L_ ∧ FrameEnd U_ o_ V_ L_ ({ frames := 3, cells := 0, slots := 0, locals := 40 } : Room).cells ({ frames := 3, cells := 0, slots := 0, locals := 40 } : Room).slots) := by
  refine MetFree.of_bodySF (plainFor_of_name own_pn_java_lang_String) hisR ?_
  intro p e s m args below meth c s₁ Bd hml0 hP hK
  obtain ⟨rfl, hZ, hh⟩ := hP
  have hx := Bd.exec
  have hby := Bd.bytes
  have hml : c.maxLocals = 2 := hml0
  have hown : s.vm.findClass "java/lang/String" = some m.cls := findClass_of_methodNamed Bd.named
  have hnm := (name_of_methodNamed Bd.named Bd.method).1
  have X0 : Stand p l e ({ frames := 3, cells := 0, slots := 0, locals := 40 } : Room) s m #[(.ref a), (.int i')] below meth c s₁ [] 0 0 := Stand.of_body Bd
  have e0 : s₁.heap = h0 := by rw [← hh, Bd.state]; rfl
  have N0 := Fr.nil n0
  show own_G p e below s (own_Q14 Z a i' xs cs sf i x h0 n0) ({ frames := 3, cells := 0, slots := 0, locals := 40 } : Room).cells ({ frames := 3, cells := 0, slots := 0, locals := 40 } : Room).slots s₁ (entryFrame m #[(.ref a), (.int i')] 2)
  rw [own_rm14_ef]
  obtain ⟨Ea, Ca, xa, Fa, Aa⟩ := id Sa
  refine own_w (T' := s₁) (g' := (mkF m 1 #[.val (.ref a), .val (.int i')] [(.ref a)])) (fun _ k_ => XS.aloadN X0.here hx rfl (hb hby own_d14_0) rfl rfl k_) ?_
  obtain ⟨cq1, kq1, q1a, q1b, q1c⟩ := isOf hZ e0 Ea
  obtain ⟨_, _, ⟨T1, L1, k1, n1⟩, -, X1, ⟨Lc1, hQ1, l1, y1, z1⟩, st1⟩ := X0.virtualBack hx (y := (⟨"java/lang/String", "isLatin1", "()Z"⟩ : MethodName)) (z := (⟨"java/lang/String", "isLatin1", "()Z"⟩ : MethodName)) hown (mvT hZ (hw _ (List.mem_of_getElem? (i := 67) rfl))) (mvT hZ (hw _ (List.mem_of_getElem? (i := 68) rfl))) (notFace_of_selects (args := #[]) (mvT hZ (hw _ (List.mem_of_getElem? (i := 70) rfl)))) (mvT hZ (hw _ (List.mem_of_getElem? (i := 70) rfl))) (mvT hZ (hw _ (List.mem_of_getElem? (i := 69) rfl))) (by decide) (backOf (W := 0) (own_rm15 l Z a0 hw [] a xs cs h0 n0 Z0 Sa lx hcs S) hZ (hw _ (List.mem_of_getElem? (i := 71) rfl)) (hw _ (List.mem_of_getElem? (i := 11) rfl)) (by decide) (by decide)) q1a q1c (g := (mkF m 1 #[.val (.ref a), .val (.int i')] [(.ref a)])) rfl (by rw [hml]; rfl) (Steps.refl _) (argsL := []) (rest := []) (lenOf own_pd3 rfl) rfl (by show 2 * 0 + _ ≤ _; exact Nat.le_of_eq rfl) (hb hby own_d14_1) (fun _ _ => ⟨rfl, e0, (by decide : 0 + 0 ≤ _), (by decide : 0 + 0 ≤ _)⟩)
  dsimp only [Pt.U, Pt.locs, Pt.cells, Pt.slots] at X1 l1 y1 z1 st1 hQ1
  subst l1 y1 z1
  obtain ⟨rfl, N1q, e1⟩ := hQ1
  have N1 := Fr.app N0 N1q
  refine own_t (T' := T1) (g' := (mkF m 4 #[.val (.ref a), .val (.int i')] [(.int (1 : Int32))])) st1 ?_
  refine own_w (T' := T1) (g' := (mkF m 7 #[.val (.ref a), .val (.int i')] [])) (fun _ k_ => XS.ifNo X1.here hx rfl (hb hby own_d14_4) rfl ((if0 _ _).trans (feq (by decide)).1) k_) ?_
  refine own_w (T' := T1) (g' := (mkF m 8 #[.val (.ref a), .val (.int i')] [(.ref a)])) (fun _ k_ => XS.aloadN X1.here hx rfl (hb hby own_d14_7) rfl rfl k_) ?_
  obtain ⟨T2, X2, e2, st2⟩ := getF X1 hx hZ hown (host := "") (Or.inl (hw _ (List.mem_of_getElem? (i := 36) rfl))) Via.refl e1 Fa (g := (mkF m 8 #[.val (.ref a), .val (.int i')] [(.ref a)])) rfl rfl (hb hby own_d14_8)
  refine own_w (T' := T2) (g' := (mkF m 11 #[.val (.ref a), .val (.int i')] [(.ref xa)])) st2 ?_
  refine own_w (T' := T2) (g' := (mkF m 12 #[.val (.ref a), .val (.int i')] [(.int i'), (.ref xa)])) (fun _ k_ => XS.iloadN X2.here hx rfl (hb hby own_d14_11) rfl k_) ?_
  obtain ⟨_, _, ⟨T3, L3, k3, n3⟩, -, X3, ⟨Lc3, hQ3, l3, y3, z3⟩, st3⟩ := Jvm.LawKit.callS X2 hx (y := (⟨"java/lang/StringLatin1", "charAt", "([BI)C"⟩ : MethodName)) hown (mvT hZ (hw _ (List.mem_of_getElem? (i := 72) rfl))) (mvT hZ (hw _ (List.mem_of_getElem? (i := 73) rfl))) (mvT hZ (hw _ (List.mem_of_getElem? (i := 74) rfl))) (mvT hZ (hw _ (List.mem_of_getElem? (i := 75) rfl))) (by decide) (backOf (W := 0) (own_rm16 l Z a0 hw [] xa i' xs sf i x h0 n0 Z0 Aa lx hsf SF hasc hi hx') hZ (hw _ (List.mem_of_getElem? (i := 75) rfl)) (hw _ (List.mem_of_getElem? (i := 74) rfl)) (by decide) (by decide)) (g := (mkF m 12 #[.val (.ref a), .val (.int i')] [(.int i'), (.ref xa)])) rfl (by rw [hml]; rfl) (argsL := [(.ref xa), (.int i')]) (rest := []) (lenOf own_pd4 rfl) rfl (by show 2 * 0 + _ ≤ _; exact Nat.le_of_eq rfl) (hb hby own_d14_12) (fun _ _ => ⟨rfl, e2, (by decide : 0 + 0 ≤ _), (by decide : 0 + 0 ≤ _)⟩)
  dsimp only [Pt.U, Pt.locs, Pt.cells, Pt.slots] at X3 l3 y3 z3 st3 hQ3
  subst l3 y3 z3
  obtain ⟨rfl, N3q, e3⟩ := hQ3
  have N3 := Fr.app N1 N3q
  refine own_w (T' := T3) (g' := (mkF m 15 #[.val (.ref a), .val (.int i')] [(.int x)])) st3 ?_
  obtain ⟨fs, hr, hrun, hended, hW, hsame⟩ := X3.leave (v := some (.int x)) (fun h => by rw [Bd.returns] at h; cases h)
  exact ⟨_, _, retOut X3 hx Bd.returns (show narrow .char (.int x) = .int x from congrArg Value.int (own_i2c_small (own_asc_at hasc hx').1 (by have := (own_asc_at hasc hx').2; omega))) (Or.inl ⟨rfl, Or.inr (Or.inr (Or.inr (Or.inl rfl))), _, rfl⟩) (hb hby own_d14_15) hr, hrun, hended, _, _, rfl, (by show own_Q14 Z a i' xs cs sf i x h0 n0 _ T3.heap _; rw [e3]; exact ⟨rfl, N3, rfl⟩), ⟨_, rfl⟩, hW, hsame.mono (by decide) (by decide)⟩
theorem own_d24_0 : decode jdk_43_method_23_code 0 = .ok (.iload_n 1, 1) := by decide +kernel
theorem own_d24_1 : decode jdk_43_method_23_code 1 = .ok (.i2b, 1) := by decide +kernel
theorem own_d24_2 : decode jdk_43_method_23_code 2 = .ok (.istore 4, 2) := by decide +kernel
theorem own_d24_4 : decode jdk_43_method_23_code 4 = .ok (.iload_n 2, 1) := by decide +kernel
theorem own_d24_5 : decode jdk_43_method_23_code 5 = .ok (.istore 5, 2) := by decide +kernel
theorem own_d24_7 : decode jdk_43_method_23_code 7 = .ok (.iload 5, 2) := by decide +kernel
theorem own_d24_9 : decode jdk_43_method_23_code 9 = .ok (.iload_n 3, 1) := by decide +kernel
theorem own_d24_10 : decode jdk_43_method_23_code 10 = .ok (.if_icmp .ge 21, 3) := by decide +kernel
theorem own_d24_31 : decode jdk_43_method_23_code 31 = .ok (.iconst (-1), 1) := by decide +kernel
theorem own_d24_32 : decode jdk_43_method_23_code 32 = .ok (.ireturn, 1) := by decide +kernel
theorem own_d24_13 : decode jdk_43_method_23_code 13 = .ok (.aload_n 0, 1) := by decide +kernel
theorem own_d24_14 : decode jdk_43_method_23_code 14 = .ok (.iload 5, 2) := by decide +kernel
theorem own_d24_16 : decode jdk_43_method_23_code 16 = .ok (.baload, 1) := by decide +kernel
theorem own_d24_17 : decode jdk_43_method_23_code 17 = .ok (.iload 4, 2) := by decide +kernel
theorem own_d24_19 : decode jdk_43_method_23_code 19 = .ok (.if_icmp .ne 6, 3) := by decide +kernel
theorem own_fd_miss {xs : List Int32} {n i : Nat} {x : Int32} (hx : xs[i]? = some x) (h : ¬ x = 46) : own_fd xs (n + 1) i = own_fd xs n (i + 1) := if_neg (by rw [hx]; exact fun q => h (Option.some.inj q))
theorem own_fd_hit {xs : List Int32} {n i : Nat} {x : Int32} (hx : xs[i]? = some x) (h : x = 46) : own_fd xs (n + 1) i = i.toInt32 := if_pos (by rw [hx, h])
theorem own_cg_miss {xs : List Int32} {n i : Nat} {x acc : Int32} (hx : xs[i]? = some x) (h : ¬ x = 46) : own_cg xs (n + 1) i acc = own_cg xs n (i + 1) acc := congrArg _ (if_neg (by rw [hx]; exact fun q => h (Option.some.inj q)))
theorem own_cg_hit {xs : List Int32} {n i : Nat} {x acc : Int32} (hx : xs[i]? = some x) (h : x = 46) : own_cg xs (n + 1) i acc = own_cg xs n (i + 1) (acc + 1) := congrArg _ (if_pos (by rw [hx, h]))
theorem own_d24_22 : decode jdk_43_method_23_code 22 = .ok (.iload 5, 2) := by decide +kernel
theorem own_d24_24 : decode jdk_43_method_23_code 24 = .ok (.ireturn, 1) := by decide +kernel
theorem own_d24_25 : decode jdk_43_method_23_code 25 = .ok (.iinc 5 1, 3) := by decide +kernel
theorem own_d24_28 : decode jdk_43_method_23_code 28 = .ok (.goto (-21), 3) := by decide +kernel
theorem own_rm24_ef (m : MethodId) (xa : Addr) (f' : Int32) (e' : Int32) : entryFrame m #[(.ref xa), (.int (46 : Int32)), (.int f'), (.int e')] 6 = mkF m 0 #[.val (.ref xa), .val (.int (46 : Int32)), .val (.int f'), .val (.int e'), .unset, .unset] [] := by first | (simp [entryFrame, mkF, argsToLocals, Value.category]; done) | rfl
def own_Q24 (Z : State) (xa : Addr) (f' : Int32) (e' : Int32) (xs : List Int32) (f : Nat) (h0 : Heap) (n0 : Nat) (v_ : Option Value) (h : Heap) (L_ : List Loc) : Prop := v_ = some (.int (own_io xs f)) ∧ Fr n0 L_ ∧ (h = h0)
set_option maxRecDepth 65536 in
set_option maxHeartbeats 40000000 in
theorem own_rm24 (l : Launch) (Z : State) (a0 : Array Value) (hw : ∀ d ∈ tables_1, d.before a0 Z = true) (ws : List Jvm.Cond) (xa : Addr) (f' : Int32) (e' : Int32) (xs : List Int32) (f : Nat) (h0 : Heap) (n0 : Nat) (Z0 : n0 ≤ h0.size) (Aa : own_Ar Z h0 xa .byte xs) (lx : xs.length < 1000) (hf : f'.toInt = (f : Int)) (he : e'.toInt = (xs.length : Int)) (hfl : f ≤ xs.length) :
    MetFree l (⟨"java/lang/StringLatin1", "indexOfChar", "([BIII)I"⟩ : MethodName) (head1 (Jvm.Cond.code (⟨"java/lang/StringLatin1", "indexOfChar", "([BIII)I"⟩ : MethodName) jdk_43_method_23_code 6 (some .int) :: ws) ({ frames := 0, cells := 0, slots := 0, locals := 0 } : Room)) (fun a_ U_ => a_ = #[(.ref xa), (.int (46 : Int32)), (.int f'), (.int e')] ∧ Z.Warmed39 U_.vm ∧ U_.heap = h0) (fun _ _ _ _ _ => True) (fun _ U_ o_ V_ => ∃ v_ L_, o_ = .returned v_ ∧ own_Q24 Z xa f' e' xs f h0 n0 v_ V_.heap L_ ∧ FrameEnd U_ o_ V_ L_ ({ frames := 0, cells := 0, slots := 0, locals := 0 } : Room).cells ({ frames := 0, cells := 0, slots := 0, locals := 0 } : Room).slots) := by
  refine MetFree.of_bodySF (plainFor_of_name own_pn_java_lang_StringLatin1) hisR ?_
  intro p e s m args below meth c s₁ Bd hml0 hP hK
  obtain ⟨rfl, hZ, hh⟩ := hP
  have hx := Bd.exec
  have hby := Bd.bytes
  have hml : c.maxLocals = 6 := hml0
  have hown : s.vm.findClass "java/lang/StringLatin1" = some m.cls := findClass_of_methodNamed Bd.named
  have hnm := (name_of_methodNamed Bd.named Bd.method).1
  have X0 : Stand p l e ({ frames := 0, cells := 0, slots := 0, locals := 0 } : Room) s m #[(.ref xa), (.int (46 : Int32)), (.int f'), (.int e')] below meth c s₁ [] 0 0 := Stand.of_body Bd
  have e0 : s₁.heap = h0 := by rw [← hh, Bd.state]; rfl
  have N0 := Fr.nil n0
  show own_G p e below s (own_Q24 Z xa f' e' xs f h0 n0) ({ frames := 0, cells := 0, slots := 0, locals := 0 } : Room).cells ({ frames := 0, cells := 0, slots := 0, locals := 0 } : Room).slots s₁ (entryFrame m #[(.ref xa), (.int (46 : Int32)), (.int f'), (.int e')] 6)
  rw [own_rm24_ef]
  refine own_w (T' := s₁) (g' := (mkF m 1 #[.val (.ref xa), .val (.int (46 : Int32)), .val (.int f'), .val (.int e'), .unset, .unset] [(.int (46 : Int32))])) (fun _ k_ => XS.iloadN X0.here hx rfl (hb hby own_d24_0) rfl k_) ?_
  refine own_w (T' := s₁) (g' := (mkF m 2 #[.val (.ref xa), .val (.int (46 : Int32)), .val (.int f'), .val (.int e'), .unset, .unset] [(.int (46 : Int32))])) (fun _ k_ => XS.i2b X0.here hx rfl (hb hby own_d24_1) rfl k_) ?_
  refine own_w (T' := s₁) (g' := (mkF m 4 #[.val (.ref xa), .val (.int (46 : Int32)), .val (.int f'), .val (.int e'), .val (.int (46 : Int32)), .unset] [])) (fun _ k_ => XS.istore X0.here hx rfl (hb hby own_d24_2) rfl (l' := #[.val (.ref xa), .val (.int (46 : Int32)), .val (.int f'), .val (.int e'), .val (.int (46 : Int32)), .unset]) rfl k_) ?_
  refine own_w (T' := s₁) (g' := (mkF m 5 #[.val (.ref xa), .val (.int (46 : Int32)), .val (.int f'), .val (.int e'), .val (.int (46 : Int32)), .unset] [(.int f')])) (fun _ k_ => XS.iloadN X0.here hx rfl (hb hby own_d24_4) rfl k_) ?_
  refine own_w (T' := s₁) (g' := (mkF m 7 #[.val (.ref xa), .val (.int (46 : Int32)), .val (.int f'), .val (.int e'), .val (.int (46 : Int32)), .val (.int f')] [])) (fun _ k_ => XS.istore X0.here hx rfl (hb hby own_d24_5) rfl (l' := #[.val (.ref xa), .val (.int (46 : Int32)), .val (.int f'), .val (.int e'), .val (.int (46 : Int32)), .val (.int f')]) rfl k_) ?_
  have loop : ∀ (fu : Nat) (TJ : State) (LJ : List Loc) (XJ : Stand p l e ({ frames := 0, cells := 0, slots := 0, locals := 0 } : Room) s m #[(.ref xa), (.int (46 : Int32)), (.int f'), (.int e')] below meth c TJ LJ 0 0) (eJ : TJ.heap = h0) (NJ : Fr n0 LJ) (i' : Int32) (i : Nat) (hi : i'.toInt = (i : Int)) (hfu : xs.length = i + fu) (hq : own_fd xs fu i = own_io xs f), own_G p e below s (own_Q24 Z xa f' e' xs f h0 n0) ({ frames := 0, cells := 0, slots := 0, locals := 0 } : Room).cells ({ frames := 0, cells := 0, slots := 0, locals := 0 } : Room).slots TJ (mkF m 7 #[.val (.ref xa), .val (.int (46 : Int32)), .val (.int f'), .val (.int e'), .val (.int (46 : Int32)), .val (.int i')] []) := by
    intro fu
    induction fu with
    | zero =>
      intro TJ LJ XJ eJ NJ i' i hi hfu hq
      refine own_w (T' := TJ) (g' := (mkF m 9 #[.val (.ref xa), .val (.int (46 : Int32)), .val (.int f'), .val (.int e'), .val (.int (46 : Int32)), .val (.int i')] [(.int i')])) (fun _ k_ => XS.iload XJ.here hx rfl (hb hby own_d24_7) rfl k_) ?_
      refine own_w (T' := TJ) (g' := (mkF m 10 #[.val (.ref xa), .val (.int (46 : Int32)), .val (.int f'), .val (.int e'), .val (.int (46 : Int32)), .val (.int i')] [(.int e'), (.int i')])) (fun _ k_ => XS.iloadN XJ.here hx rfl (hb hby own_d24_9) rfl k_) ?_
      refine own_w (T' := TJ) (g' := (mkF m 31 #[.val (.ref xa), .val (.int (46 : Int32)), .val (.int f'), .val (.int e'), .val (.int (46 : Int32)), .val (.int i')] [])) (fun _ k_ => XS.icmpYes XJ.here hx rfl (pc0 := 10) (pc' := 31) rfl (hb hby own_d24_10) rfl (flt (fun q => by have q := (own_lti hi he).mp q; omega)).2.1 (by decide) (by decide) k_) ?_
      refine own_w (T' := TJ) (g' := (mkF m 32 #[.val (.ref xa), .val (.int (46 : Int32)), .val (.int f'), .val (.int e'), .val (.int (46 : Int32)), .val (.int i')] [(.int (-1 : Int32))])) (fun _ k_ => XS.iconst XJ.here hx rfl (hb hby own_d24_31) k_) ?_
      obtain ⟨fs, hr, hrun, hended, hW, hsame⟩ := XJ.leave (v := some (.int (-1 : Int32))) (fun h => by rw [Bd.returns] at h; cases h)
      exact ⟨_, _, retOut XJ hx Bd.returns rfl (Or.inl ⟨rfl, Or.inl rfl, _, rfl⟩) (hb hby own_d24_32) hr, hrun, hended, _, _, rfl, (by show own_Q24 Z xa f' e' xs f h0 n0 _ TJ.heap _; rw [eJ]; exact ⟨(by rw [← hq]; rfl), NJ, rfl⟩), ⟨_, rfl⟩, hW, hsame.mono (by decide) (by decide)⟩
    | succ fu ih =>
      intro TJ LJ XJ eJ NJ i' i hi hfu hq
      refine own_w (T' := TJ) (g' := (mkF m 9 #[.val (.ref xa), .val (.int (46 : Int32)), .val (.int f'), .val (.int e'), .val (.int (46 : Int32)), .val (.int i')] [(.int i')])) (fun _ k_ => XS.iload XJ.here hx rfl (hb hby own_d24_7) rfl k_) ?_
      refine own_w (T' := TJ) (g' := (mkF m 10 #[.val (.ref xa), .val (.int (46 : Int32)), .val (.int f'), .val (.int e'), .val (.int (46 : Int32)), .val (.int i')] [(.int e'), (.int i')])) (fun _ k_ => XS.iloadN XJ.here hx rfl (hb hby own_d24_9) rfl k_) ?_
      refine own_w (T' := TJ) (g' := (mkF m 13 #[.val (.ref xa), .val (.int (46 : Int32)), .val (.int f'), .val (.int e'), .val (.int (46 : Int32)), .val (.int i')] [])) (fun _ k_ => XS.icmpNo XJ.here hx rfl (hb hby own_d24_10) rfl (tlt ((own_lti hi he).mpr (by omega))).2.1 k_) ?_
      obtain ⟨x, hx'⟩ : ∃ x, xs[i]? = some x := ⟨_, List.getElem?_eq_getElem (by omega)⟩
      refine own_w (T' := TJ) (g' := (mkF m 14 #[.val (.ref xa), .val (.int (46 : Int32)), .val (.int f'), .val (.int e'), .val (.int (46 : Int32)), .val (.int i')] [(.ref xa)])) (fun _ k_ => XS.aloadN XJ.here hx rfl (hb hby own_d24_13) rfl rfl k_) ?_
      refine own_w (T' := TJ) (g' := (mkF m 16 #[.val (.ref xa), .val (.int (46 : Int32)), .val (.int f'), .val (.int e'), .val (.int (46 : Int32)), .val (.int i')] [(.int i'), (.ref xa)])) (fun _ k_ => XS.iload XJ.here hx rfl (hb hby own_d24_14) rfl k_) ?_
      obtain ⟨cl1, Ar1, hs1⟩ := id Aa
      refine own_w (T' := TJ) (g' := (mkF m 17 #[.val (.ref xa), .val (.int (46 : Int32)), .val (.int f'), .val (.int e'), .val (.int (46 : Int32)), .val (.int i')] [(.int x)])) (fun t_ k_ => XJ.baloadBytes hx (j := i') (v := .int x) (by rw [eJ]; exact Ar1.1) (State.isArrayOf_alike hZ.alike Ar1.2.1) Ar1.2.2 (own_Ar_in hs1 hi (own_get_lt (show _ = some x from hx'))) (own_Ar_at hs1 hi (show _ = some x from hx')) (g := (mkF m 16 #[.val (.ref xa), .val (.int (46 : Int32)), .val (.int f'), .val (.int e'), .val (.int (46 : Int32)), .val (.int i')] [(.int i'), (.ref xa)])) rfl rfl (hb hby own_d24_16) t_ k_) ?_
      refine own_w (T' := TJ) (g' := (mkF m 19 #[.val (.ref xa), .val (.int (46 : Int32)), .val (.int f'), .val (.int e'), .val (.int (46 : Int32)), .val (.int i')] [(.int (46 : Int32)), (.int x)])) (fun _ k_ => XS.iload XJ.here hx rfl (hb hby own_d24_17) rfl k_) ?_
      by_cases hc19 : x = (46 : Int32)
      · refine own_w (T' := TJ) (g' := (mkF m 22 #[.val (.ref xa), .val (.int (46 : Int32)), .val (.int f'), .val (.int e'), .val (.int (46 : Int32)), .val (.int i')] [])) (fun _ k_ => XS.icmpNo XJ.here hx rfl (hb hby own_d24_19) rfl (teq hc19).2 k_) ?_
        refine own_w (T' := TJ) (g' := (mkF m 24 #[.val (.ref xa), .val (.int (46 : Int32)), .val (.int f'), .val (.int e'), .val (.int (46 : Int32)), .val (.int i')] [(.int i')])) (fun _ k_ => XS.iload XJ.here hx rfl (hb hby own_d24_22) rfl k_) ?_
        obtain ⟨fs, hr, hrun, hended, hW, hsame⟩ := XJ.leave (v := some (.int i')) (fun h => by rw [Bd.returns] at h; cases h)
        exact ⟨_, _, retOut XJ hx Bd.returns rfl (Or.inl ⟨rfl, Or.inl rfl, _, rfl⟩) (hb hby own_d24_24) hr, hrun, hended, _, _, rfl, (by show own_Q24 Z xa f' e' xs f h0 n0 _ TJ.heap _; rw [eJ]; exact ⟨(by rw [← hq, own_fd_hit hx' hc19, own_ii hi (by omega)]), NJ, rfl⟩), ⟨_, rfl⟩, hW, hsame.mono (by decide) (by decide)⟩
      · refine own_w (T' := TJ) (g' := (mkF m 25 #[.val (.ref xa), .val (.int (46 : Int32)), .val (.int f'), .val (.int e'), .val (.int (46 : Int32)), .val (.int i')] [])) (fun _ k_ => XS.icmpYes XJ.here hx rfl (pc0 := 19) (pc' := 25) rfl (hb hby own_d24_19) rfl (feq hc19).2 (by decide) (by decide) k_) ?_
        refine own_w (T' := TJ) (g' := (mkF m 28 #[.val (.ref xa), .val (.int (46 : Int32)), .val (.int f'), .val (.int e'), .val (.int (46 : Int32)), .val (.int (i' + (1 : Int32)))] [])) (fun _ k_ => XS.iinc XJ.here hx rfl (hb hby own_d24_25) rfl (l' := #[.val (.ref xa), .val (.int (46 : Int32)), .val (.int f'), .val (.int e'), .val (.int (46 : Int32)), .val (.int (i' + (1 : Int32)))]) rfl k_) ?_
        refine own_w (T' := TJ) (g' := (mkF m 7 #[.val (.ref xa), .val (.int (46 : Int32)), .val (.int f'), .val (.int e'), .val (.int (46 : Int32)), .val (.int (i' + (1 : Int32)))] [])) (fun _ k_ => XS.goto XJ.here hx rfl (pc0 := 28) (pc' := 7) rfl (hb hby own_d24_28) (by decide) (by decide) k_) ?_
        exact ih _ _ XJ eJ NJ _ (i + 1) (own_n1 hi (by omega)) (by omega) ((own_fd_miss hx' hc19).symm.trans hq)
  exact loop (xs.length - f) _ _ X0 e0 N0 _ f hf (by omega) rfl
theorem own_mx0 {x : Int32} {n : Nat} (h : x.toInt = (n : Int)) : own_mx x 0 = x := if_neg (fun q => by rw [Int32.lt_iff_toInt_lt, h, show (0 : Int32).toInt = 0 from rfl] at q; omega)
theorem own_mns (x : Int32) : own_mn x x = x := if_neg Int32.lt_irrefl
theorem own_io_end {xs : List Int32} {f : Nat} (h : xs.length ≤ f) : own_io xs f = -1 := by
  unfold own_io
  rw [show xs.length - f = 0 by omega]; rfl
theorem own_d20_0 : decode jdk_43_method_22_code 0 = .ok (.iload_n 1, 1) := by decide +kernel
theorem own_d20_1 : decode jdk_43_method_22_code 1 = .ok (.invokestatic 88, 3) := by decide +kernel
theorem own_pd5 : parseMethodDescriptor "(I)Z" = some ⟨[.int], some .boolean⟩ := by decide +kernel
theorem own_d20_4 : decode jdk_43_method_22_code 4 = .ok (.ifCond .ne 5, 3) := by decide +kernel
theorem own_d20_9 : decode jdk_43_method_22_code 9 = .ok (.iload_n 2, 1) := by decide +kernel
theorem own_d20_10 : decode jdk_43_method_22_code 10 = .ok (.iconst 0, 1) := by decide +kernel
theorem own_d20_11 : decode jdk_43_method_22_code 11 = .ok (.invokestatic 92, 3) := by decide +kernel
theorem own_pd6 : parseMethodDescriptor "(II)I" = some ⟨[.int, .int], some .int⟩ := by decide +kernel
theorem own_d20_14 : decode jdk_43_method_22_code 14 = .ok (.istore_n 2, 1) := by decide +kernel
theorem own_d20_15 : decode jdk_43_method_22_code 15 = .ok (.iload_n 3, 1) := by decide +kernel
theorem own_d20_16 : decode jdk_43_method_22_code 16 = .ok (.aload_n 0, 1) := by decide +kernel
theorem own_d20_17 : decode jdk_43_method_22_code 17 = .ok (.arraylength, 1) := by decide +kernel
theorem own_d20_18 : decode jdk_43_method_22_code 18 = .ok (.invokestatic 38, 3) := by decide +kernel
theorem own_d20_21 : decode jdk_43_method_22_code 21 = .ok (.istore_n 3, 1) := by decide +kernel
theorem own_d20_22 : decode jdk_43_method_22_code 22 = .ok (.iload_n 2, 1) := by decide +kernel
theorem own_d20_23 : decode jdk_43_method_22_code 23 = .ok (.iload_n 3, 1) := by decide +kernel
theorem own_d20_24 : decode jdk_43_method_22_code 24 = .ok (.if_icmp .lt 5, 3) := by decide +kernel
theorem own_d20_29 : decode jdk_43_method_22_code 29 = .ok (.aload_n 0, 1) := by decide +kernel
theorem own_d20_30 : decode jdk_43_method_22_code 30 = .ok (.iload_n 1, 1) := by decide +kernel
theorem own_d20_31 : decode jdk_43_method_22_code 31 = .ok (.iload_n 2, 1) := by decide +kernel
theorem own_d20_32 : decode jdk_43_method_22_code 32 = .ok (.iload_n 3, 1) := by decide +kernel
theorem own_d20_33 : decode jdk_43_method_22_code 33 = .ok (.invokestatic 95, 3) := by decide +kernel
theorem own_pd7 : parseMethodDescriptor "([BIII)I" = some ⟨[(.array .byte), .int, .int, .int], some .int⟩ := by decide +kernel
theorem own_d20_36 : decode jdk_43_method_22_code 36 = .ok (.ireturn, 1) := by decide +kernel
theorem own_d20_27 : decode jdk_43_method_22_code 27 = .ok (.iconst (-1), 1) := by decide +kernel
theorem own_d20_28 : decode jdk_43_method_22_code 28 = .ok (.ireturn, 1) := by decide +kernel
theorem own_rm20_ef (m : MethodId) (xa : Addr) (f' : Int32) (e' : Int32) : entryFrame m #[(.ref xa), (.int (46 : Int32)), (.int f'), (.int e')] 4 = mkF m 0 #[.val (.ref xa), .val (.int (46 : Int32)), .val (.int f'), .val (.int e')] [] := by first | (simp [entryFrame, mkF, argsToLocals, Value.category]; done) | rfl
def own_Q20 (Z : State) (xa : Addr) (f' : Int32) (e' : Int32) (xs : List Int32) (f : Nat) (h0 : Heap) (n0 : Nat) (v_ : Option Value) (h : Heap) (L_ : List Loc) : Prop := v_ = some (.int (own_io xs f)) ∧ Fr n0 L_ ∧ (h = h0)
set_option maxRecDepth 65536 in
set_option maxHeartbeats 40000000 in
theorem own_rm20 (l : Launch) (Z : State) (a0 : Array Value) (hw : ∀ d ∈ tables_1, d.before a0 Z = true) (ws : List Jvm.Cond) (xa : Addr) (f' : Int32) (e' : Int32) (xs : List Int32) (f : Nat) (h0 : Heap) (n0 : Nat) (Z0 : n0 ≤ h0.size) (Aa : own_Ar Z h0 xa .byte xs) (lx : xs.length < 1000) (hf : f'.toInt = (f : Int)) (he : e' = xs.length.toInt32) :
    MetFree l (⟨"java/lang/StringLatin1", "indexOf", "([BIII)I"⟩ : MethodName) (head1 (Jvm.Cond.code (⟨"java/lang/StringLatin1", "indexOf", "([BIII)I"⟩ : MethodName) jdk_43_method_22_code 4 (some .int) :: ws) ({ frames := 1, cells := 0, slots := 0, locals := 17 } : Room)) (fun a_ U_ => a_ = #[(.ref xa), (.int (46 : Int32)), (.int f'), (.int e')] ∧ Z.Warmed39 U_.vm ∧ U_.heap = h0) (fun _ _ _ _ _ => True) (fun _ U_ o_ V_ => ∃ v_ L_, o_ = .returned v_ ∧ own_Q20 Z xa f' e' xs f h0 n0 v_ V_.heap L_ ∧ FrameEnd U_ o_ V_ L_ ({ frames := 1, cells := 0, slots := 0, locals := 17 } : Room).cells ({ frames := 1, cells := 0, slots := 0, locals := 17 } : Room).slots) := by
  refine MetFree.of_bodySF (plainFor_of_name own_pn_java_lang_StringLatin1) hisR ?_
  intro p e s m args below meth c s₁ Bd hml0 hP hK
  obtain ⟨rfl, hZ, hh⟩ := hP
  have hx := Bd.exec
  have hby := Bd.bytes
  have hml : c.maxLocals = 4 := hml0
  have hown : s.vm.findClass "java/lang/StringLatin1" = some m.cls := findClass_of_methodNamed Bd.named
  have hnm := (name_of_methodNamed Bd.named Bd.method).1
  have X0 : Stand p l e ({ frames := 1, cells := 0, slots := 0, locals := 17 } : Room) s m #[(.ref xa), (.int (46 : Int32)), (.int f'), (.int e')] below meth c s₁ [] 0 0 := Stand.of_body Bd
  have e0 : s₁.heap = h0 := by rw [← hh, Bd.state]; rfl
  have N0 := Fr.nil n0
  show own_G p e below s (own_Q20 Z xa f' e' xs f h0 n0) ({ frames := 1, cells := 0, slots := 0, locals := 17 } : Room).cells ({ frames := 1, cells := 0, slots := 0, locals := 17 } : Room).slots s₁ (entryFrame m #[(.ref xa), (.int (46 : Int32)), (.int f'), (.int e')] 4)
  rw [own_rm20_ef]
  subst he
  refine own_w (T' := s₁) (g' := (mkF m 1 #[.val (.ref xa), .val (.int (46 : Int32)), .val (.int f'), .val (.int xs.length.toInt32)] [(.int (46 : Int32))])) (fun _ k_ => XS.iloadN X0.here hx rfl (hb hby own_d20_0) rfl k_) ?_
  obtain ⟨_, _, ⟨T1, L1, k1, n1⟩, -, X1, ⟨Lc1, hQ1, l1, y1, z1⟩, st1⟩ := Jvm.LawKit.callS X0 hx (y := (⟨"java/lang/StringLatin1", "canEncode", "(I)Z"⟩ : MethodName)) hown (mvT hZ (hw _ (List.mem_of_getElem? (i := 93) rfl))) (mvT hZ (hw _ (List.mem_of_getElem? (i := 94) rfl))) (mvT hZ (hw _ (List.mem_of_getElem? (i := 74) rfl))) (mvT hZ (hw _ (List.mem_of_getElem? (i := 95) rfl))) (by decide) (backOf (W := 0) (own_rm21 l Z a0 hw []   h0 n0 Z0 ) hZ (hw _ (List.mem_of_getElem? (i := 95) rfl)) (hw _ (List.mem_of_getElem? (i := 74) rfl)) (by decide) (by decide)) (g := (mkF m 1 #[.val (.ref xa), .val (.int (46 : Int32)), .val (.int f'), .val (.int xs.length.toInt32)] [(.int (46 : Int32))])) rfl (by rw [hml]; rfl) (argsL := [(.int (46 : Int32))]) (rest := []) (lenOf own_pd5 rfl) rfl (by show 2 * 0 + _ ≤ _; exact Nat.le_of_eq rfl) (hb hby own_d20_1) (fun _ _ => ⟨rfl, e0, (by decide : 0 + 0 ≤ _), (by decide : 0 + 0 ≤ _)⟩)
  dsimp only [Pt.U, Pt.locs, Pt.cells, Pt.slots] at X1 l1 y1 z1 st1 hQ1
  subst l1 y1 z1
  obtain ⟨rfl, N1q, e1⟩ := hQ1
  have N1 := Fr.app N0 N1q
  refine own_w (T' := T1) (g' := (mkF m 4 #[.val (.ref xa), .val (.int (46 : Int32)), .val (.int f'), .val (.int xs.length.toInt32)] [(.int (1 : Int32))])) st1 ?_
  refine own_w (T' := T1) (g' := (mkF m 9 #[.val (.ref xa), .val (.int (46 : Int32)), .val (.int f'), .val (.int xs.length.toInt32)] [])) (fun _ k_ => XS.ifYes X1.here hx rfl (pc0 := 4) (pc' := 9) rfl (hb hby own_d20_4) rfl ((if0 _ _).trans (feq (by decide)).2) (by decide) (by decide) k_) ?_
  refine own_w (T' := T1) (g' := (mkF m 10 #[.val (.ref xa), .val (.int (46 : Int32)), .val (.int f'), .val (.int xs.length.toInt32)] [(.int f')])) (fun _ k_ => XS.iloadN X1.here hx rfl (hb hby own_d20_9) rfl k_) ?_
  refine own_w (T' := T1) (g' := (mkF m 11 #[.val (.ref xa), .val (.int (46 : Int32)), .val (.int f'), .val (.int xs.length.toInt32)] [(.int (0 : Int32)), (.int f')])) (fun _ k_ => XS.iconst X1.here hx rfl (hb hby own_d20_10) k_) ?_
  obtain ⟨_, _, ⟨T2, L2, k2, n2⟩, -, X2, ⟨Lc2, hQ2, l2, y2, z2⟩, st2⟩ := Jvm.LawKit.callS X1 hx (y := (⟨"java/lang/Math", "max", "(II)I"⟩ : MethodName)) hown (mvT hZ (hw _ (List.mem_of_getElem? (i := 96) rfl))) (mvT hZ (hw _ (List.mem_of_getElem? (i := 97) rfl))) (mvT hZ (hw _ (List.mem_of_getElem? (i := 98) rfl))) (mvT hZ (hw _ (List.mem_of_getElem? (i := 99) rfl))) (by decide) (backOf (W := 0) (own_rm22 l Z a0 hw [] f' (0 : Int32)  h0 n0 Z0 ) hZ (hw _ (List.mem_of_getElem? (i := 99) rfl)) (hw _ (List.mem_of_getElem? (i := 98) rfl)) (by decide) (by decide)) (g := (mkF m 11 #[.val (.ref xa), .val (.int (46 : Int32)), .val (.int f'), .val (.int xs.length.toInt32)] [(.int (0 : Int32)), (.int f')])) rfl (by rw [hml]; rfl) (argsL := [(.int f'), (.int (0 : Int32))]) (rest := []) (lenOf own_pd6 rfl) rfl (by show 2 * 0 + _ ≤ _; exact Nat.le_of_eq rfl) (hb hby own_d20_11) (fun _ _ => ⟨rfl, e1, (by decide : 0 + 0 ≤ _), (by decide : 0 + 0 ≤ _)⟩)
  dsimp only [Pt.U, Pt.locs, Pt.cells, Pt.slots] at X2 l2 y2 z2 st2 hQ2
  subst l2 y2 z2
  obtain ⟨rfl, N2q, e2⟩ := hQ2
  have N2 := Fr.app N1 N2q
  refine own_w (T' := T2) (g' := (mkF m 14 #[.val (.ref xa), .val (.int (46 : Int32)), .val (.int f'), .val (.int xs.length.toInt32)] [(.int (own_mx f' (0 : Int32)))])) st2 ?_
  rw [own_mx0 hf]
  refine own_w (T' := T2) (g' := (mkF m 15 #[.val (.ref xa), .val (.int (46 : Int32)), .val (.int f'), .val (.int xs.length.toInt32)] [])) (fun _ k_ => XS.istoreN X2.here hx rfl (hb hby own_d20_14) rfl (l' := #[.val (.ref xa), .val (.int (46 : Int32)), .val (.int f'), .val (.int xs.length.toInt32)]) rfl k_) ?_
  refine own_w (T' := T2) (g' := (mkF m 16 #[.val (.ref xa), .val (.int (46 : Int32)), .val (.int f'), .val (.int xs.length.toInt32)] [(.int xs.length.toInt32)])) (fun _ k_ => XS.iloadN X2.here hx rfl (hb hby own_d20_15) rfl k_) ?_
  refine own_w (T' := T2) (g' := (mkF m 17 #[.val (.ref xa), .val (.int (46 : Int32)), .val (.int f'), .val (.int xs.length.toInt32)] [(.ref xa), (.int xs.length.toInt32)])) (fun _ k_ => XS.aloadN X2.here hx rfl (hb hby own_d20_16) rfl rfl k_) ?_
  obtain ⟨cl3, Ar3, hs3⟩ := id Aa
  have hl3 : cl3.slots.size.toInt32 = xs.length.toInt32 := by rw [hs3]; simp
  refine own_w (T' := T2) (g' := (mkF m 18 #[.val (.ref xa), .val (.int (46 : Int32)), .val (.int f'), .val (.int xs.length.toInt32)] [(.int xs.length.toInt32), (.int xs.length.toInt32)])) (fun t_ k_ => X2.arraylength hx (by rw [e2]; exact Ar3.1) (State.isArrayOf_alike hZ.alike Ar3.2.1) (g := (mkF m 17 #[.val (.ref xa), .val (.int (46 : Int32)), .val (.int f'), .val (.int xs.length.toInt32)] [(.ref xa), (.int xs.length.toInt32)])) rfl rfl (hb hby own_d20_17) t_ (by rw [hl3]; exact k_)) ?_
  obtain ⟨_, _, ⟨T4, L4, k4, n4⟩, -, X4, ⟨Lc4, hQ4, l4, y4, z4⟩, st4⟩ := Jvm.LawKit.callS X2 hx (y := (⟨"java/lang/Math", "min", "(II)I"⟩ : MethodName)) hown (mvT hZ (hw _ (List.mem_of_getElem? (i := 100) rfl))) (mvT hZ (hw _ (List.mem_of_getElem? (i := 101) rfl))) (mvT hZ (hw _ (List.mem_of_getElem? (i := 98) rfl))) (mvT hZ (hw _ (List.mem_of_getElem? (i := 102) rfl))) (by decide) (backOf (W := 0) (own_rm23 l Z a0 hw [] xs.length.toInt32 xs.length.toInt32  h0 n0 Z0 ) hZ (hw _ (List.mem_of_getElem? (i := 102) rfl)) (hw _ (List.mem_of_getElem? (i := 98) rfl)) (by decide) (by decide)) (g := (mkF m 18 #[.val (.ref xa), .val (.int (46 : Int32)), .val (.int f'), .val (.int xs.length.toInt32)] [(.int xs.length.toInt32), (.int xs.length.toInt32)])) rfl (by rw [hml]; rfl) (argsL := [(.int xs.length.toInt32), (.int xs.length.toInt32)]) (rest := []) (lenOf own_pd6 rfl) rfl (by show 2 * 0 + _ ≤ _; exact Nat.le_of_eq rfl) (hb hby own_d20_18) (fun _ _ => ⟨rfl, e2, (by decide : 0 + 0 ≤ _), (by decide : 0 + 0 ≤ _)⟩)
  dsimp only [Pt.U, Pt.locs, Pt.cells, Pt.slots] at X4 l4 y4 z4 st4 hQ4
  subst l4 y4 z4
  obtain ⟨rfl, N4q, e4⟩ := hQ4
  have N4 := Fr.app N2 N4q
  refine own_w (T' := T4) (g' := (mkF m 21 #[.val (.ref xa), .val (.int (46 : Int32)), .val (.int f'), .val (.int xs.length.toInt32)] [(.int (own_mn xs.length.toInt32 xs.length.toInt32))])) st4 ?_
  rw [own_mns]
  refine own_w (T' := T4) (g' := (mkF m 22 #[.val (.ref xa), .val (.int (46 : Int32)), .val (.int f'), .val (.int xs.length.toInt32)] [])) (fun _ k_ => XS.istoreN X4.here hx rfl (hb hby own_d20_21) rfl (l' := #[.val (.ref xa), .val (.int (46 : Int32)), .val (.int f'), .val (.int xs.length.toInt32)]) rfl k_) ?_
  refine own_w (T' := T4) (g' := (mkF m 23 #[.val (.ref xa), .val (.int (46 : Int32)), .val (.int f'), .val (.int xs.length.toInt32)] [(.int f')])) (fun _ k_ => XS.iloadN X4.here hx rfl (hb hby own_d20_22) rfl k_) ?_
  refine own_w (T' := T4) (g' := (mkF m 24 #[.val (.ref xa), .val (.int (46 : Int32)), .val (.int f'), .val (.int xs.length.toInt32)] [(.int xs.length.toInt32), (.int f')])) (fun _ k_ => XS.iloadN X4.here hx rfl (hb hby own_d20_23) rfl k_) ?_
  by_cases hc24 : f' < xs.length.toInt32
  · refine own_w (T' := T4) (g' := (mkF m 29 #[.val (.ref xa), .val (.int (46 : Int32)), .val (.int f'), .val (.int xs.length.toInt32)] [])) (fun _ k_ => XS.icmpYes X4.here hx rfl (pc0 := 24) (pc' := 29) rfl (hb hby own_d20_24) rfl (tlt hc24).1 (by decide) (by decide) k_) ?_
    refine own_w (T' := T4) (g' := (mkF m 30 #[.val (.ref xa), .val (.int (46 : Int32)), .val (.int f'), .val (.int xs.length.toInt32)] [(.ref xa)])) (fun _ k_ => XS.aloadN X4.here hx rfl (hb hby own_d20_29) rfl rfl k_) ?_
    refine own_w (T' := T4) (g' := (mkF m 31 #[.val (.ref xa), .val (.int (46 : Int32)), .val (.int f'), .val (.int xs.length.toInt32)] [(.int (46 : Int32)), (.ref xa)])) (fun _ k_ => XS.iloadN X4.here hx rfl (hb hby own_d20_30) rfl k_) ?_
    refine own_w (T' := T4) (g' := (mkF m 32 #[.val (.ref xa), .val (.int (46 : Int32)), .val (.int f'), .val (.int xs.length.toInt32)] [(.int f'), (.int (46 : Int32)), (.ref xa)])) (fun _ k_ => XS.iloadN X4.here hx rfl (hb hby own_d20_31) rfl k_) ?_
    refine own_w (T' := T4) (g' := (mkF m 33 #[.val (.ref xa), .val (.int (46 : Int32)), .val (.int f'), .val (.int xs.length.toInt32)] [(.int xs.length.toInt32), (.int f'), (.int (46 : Int32)), (.ref xa)])) (fun _ k_ => XS.iloadN X4.here hx rfl (hb hby own_d20_32) rfl k_) ?_
    obtain ⟨_, _, ⟨T5, L5, k5, n5⟩, -, X5, ⟨Lc5, hQ5, l5, y5, z5⟩, st5⟩ := Jvm.LawKit.callS X4 hx (y := (⟨"java/lang/StringLatin1", "indexOfChar", "([BIII)I"⟩ : MethodName)) hown (mvT hZ (hw _ (List.mem_of_getElem? (i := 103) rfl))) (mvT hZ (hw _ (List.mem_of_getElem? (i := 104) rfl))) (mvT hZ (hw _ (List.mem_of_getElem? (i := 74) rfl))) (mvT hZ (hw _ (List.mem_of_getElem? (i := 105) rfl))) (by decide) (backOf (W := 0) (own_rm24 l Z a0 hw [] xa f' xs.length.toInt32 xs f h0 n0 Z0 Aa lx hf (own_i32 lx) (by have q := (own_lti hf (own_i32 lx)).mp hc24; omega)) hZ (hw _ (List.mem_of_getElem? (i := 105) rfl)) (hw _ (List.mem_of_getElem? (i := 74) rfl)) (by decide) (by decide)) (g := (mkF m 33 #[.val (.ref xa), .val (.int (46 : Int32)), .val (.int f'), .val (.int xs.length.toInt32)] [(.int xs.length.toInt32), (.int f'), (.int (46 : Int32)), (.ref xa)])) rfl (by rw [hml]; rfl) (argsL := [(.ref xa), (.int (46 : Int32)), (.int f'), (.int xs.length.toInt32)]) (rest := []) (lenOf own_pd7 rfl) rfl (by show 2 * 0 + _ ≤ _; exact Nat.le_of_eq rfl) (hb hby own_d20_33) (fun _ _ => ⟨rfl, e4, (by decide : 0 + 0 ≤ _), (by decide : 0 + 0 ≤ _)⟩)
    dsimp only [Pt.U, Pt.locs, Pt.cells, Pt.slots] at X5 l5 y5 z5 st5 hQ5
    subst l5 y5 z5
    obtain ⟨rfl, N5q, e5⟩ := hQ5
    have N5 := Fr.app N4 N5q
    refine own_w (T' := T5) (g' := (mkF m 36 #[.val (.ref xa), .val (.int (46 : Int32)), .val (.int f'), .val (.int xs.length.toInt32)] [(.int (own_io xs f))])) st5 ?_
    obtain ⟨fs, hr, hrun, hended, hW, hsame⟩ := X5.leave (v := some (.int (own_io xs f))) (fun h => by rw [Bd.returns] at h; cases h)
    exact ⟨_, _, retOut X5 hx Bd.returns rfl (Or.inl ⟨rfl, Or.inl rfl, _, rfl⟩) (hb hby own_d20_36) hr, hrun, hended, _, _, rfl, (by show own_Q20 Z xa f' xs.length.toInt32 xs f h0 n0 _ T5.heap _; rw [e5]; exact ⟨rfl, N5, rfl⟩), ⟨_, rfl⟩, hW, hsame.mono (by decide) (by decide)⟩
  · refine own_w (T' := T4) (g' := (mkF m 27 #[.val (.ref xa), .val (.int (46 : Int32)), .val (.int f'), .val (.int xs.length.toInt32)] [])) (fun _ k_ => XS.icmpNo X4.here hx rfl (hb hby own_d20_24) rfl (flt hc24).1 k_) ?_
    refine own_w (T' := T4) (g' := (mkF m 28 #[.val (.ref xa), .val (.int (46 : Int32)), .val (.int f'), .val (.int xs.length.toInt32)] [(.int (-1 : Int32))])) (fun _ k_ => XS.iconst X4.here hx rfl (hb hby own_d20_27) k_) ?_
    obtain ⟨fs, hr, hrun, hended, hW, hsame⟩ := X4.leave (v := some (.int (-1 : Int32))) (fun h => by rw [Bd.returns] at h; cases h)
    exact ⟨_, _, retOut X4 hx Bd.returns rfl (Or.inl ⟨rfl, Or.inl rfl, _, rfl⟩) (hb hby own_d20_28) hr, hrun, hended, _, _, rfl, (by show own_Q20 Z xa f' xs.length.toInt32 xs f h0 n0 _ T4.heap _; rw [e4]; exact ⟨(by rw [own_io_end (by have q := mt (own_lti hf (own_i32 lx)).mpr hc24; omega)]), N4, rfl⟩), ⟨_, rfl⟩, hW, hsame.mono (by decide) (by decide)⟩
theorem own_d19_0 : decode jdk_42_method_80_code 0 = .ok (.aload_n 0, 1) := by decide +kernel
theorem own_d19_1 : decode jdk_42_method_80_code 1 = .ok (.invokevirtual 492, 3) := by decide +kernel
theorem own_d19_4 : decode jdk_42_method_80_code 4 = .ok (.ifCond .eq 19, 3) := by decide +kernel
theorem own_d19_7 : decode jdk_42_method_80_code 7 = .ok (.aload_n 0, 1) := by decide +kernel
theorem own_d19_8 : decode jdk_42_method_80_code 8 = .ok (.getfield 9, 3) := by decide +kernel
theorem own_d19_11 : decode jdk_42_method_80_code 11 = .ok (.iload_n 1, 1) := by decide +kernel
theorem own_d19_12 : decode jdk_42_method_80_code 12 = .ok (.iload_n 2, 1) := by decide +kernel
theorem own_d19_13 : decode jdk_42_method_80_code 13 = .ok (.aload_n 0, 1) := by decide +kernel
theorem own_d19_14 : decode jdk_42_method_80_code 14 = .ok (.invokevirtual 505, 3) := by decide +kernel
theorem own_pd8 : parseMethodDescriptor "()I" = some ⟨[], some .int⟩ := by decide +kernel
theorem own_d19_17 : decode jdk_42_method_80_code 17 = .ok (.invokestatic 637, 3) := by decide +kernel
theorem own_d19_20 : decode jdk_42_method_80_code 20 = .ok (.goto 16, 3) := by decide +kernel
theorem own_d19_36 : decode jdk_42_method_80_code 36 = .ok (.ireturn, 1) := by decide +kernel
theorem own_rm19_ef (m : MethodId) (a : Addr) (f' : Int32) : entryFrame m #[(.ref a), (.int (46 : Int32)), (.int f')] 3 = mkF m 0 #[.val (.ref a), .val (.int (46 : Int32)), .val (.int f')] [] := by first | (simp [entryFrame, mkF, argsToLocals, Value.category]; done) | rfl
def own_Q19 (Z : State) (a : Addr) (f' : Int32) (xs : List Int32) (cs : Int32) (f : Nat) (h0 : Heap) (n0 : Nat) (v_ : Option Value) (h : Heap) (L_ : List Loc) : Prop := v_ = some (.int (own_io xs f)) ∧ Fr n0 L_ ∧ (h = h0)
set_option maxRecDepth 65536 in
set_option maxHeartbeats 40000000 in
theorem own_rm19 (l : Launch) (Z : State) (a0 : Array Value) (hw : ∀ d ∈ tables_1, d.before a0 Z = true) (ws : List Jvm.Cond) (a : Addr) (f' : Int32) (xs : List Int32) (cs : Int32) (f : Nat) (h0 : Heap) (n0 : Nat) (Z0 : n0 ≤ h0.size) (Sa : own_Str Z h0 a xs) (lx : xs.length < 1000) (hcs : ¬ cs = (0 : Int32)) (S : Sta Z h0 "java/lang/String" "COMPACT_STRINGS" "Z" (.int cs)) (hf : f'.toInt = (f : Int)) :
    MetFree l (⟨"java/lang/String", "indexOf", "(II)I"⟩ : MethodName) (head1 (Jvm.Cond.code (⟨"java/lang/String", "indexOf", "(II)I"⟩ : MethodName) jdk_42_method_80_code 3 (some .int) :: ws) ({ frames := 2, cells := 0, slots := 0, locals := 32 } : Room)) (fun a_ U_ => a_ = #[(.ref a), (.int (46 : Int32)), (.int f')] ∧ Z.Warmed39 U_.vm ∧ U_.heap = h0) (fun _ _ _ _ _ => True) (fun _ U_ o_ V_ => ∃ v_ L_, o_ = .returned v_ ∧ own_Q19 Z a f' xs cs f h0 n0 v_ V_.heap L_ ∧ FrameEnd U_ o_ V_ L_ ({ frames := 2, cells := 0, slots := 0, locals := 32 } : Room).cells ({ frames := 2, cells := 0, slots := 0, locals := 32 } : Room).slots) := by
  refine MetFree.of_bodySF (plainFor_of_name own_pn_java_lang_String) hisR ?_
  intro p e s m args below meth c s₁ Bd hml0 hP hK
  obtain ⟨rfl, hZ, hh⟩ := hP
  have hx := Bd.exec
  have hby := Bd.bytes
  have hml : c.maxLocals = 3 := hml0
  have hown : s.vm.findClass "java/lang/String" = some m.cls := findClass_of_methodNamed Bd.named
  have hnm := (name_of_methodNamed Bd.named Bd.method).1
  have X0 : Stand p l e ({ frames := 2, cells := 0, slots := 0, locals := 32 } : Room) s m #[(.ref a), (.int (46 : Int32)), (.int f')] below meth c s₁ [] 0 0 := Stand.of_body Bd
  have e0 : s₁.heap = h0 := by rw [← hh, Bd.state]; rfl
  have N0 := Fr.nil n0
  show own_G p e below s (own_Q19 Z a f' xs cs f h0 n0) ({ frames := 2, cells := 0, slots := 0, locals := 32 } : Room).cells ({ frames := 2, cells := 0, slots := 0, locals := 32 } : Room).slots s₁ (entryFrame m #[(.ref a), (.int (46 : Int32)), (.int f')] 3)
  rw [own_rm19_ef]
  obtain ⟨Ea, Ca, xa, Fa, Aa⟩ := id Sa
  refine own_w (T' := s₁) (g' := (mkF m 1 #[.val (.ref a), .val (.int (46 : Int32)), .val (.int f')] [(.ref a)])) (fun _ k_ => XS.aloadN X0.here hx rfl (hb hby own_d19_0) rfl rfl k_) ?_
  obtain ⟨cq1, kq1, q1a, q1b, q1c⟩ := isOf hZ e0 Ea
  obtain ⟨_, _, ⟨T1, L1, k1, n1⟩, -, X1, ⟨Lc1, hQ1, l1, y1, z1⟩, st1⟩ := X0.virtualBack hx (y := (⟨"java/lang/String", "isLatin1", "()Z"⟩ : MethodName)) (z := (⟨"java/lang/String", "isLatin1", "()Z"⟩ : MethodName)) hown (mvT hZ (hw _ (List.mem_of_getElem? (i := 67) rfl))) (mvT hZ (hw _ (List.mem_of_getElem? (i := 68) rfl))) (notFace_of_selects (args := #[]) (mvT hZ (hw _ (List.mem_of_getElem? (i := 70) rfl)))) (mvT hZ (hw _ (List.mem_of_getElem? (i := 70) rfl))) (mvT hZ (hw _ (List.mem_of_getElem? (i := 69) rfl))) (by decide) (backOf (W := 0) (own_rm15 l Z a0 hw [] a xs cs h0 n0 Z0 Sa lx hcs S) hZ (hw _ (List.mem_of_getElem? (i := 71) rfl)) (hw _ (List.mem_of_getElem? (i := 11) rfl)) (by decide) (by decide)) q1a q1c (g := (mkF m 1 #[.val (.ref a), .val (.int (46 : Int32)), .val (.int f')] [(.ref a)])) rfl (by rw [hml]; rfl) (Steps.refl _) (argsL := []) (rest := []) (lenOf own_pd3 rfl) rfl (by show 2 * 0 + _ ≤ _; exact Nat.le_of_eq rfl) (hb hby own_d19_1) (fun _ _ => ⟨rfl, e0, (by decide : 0 + 0 ≤ _), (by decide : 0 + 0 ≤ _)⟩)
  dsimp only [Pt.U, Pt.locs, Pt.cells, Pt.slots] at X1 l1 y1 z1 st1 hQ1
  subst l1 y1 z1
  obtain ⟨rfl, N1q, e1⟩ := hQ1
  have N1 := Fr.app N0 N1q
  refine own_t (T' := T1) (g' := (mkF m 4 #[.val (.ref a), .val (.int (46 : Int32)), .val (.int f')] [(.int (1 : Int32))])) st1 ?_
  refine own_w (T' := T1) (g' := (mkF m 7 #[.val (.ref a), .val (.int (46 : Int32)), .val (.int f')] [])) (fun _ k_ => XS.ifNo X1.here hx rfl (hb hby own_d19_4) rfl ((if0 _ _).trans (feq (by decide)).1) k_) ?_
  refine own_w (T' := T1) (g' := (mkF m 8 #[.val (.ref a), .val (.int (46 : Int32)), .val (.int f')] [(.ref a)])) (fun _ k_ => XS.aloadN X1.here hx rfl (hb hby own_d19_7) rfl rfl k_) ?_
  obtain ⟨T2, X2, e2, st2⟩ := getF X1 hx hZ hown (host := "") (Or.inl (hw _ (List.mem_of_getElem? (i := 36) rfl))) Via.refl e1 Fa (g := (mkF m 8 #[.val (.ref a), .val (.int (46 : Int32)), .val (.int f')] [(.ref a)])) rfl rfl (hb hby own_d19_8)
  refine own_w (T' := T2) (g' := (mkF m 11 #[.val (.ref a), .val (.int (46 : Int32)), .val (.int f')] [(.ref xa)])) st2 ?_
  refine own_w (T' := T2) (g' := (mkF m 12 #[.val (.ref a), .val (.int (46 : Int32)), .val (.int f')] [(.int (46 : Int32)), (.ref xa)])) (fun _ k_ => XS.iloadN X2.here hx rfl (hb hby own_d19_11) rfl k_) ?_
  refine own_w (T' := T2) (g' := (mkF m 13 #[.val (.ref a), .val (.int (46 : Int32)), .val (.int f')] [(.int f'), (.int (46 : Int32)), (.ref xa)])) (fun _ k_ => XS.iloadN X2.here hx rfl (hb hby own_d19_12) rfl k_) ?_
  refine own_w (T' := T2) (g' := (mkF m 14 #[.val (.ref a), .val (.int (46 : Int32)), .val (.int f')] [(.ref a), (.int f'), (.int (46 : Int32)), (.ref xa)])) (fun _ k_ => XS.aloadN X2.here hx rfl (hb hby own_d19_13) rfl rfl k_) ?_
  obtain ⟨cq3, kq3, q3a, q3b, q3c⟩ := isOf hZ e2 Ea
  obtain ⟨_, _, ⟨T3, L3, k3, n3⟩, -, X3, ⟨Lc3, hQ3, l3, y3, z3⟩, st3⟩ := X2.virtualBack hx (y := (⟨"java/lang/String", "length", "()I"⟩ : MethodName)) (z := (⟨"java/lang/String", "length", "()I"⟩ : MethodName)) hown (mvT hZ (hw _ (List.mem_of_getElem? (i := 89) rfl))) (mvT hZ (hw _ (List.mem_of_getElem? (i := 53) rfl))) (notFace_of_selects (args := #[]) (mvT hZ (hw _ (List.mem_of_getElem? (i := 55) rfl)))) (mvT hZ (hw _ (List.mem_of_getElem? (i := 55) rfl))) (mvT hZ (hw _ (List.mem_of_getElem? (i := 54) rfl))) (by decide) (backOf (W := 3) (own_rm12 l Z a0 hw [] a xs cs h0 n0 Z0 Sa lx hcs S) hZ (hw _ (List.mem_of_getElem? (i := 56) rfl)) (hw _ (List.mem_of_getElem? (i := 11) rfl)) (by decide) (by decide)) q3a q3c (g := (mkF m 14 #[.val (.ref a), .val (.int (46 : Int32)), .val (.int f')] [(.ref a), (.int f'), (.int (46 : Int32)), (.ref xa)])) rfl (by rw [hml]; rfl) (Steps.refl _) (argsL := []) (rest := [(.int f'), (.int (46 : Int32)), (.ref xa)]) (lenOf own_pd8 rfl) rfl (by show 2 * 0 + _ ≤ _; exact Nat.le_of_eq rfl) (hb hby own_d19_14) (fun _ _ => ⟨rfl, e2, (by decide : 0 + 0 ≤ _), (by decide : 0 + 0 ≤ _)⟩)
  dsimp only [Pt.U, Pt.locs, Pt.cells, Pt.slots] at X3 l3 y3 z3 st3 hQ3
  subst l3 y3 z3
  obtain ⟨rfl, N3q, e3⟩ := hQ3
  have N3 := Fr.app N1 N3q
  refine own_t (T' := T3) (g' := (mkF m 17 #[.val (.ref a), .val (.int (46 : Int32)), .val (.int f')] [(.int xs.length.toInt32), (.int f'), (.int (46 : Int32)), (.ref xa)])) st3 ?_
  obtain ⟨_, _, ⟨T4, L4, k4, n4⟩, -, X4, ⟨Lc4, hQ4, l4, y4, z4⟩, st4⟩ := Jvm.LawKit.callS X3 hx (y := (⟨"java/lang/StringLatin1", "indexOf", "([BIII)I"⟩ : MethodName)) hown (mvT hZ (hw _ (List.mem_of_getElem? (i := 90) rfl))) (mvT hZ (hw _ (List.mem_of_getElem? (i := 91) rfl))) (mvT hZ (hw _ (List.mem_of_getElem? (i := 74) rfl))) (mvT hZ (hw _ (List.mem_of_getElem? (i := 92) rfl))) (by decide) (backOf (W := 0) (own_rm20 l Z a0 hw [] xa f' xs.length.toInt32 xs f h0 n0 Z0 Aa lx hf rfl) hZ (hw _ (List.mem_of_getElem? (i := 92) rfl)) (hw _ (List.mem_of_getElem? (i := 74) rfl)) (by decide) (by decide)) (g := (mkF m 17 #[.val (.ref a), .val (.int (46 : Int32)), .val (.int f')] [(.int xs.length.toInt32), (.int f'), (.int (46 : Int32)), (.ref xa)])) rfl (by rw [hml]; rfl) (argsL := [(.ref xa), (.int (46 : Int32)), (.int f'), (.int xs.length.toInt32)]) (rest := []) (lenOf own_pd7 rfl) rfl (by show 2 * 0 + _ ≤ _; exact Nat.le_of_eq rfl) (hb hby own_d19_17) (fun _ _ => ⟨rfl, e3, (by decide : 0 + 0 ≤ _), (by decide : 0 + 0 ≤ _)⟩)
  dsimp only [Pt.U, Pt.locs, Pt.cells, Pt.slots] at X4 l4 y4 z4 st4 hQ4
  subst l4 y4 z4
  obtain ⟨rfl, N4q, e4⟩ := hQ4
  have N4 := Fr.app N3 N4q
  refine own_w (T' := T4) (g' := (mkF m 20 #[.val (.ref a), .val (.int (46 : Int32)), .val (.int f')] [(.int (own_io xs f))])) st4 ?_
  refine own_w (T' := T4) (g' := (mkF m 36 #[.val (.ref a), .val (.int (46 : Int32)), .val (.int f')] [(.int (own_io xs f))])) (fun _ k_ => XS.goto X4.here hx rfl (pc0 := 20) (pc' := 36) rfl (hb hby own_d19_20) (by decide) (by decide) k_) ?_
  obtain ⟨fs, hr, hrun, hended, hW, hsame⟩ := X4.leave (v := some (.int (own_io xs f))) (fun h => by rw [Bd.returns] at h; cases h)
  exact ⟨_, _, retOut X4 hx Bd.returns rfl (Or.inl ⟨rfl, Or.inl rfl, _, rfl⟩) (hb hby own_d19_36) hr, hrun, hended, _, _, rfl, (by show own_Q19 Z a f' xs cs f h0 n0 _ T4.heap _; rw [e4]; exact ⟨rfl, N4, rfl⟩), ⟨_, rfl⟩, hW, hsame.mono (by decide) (by decide)⟩
theorem own_d31_0 : decode jdk_42_method_79_code 0 = .ok (.aload_n 0, 1) := by decide +kernel
theorem own_d31_1 : decode jdk_42_method_79_code 1 = .ok (.iload_n 1, 1) := by decide +kernel
theorem own_d31_2 : decode jdk_42_method_79_code 2 = .ok (.iconst 0, 1) := by decide +kernel
theorem own_d31_3 : decode jdk_42_method_79_code 3 = .ok (.invokevirtual 633, 3) := by decide +kernel
theorem own_d31_6 : decode jdk_42_method_79_code 6 = .ok (.ireturn, 1) := by decide +kernel
theorem own_rm31_ef (m : MethodId) (a : Addr) : entryFrame m #[(.ref a), (.int (46 : Int32))] 2 = mkF m 0 #[.val (.ref a), .val (.int (46 : Int32))] [] := by first | (simp [entryFrame, mkF, argsToLocals, Value.category]; done) | rfl
def own_Q31 (Z : State) (a : Addr) (xs : List Int32) (cs : Int32) (h0 : Heap) (n0 : Nat) (v_ : Option Value) (h : Heap) (L_ : List Loc) : Prop := v_ = some (.int (own_io xs 0)) ∧ Fr n0 L_ ∧ (h = h0)
set_option maxRecDepth 65536 in
set_option maxHeartbeats 40000000 in
theorem own_rm31 (l : Launch) (Z : State) (a0 : Array Value) (hw : ∀ d ∈ tables_1, d.before a0 Z = true) (ws : List Jvm.Cond) (a : Addr) (xs : List Int32) (cs : Int32) (h0 : Heap) (n0 : Nat) (Z0 : n0 ≤ h0.size) (Sa : own_Str Z h0 a xs) (lx : xs.length < 1000) (hcs : ¬ cs = (0 : Int32)) (S : Sta Z h0 "java/lang/String" "COMPACT_STRINGS" "Z" (.int cs)) :
    MetFree l (⟨"java/lang/String", "indexOf", "(I)I"⟩ : MethodName) (head1 (Jvm.Cond.code (⟨"java/lang/String", "indexOf", "(I)I"⟩ : MethodName) jdk_42_method_79_code 2 (some .int) :: ws) ({ frames := 3, cells := 0, slots := 0, locals := 46 } : Room)) (fun a_ U_ => a_ = #[(.ref a), (.int (46 : Int32))] ∧ Z.Warmed39 U_.vm ∧ U_.heap = h0) (fun _ _ _ _ _ => True) (fun _ U_ o_ V_ => ∃ v_ L_, o_ = .returned v_ ∧ own_Q31 Z a xs cs h0 n0 v_ V_.heap L_ ∧ FrameEnd U_ o_ V_ L_ ({ frames := 3, cells := 0, slots := 0, locals := 46 } : Room).cells ({ frames := 3, cells := 0, slots := 0, locals := 46 } : Room).slots) := by
  refine MetFree.of_bodySF (plainFor_of_name own_pn_java_lang_String) hisR ?_
  intro p e s m args below meth c s₁ Bd hml0 hP hK
  obtain ⟨rfl, hZ, hh⟩ := hP
  have hx := Bd.exec
  have hby := Bd.bytes
  have hml : c.maxLocals = 2 := hml0
  have hown : s.vm.findClass "java/lang/String" = some m.cls := findClass_of_methodNamed Bd.named
  have hnm := (name_of_methodNamed Bd.named Bd.method).1
  have X0 : Stand p l e ({ frames := 3, cells := 0, slots := 0, locals := 46 } : Room) s m #[(.ref a), (.int (46 : Int32))] below meth c s₁ [] 0 0 := Stand.of_body Bd
  have e0 : s₁.heap = h0 := by rw [← hh, Bd.state]; rfl
  have N0 := Fr.nil n0
  show own_G p e below s (own_Q31 Z a xs cs h0 n0) ({ frames := 3, cells := 0, slots := 0, locals := 46 } : Room).cells ({ frames := 3, cells := 0, slots := 0, locals := 46 } : Room).slots s₁ (entryFrame m #[(.ref a), (.int (46 : Int32))] 2)
  rw [own_rm31_ef]
  refine own_w (T' := s₁) (g' := (mkF m 1 #[.val (.ref a), .val (.int (46 : Int32))] [(.ref a)])) (fun _ k_ => XS.aloadN X0.here hx rfl (hb hby own_d31_0) rfl rfl k_) ?_
  refine own_w (T' := s₁) (g' := (mkF m 2 #[.val (.ref a), .val (.int (46 : Int32))] [(.int (46 : Int32)), (.ref a)])) (fun _ k_ => XS.iloadN X0.here hx rfl (hb hby own_d31_1) rfl k_) ?_
  refine own_w (T' := s₁) (g' := (mkF m 3 #[.val (.ref a), .val (.int (46 : Int32))] [(.int (0 : Int32)), (.int (46 : Int32)), (.ref a)])) (fun _ k_ => XS.iconst X0.here hx rfl (hb hby own_d31_2) k_) ?_
  obtain ⟨cq1, kq1, q1a, q1b, q1c⟩ := isOf hZ e0 Sa.1
  obtain ⟨_, _, ⟨T1, L1, k1, n1⟩, -, X1, ⟨Lc1, hQ1, l1, y1, z1⟩, st1⟩ := X0.virtualBack hx (y := (⟨"java/lang/String", "indexOf", "(II)I"⟩ : MethodName)) (z := (⟨"java/lang/String", "indexOf", "(II)I"⟩ : MethodName)) hown (mvT hZ (hw _ (List.mem_of_getElem? (i := 142) rfl))) (mvT hZ (hw _ (List.mem_of_getElem? (i := 85) rfl))) (notFace_of_selects (args := #[]) (mvT hZ (hw _ (List.mem_of_getElem? (i := 87) rfl)))) (mvT hZ (hw _ (List.mem_of_getElem? (i := 87) rfl))) (mvT hZ (hw _ (List.mem_of_getElem? (i := 86) rfl))) (by decide) (backOf (W := 0) (own_rm19 l Z a0 hw [] a (0 : Int32) xs cs 0 h0 n0 Z0 Sa lx hcs S (by decide)) hZ (hw _ (List.mem_of_getElem? (i := 88) rfl)) (hw _ (List.mem_of_getElem? (i := 11) rfl)) (by decide) (by decide)) q1a q1c (g := (mkF m 3 #[.val (.ref a), .val (.int (46 : Int32))] [(.int (0 : Int32)), (.int (46 : Int32)), (.ref a)])) rfl (by rw [hml]; rfl) (Steps.refl _) (argsL := [(.int (46 : Int32)), (.int (0 : Int32))]) (rest := []) (lenOf own_pd6 rfl) rfl (by show 2 * 0 + _ ≤ _; exact Nat.le_of_eq rfl) (hb hby own_d31_3) (fun _ _ => ⟨rfl, e0, (by decide : 0 + 0 ≤ _), (by decide : 0 + 0 ≤ _)⟩)
  dsimp only [Pt.U, Pt.locs, Pt.cells, Pt.slots] at X1 l1 y1 z1 st1 hQ1
  subst l1 y1 z1
  obtain ⟨rfl, N1q, e1⟩ := hQ1
  have N1 := Fr.app N0 N1q
  refine own_t (T' := T1) (g' := (mkF m 6 #[.val (.ref a), .val (.int (46 : Int32))] [(.int (own_io xs 0))])) st1 ?_
  obtain ⟨fs, hr, hrun, hended, hW, hsame⟩ := X1.leave (v := some (.int (own_io xs 0))) (fun h => by rw [Bd.returns] at h; cases h)
  exact ⟨_, _, retOut X1 hx Bd.returns rfl (Or.inl ⟨rfl, Or.inl rfl, _, rfl⟩) (hb hby own_d31_6) hr, hrun, hended, _, _, rfl, (by show own_Q31 Z a xs cs h0 n0 _ T1.heap _; rw [e1]; exact ⟨rfl, N1, rfl⟩), ⟨_, rfl⟩, hW, hsame.mono (by decide) (by decide)⟩
theorem own_d11_0 : decode prog_13_method_14_code 0 = .ok (.iconst 1, 1) := by decide +kernel
theorem own_d11_1 : decode prog_13_method_14_code 1 = .ok (.istore_n 1, 1) := by decide +kernel
theorem own_d11_2 : decode prog_13_method_14_code 2 = .ok (.iconst 0, 1) := by decide +kernel
theorem own_d11_3 : decode prog_13_method_14_code 3 = .ok (.istore_n 2, 1) := by decide +kernel
theorem own_d11_4 : decode prog_13_method_14_code 4 = .ok (.iload_n 2, 1) := by decide +kernel
theorem own_d11_5 : decode prog_13_method_14_code 5 = .ok (.aload_n 0, 1) := by decide +kernel
theorem own_d11_6 : decode prog_13_method_14_code 6 = .ok (.invokevirtual 32, 3) := by decide +kernel
theorem own_d11_9 : decode prog_13_method_14_code 9 = .ok (.if_icmp .ge 22, 3) := by decide +kernel
theorem own_d11_31 : decode prog_13_method_14_code 31 = .ok (.iload_n 1, 1) := by decide +kernel
theorem own_d11_32 : decode prog_13_method_14_code 32 = .ok (.ireturn, 1) := by decide +kernel
theorem own_d11_12 : decode prog_13_method_14_code 12 = .ok (.aload_n 0, 1) := by decide +kernel
theorem own_d11_13 : decode prog_13_method_14_code 13 = .ok (.iload_n 2, 1) := by decide +kernel
theorem own_d11_14 : decode prog_13_method_14_code 14 = .ok (.invokevirtual 73, 3) := by decide +kernel
theorem own_pd9 : parseMethodDescriptor "(I)C" = some ⟨[.int], some .char⟩ := by decide +kernel
theorem own_d11_17 : decode prog_13_method_14_code 17 = .ok (.bipush 46, 2) := by decide +kernel
theorem own_d11_19 : decode prog_13_method_14_code 19 = .ok (.if_icmp .ne 6, 3) := by decide +kernel
theorem own_d11_22 : decode prog_13_method_14_code 22 = .ok (.iinc 1 1, 3) := by decide +kernel
theorem own_d11_25 : decode prog_13_method_14_code 25 = .ok (.iinc 2 1, 3) := by decide +kernel
theorem own_d11_28 : decode prog_13_method_14_code 28 = .ok (.goto (-24), 3) := by decide +kernel
theorem own_pn_com_example_adjacency_adjacency_identity_NodeName : plainName "com/example/adjacency/adjacency/identity/NodeName" = true := by first | (simp [plainName, overriddenIn]; done) | decide +kernel
theorem own_rm11_ef (m : MethodId) (a : Addr) : entryFrame m #[(.ref a)] 3 = mkF m 0 #[.val (.ref a), .unset, .unset] [] := by first | (simp [entryFrame, mkF, argsToLocals, Value.category]; done) | rfl
def own_Q11 (Z : State) (a : Addr) (xs : List Int32) (cs : Int32) (sf : Value) (h0 : Heap) (n0 : Nat) (v_ : Option Value) (h : Heap) (L_ : List Loc) : Prop := v_ = some (.int (own_cl xs)) ∧ Fr n0 L_ ∧ (h = h0)
set_option maxRecDepth 65536 in
set_option maxHeartbeats 40000000 in
theorem own_rm11 (l : Launch) (Z : State) (a0 : Array Value) (hw : ∀ d ∈ tables_1, d.before a0 Z = true) (ws : List Jvm.Cond) (a : Addr) (xs : List Int32) (cs : Int32) (sf : Value) (h0 : Heap) (n0 : Nat) (Z0 : n0 ≤ h0.size) (Sa : own_Str Z h0 a xs) (lx : xs.length < 1000) (hcs : ¬ cs = (0 : Int32)) (S : Sta Z h0 "java/lang/String" "COMPACT_STRINGS" "Z" (.int cs)) (hsf : sf.isRef = true) (SF : Sta Z h0 "jdk/internal/util/Preconditions" "SIOOBE_FORMATTER" "Ljava/util/function/BiFunction;" sf) (hasc : own_asc xs) :
    MetFree l (⟨"com/example/adjacency/adjacency/identity/NodeName", "countLabels", "(Ljava/lang/String;)I"⟩ : MethodName) (head1 (Jvm.Cond.code (⟨"com/example/adjacency/adjacency/identity/NodeName", "countLabels", "(Ljava/lang/String;)I"⟩ : MethodName) prog_13_method_14_code 3 (some .int) :: ws) ({ frames := 4, cells := 0, slots := 0, locals := 53 } : Room)) (fun a_ U_ => a_ = #[(.ref a)] ∧ Z.Warmed39 U_.vm ∧ U_.heap = h0) (fun _ _ _ _ _ => True) (fun _ U_ o_ V_ => ∃ v_ L_, o_ = .returned v_ ∧ own_Q11 Z a xs cs sf h0 n0 v_ V_.heap L_ ∧ FrameEnd U_ o_ V_ L_ ({ frames := 4, cells := 0, slots := 0, locals := 53 } : Room).cells ({ frames := 4, cells := 0, slots := 0, locals := 53 } : Room).slots) := by
  refine MetFree.of_bodySF (plainFor_of_name own_pn_com_example_adjacency_adjacency_identity_NodeName) hisR ?_
  intro p e s m args below meth c s₁ Bd hml0 hP hK
  obtain ⟨rfl, hZ, hh⟩ := hP
  have hx := Bd.exec
  have hby := Bd.bytes
  have hml : c.maxLocals = 3 := hml0
  have hown : s.vm.findClass "com/example/adjacency/adjacency/identity/NodeName" = some m.cls := findClass_of_methodNamed Bd.named
  have hnm := (name_of_methodNamed Bd.named Bd.method).1
  have X0 : Stand p l e ({ frames := 4, cells := 0, slots := 0, locals := 53 } : Room) s m #[(.ref a)] below meth c s₁ [] 0 0 := Stand.of_body Bd
  have e0 : s₁.heap = h0 := by rw [← hh, Bd.state]; rfl
  have N0 := Fr.nil n0
  show own_G p e below s (own_Q11 Z a xs cs sf h0 n0) ({ frames := 4, cells := 0, slots := 0, locals := 53 } : Room).cells ({ frames := 4, cells := 0, slots := 0, locals := 53 } : Room).slots s₁ (entryFrame m #[(.ref a)] 3)
  rw [own_rm11_ef]
  refine own_w (T' := s₁) (g' := (mkF m 1 #[.val (.ref a), .unset, .unset] [(.int (1 : Int32))])) (fun _ k_ => XS.iconst X0.here hx rfl (hb hby own_d11_0) k_) ?_
  refine own_w (T' := s₁) (g' := (mkF m 2 #[.val (.ref a), .val (.int (1 : Int32)), .unset] [])) (fun _ k_ => XS.istoreN X0.here hx rfl (hb hby own_d11_1) rfl (l' := #[.val (.ref a), .val (.int (1 : Int32)), .unset]) rfl k_) ?_
  refine own_w (T' := s₁) (g' := (mkF m 3 #[.val (.ref a), .val (.int (1 : Int32)), .unset] [(.int (0 : Int32))])) (fun _ k_ => XS.iconst X0.here hx rfl (hb hby own_d11_2) k_) ?_
  refine own_w (T' := s₁) (g' := (mkF m 4 #[.val (.ref a), .val (.int (1 : Int32)), .val (.int (0 : Int32))] [])) (fun _ k_ => XS.istoreN X0.here hx rfl (hb hby own_d11_3) rfl (l' := #[.val (.ref a), .val (.int (1 : Int32)), .val (.int (0 : Int32))]) rfl k_) ?_
  have loop : ∀ (fu : Nat) (TJ : State) (LJ : List Loc) (XJ : Stand p l e ({ frames := 4, cells := 0, slots := 0, locals := 53 } : Room) s m #[(.ref a)] below meth c TJ LJ 0 0) (eJ : TJ.heap = h0) (NJ : Fr n0 LJ) (acc : Int32) (i' : Int32) (i : Nat) (hi : i'.toInt = (i : Int)) (hfu : xs.length = i + fu) (hq : own_cg xs fu i acc = own_cl xs), own_G p e below s (own_Q11 Z a xs cs sf h0 n0) ({ frames := 4, cells := 0, slots := 0, locals := 53 } : Room).cells ({ frames := 4, cells := 0, slots := 0, locals := 53 } : Room).slots TJ (mkF m 4 #[.val (.ref a), .val (.int acc), .val (.int i')] []) := by
    intro fu
    induction fu with
    | zero =>
      intro TJ LJ XJ eJ NJ acc i' i hi hfu hq
      refine own_w (T' := TJ) (g' := (mkF m 5 #[.val (.ref a), .val (.int acc), .val (.int i')] [(.int i')])) (fun _ k_ => XS.iloadN XJ.here hx rfl (hb hby own_d11_4) rfl k_) ?_
      refine own_w (T' := TJ) (g' := (mkF m 6 #[.val (.ref a), .val (.int acc), .val (.int i')] [(.ref a), (.int i')])) (fun _ k_ => XS.aloadN XJ.here hx rfl (hb hby own_d11_5) rfl rfl k_) ?_
      obtain ⟨cq1, kq1, q1a, q1b, q1c⟩ := isOf hZ eJ Sa.1
      obtain ⟨_, _, ⟨T1, L1, k1, n1⟩, -, X1, ⟨Lc1, hQ1, l1, y1, z1⟩, st1⟩ := XJ.virtualBack hx (y := (⟨"java/lang/String", "length", "()I"⟩ : MethodName)) (z := (⟨"java/lang/String", "length", "()I"⟩ : MethodName)) hown (mvT hZ (hw _ (List.mem_of_getElem? (i := 52) rfl))) (mvT hZ (hw _ (List.mem_of_getElem? (i := 53) rfl))) (notFace_of_selects (args := #[]) (mvT hZ (hw _ (List.mem_of_getElem? (i := 55) rfl)))) (mvT hZ (hw _ (List.mem_of_getElem? (i := 55) rfl))) (mvT hZ (hw _ (List.mem_of_getElem? (i := 54) rfl))) (by decide) (backOf (W := 1) (own_rm12 l Z a0 hw [] a xs cs h0 n0 Z0 Sa lx hcs S) hZ (hw _ (List.mem_of_getElem? (i := 56) rfl)) (hw _ (List.mem_of_getElem? (i := 11) rfl)) (by decide) (by decide)) q1a q1c (g := (mkF m 6 #[.val (.ref a), .val (.int acc), .val (.int i')] [(.ref a), (.int i')])) rfl (by rw [hml]; rfl) (Steps.refl _) (argsL := []) (rest := [(.int i')]) (lenOf own_pd8 rfl) rfl (by show 2 * 0 + _ ≤ _; exact Nat.le_of_eq rfl) (hb hby own_d11_6) (fun _ _ => ⟨rfl, eJ, (by decide : 0 + 0 ≤ _), (by decide : 0 + 0 ≤ _)⟩)
      dsimp only [Pt.U, Pt.locs, Pt.cells, Pt.slots] at X1 l1 y1 z1 st1 hQ1
      subst l1 y1 z1
      obtain ⟨rfl, N1q, e1⟩ := hQ1
      have N1 := Fr.app NJ N1q
      refine own_t (T' := T1) (g' := (mkF m 9 #[.val (.ref a), .val (.int acc), .val (.int i')] [(.int xs.length.toInt32), (.int i')])) st1 ?_
      refine own_w (T' := T1) (g' := (mkF m 31 #[.val (.ref a), .val (.int acc), .val (.int i')] [])) (fun _ k_ => XS.icmpYes X1.here hx rfl (pc0 := 9) (pc' := 31) rfl (hb hby own_d11_9) rfl (flt (fun q => by have q := (own_lti hi (own_i32 lx)).mp q; omega)).2.1 (by decide) (by decide) k_) ?_
      refine own_w (T' := T1) (g' := (mkF m 32 #[.val (.ref a), .val (.int acc), .val (.int i')] [(.int acc)])) (fun _ k_ => XS.iloadN X1.here hx rfl (hb hby own_d11_31) rfl k_) ?_
      obtain ⟨fs, hr, hrun, hended, hW, hsame⟩ := X1.leave (v := some (.int acc)) (fun h => by rw [Bd.returns] at h; cases h)
      exact ⟨_, _, retOut X1 hx Bd.returns rfl (Or.inl ⟨rfl, Or.inl rfl, _, rfl⟩) (hb hby own_d11_32) hr, hrun, hended, _, _, rfl, (by show own_Q11 Z a xs cs sf h0 n0 _ T1.heap _; rw [e1]; exact ⟨(by rw [← hq]; rfl), N1, rfl⟩), ⟨_, rfl⟩, hW, hsame.mono (by decide) (by decide)⟩
    | succ fu ih =>
      intro TJ LJ XJ eJ NJ acc i' i hi hfu hq
      refine own_w (T' := TJ) (g' := (mkF m 5 #[.val (.ref a), .val (.int acc), .val (.int i')] [(.int i')])) (fun _ k_ => XS.iloadN XJ.here hx rfl (hb hby own_d11_4) rfl k_) ?_
      refine own_w (T' := TJ) (g' := (mkF m 6 #[.val (.ref a), .val (.int acc), .val (.int i')] [(.ref a), (.int i')])) (fun _ k_ => XS.aloadN XJ.here hx rfl (hb hby own_d11_5) rfl rfl k_) ?_
      obtain ⟨cq2, kq2, q2a, q2b, q2c⟩ := isOf hZ eJ Sa.1
      obtain ⟨_, _, ⟨T2, L2, k2, n2⟩, -, X2, ⟨Lc2, hQ2, l2, y2, z2⟩, st2⟩ := XJ.virtualBack hx (y := (⟨"java/lang/String", "length", "()I"⟩ : MethodName)) (z := (⟨"java/lang/String", "length", "()I"⟩ : MethodName)) hown (mvT hZ (hw _ (List.mem_of_getElem? (i := 52) rfl))) (mvT hZ (hw _ (List.mem_of_getElem? (i := 53) rfl))) (notFace_of_selects (args := #[]) (mvT hZ (hw _ (List.mem_of_getElem? (i := 55) rfl)))) (mvT hZ (hw _ (List.mem_of_getElem? (i := 55) rfl))) (mvT hZ (hw _ (List.mem_of_getElem? (i := 54) rfl))) (by decide) (backOf (W := 1) (own_rm12 l Z a0 hw [] a xs cs h0 n0 Z0 Sa lx hcs S) hZ (hw _ (List.mem_of_getElem? (i := 56) rfl)) (hw _ (List.mem_of_getElem? (i := 11) rfl)) (by decide) (by decide)) q2a q2c (g := (mkF m 6 #[.val (.ref a), .val (.int acc), .val (.int i')] [(.ref a), (.int i')])) rfl (by rw [hml]; rfl) (Steps.refl _) (argsL := []) (rest := [(.int i')]) (lenOf own_pd8 rfl) rfl (by show 2 * 0 + _ ≤ _; exact Nat.le_of_eq rfl) (hb hby own_d11_6) (fun _ _ => ⟨rfl, eJ, (by decide : 0 + 0 ≤ _), (by decide : 0 + 0 ≤ _)⟩)
      dsimp only [Pt.U, Pt.locs, Pt.cells, Pt.slots] at X2 l2 y2 z2 st2 hQ2
      subst l2 y2 z2
      obtain ⟨rfl, N2q, e2⟩ := hQ2
      have N2 := Fr.app NJ N2q
      refine own_t (T' := T2) (g' := (mkF m 9 #[.val (.ref a), .val (.int acc), .val (.int i')] [(.int xs.length.toInt32), (.int i')])) st2 ?_
      refine own_w (T' := T2) (g' := (mkF m 12 #[.val (.ref a), .val (.int acc), .val (.int i')] [])) (fun _ k_ => XS.icmpNo X2.here hx rfl (hb hby own_d11_9) rfl (tlt ((own_lti hi (own_i32 lx)).mpr (by omega))).2.1 k_) ?_
      obtain ⟨x, hx'⟩ : ∃ x, xs[i]? = some x := ⟨_, List.getElem?_eq_getElem (by omega)⟩
      refine own_w (T' := T2) (g' := (mkF m 13 #[.val (.ref a), .val (.int acc), .val (.int i')] [(.ref a)])) (fun _ k_ => XS.aloadN X2.here hx rfl (hb hby own_d11_12) rfl rfl k_) ?_
      refine own_w (T' := T2) (g' := (mkF m 14 #[.val (.ref a), .val (.int acc), .val (.int i')] [(.int i'), (.ref a)])) (fun _ k_ => XS.iloadN X2.here hx rfl (hb hby own_d11_13) rfl k_) ?_
      obtain ⟨cq3, kq3, q3a, q3b, q3c⟩ := isOf hZ e2 Sa.1
      obtain ⟨_, _, ⟨T3, L3, k3, n3⟩, -, X3, ⟨Lc3, hQ3, l3, y3, z3⟩, st3⟩ := X2.virtualBack hx (y := (⟨"java/lang/String", "charAt", "(I)C"⟩ : MethodName)) (z := (⟨"java/lang/String", "charAt", "(I)C"⟩ : MethodName)) hown (mvT hZ (hw _ (List.mem_of_getElem? (i := 62) rfl))) (mvT hZ (hw _ (List.mem_of_getElem? (i := 63) rfl))) (notFace_of_selects (args := #[]) (mvT hZ (hw _ (List.mem_of_getElem? (i := 65) rfl)))) (mvT hZ (hw _ (List.mem_of_getElem? (i := 65) rfl))) (mvT hZ (hw _ (List.mem_of_getElem? (i := 64) rfl))) (by decide) (backOf (W := 0) (own_rm14 l Z a0 hw [] a i' xs cs sf i x h0 n0 Z0 Sa lx hcs S hsf SF hasc hi hx') hZ (hw _ (List.mem_of_getElem? (i := 66) rfl)) (hw _ (List.mem_of_getElem? (i := 11) rfl)) (by decide) (by decide)) q3a q3c (g := (mkF m 14 #[.val (.ref a), .val (.int acc), .val (.int i')] [(.int i'), (.ref a)])) rfl (by rw [hml]; rfl) (Steps.refl _) (argsL := [(.int i')]) (rest := []) (lenOf own_pd9 rfl) rfl (by show 2 * 0 + _ ≤ _; exact Nat.le_of_eq rfl) (hb hby own_d11_14) (fun _ _ => ⟨rfl, e2, (by decide : 0 + 0 ≤ _), (by decide : 0 + 0 ≤ _)⟩)
      dsimp only [Pt.U, Pt.locs, Pt.cells, Pt.slots] at X3 l3 y3 z3 st3 hQ3
      subst l3 y3 z3
      obtain ⟨rfl, N3q, e3⟩ := hQ3
      have N3 := Fr.app N2 N3q
      refine own_t (T' := T3) (g' := (mkF m 17 #[.val (.ref a), .val (.int acc), .val (.int i')] [(.int x)])) st3 ?_
      refine own_w (T' := T3) (g' := (mkF m 19 #[.val (.ref a), .val (.int acc), .val (.int i')] [(.int (46 : Int32)), (.int x)])) (fun _ k_ => XS.bipush X3.here hx rfl (hb hby own_d11_17) k_) ?_
      by_cases hc19 : x = (46 : Int32)
      · refine own_w (T' := T3) (g' := (mkF m 22 #[.val (.ref a), .val (.int acc), .val (.int i')] [])) (fun _ k_ => XS.icmpNo X3.here hx rfl (hb hby own_d11_19) rfl (teq hc19).2 k_) ?_
        refine own_w (T' := T3) (g' := (mkF m 25 #[.val (.ref a), .val (.int (acc + (1 : Int32))), .val (.int i')] [])) (fun _ k_ => XS.iinc X3.here hx rfl (hb hby own_d11_22) rfl (l' := #[.val (.ref a), .val (.int (acc + (1 : Int32))), .val (.int i')]) rfl k_) ?_
        refine own_w (T' := T3) (g' := (mkF m 28 #[.val (.ref a), .val (.int (acc + (1 : Int32))), .val (.int (i' + (1 : Int32)))] [])) (fun _ k_ => XS.iinc X3.here hx rfl (hb hby own_d11_25) rfl (l' := #[.val (.ref a), .val (.int (acc + (1 : Int32))), .val (.int (i' + (1 : Int32)))]) rfl k_) ?_
        refine own_w (T' := T3) (g' := (mkF m 4 #[.val (.ref a), .val (.int (acc + (1 : Int32))), .val (.int (i' + (1 : Int32)))] [])) (fun _ k_ => XS.goto X3.here hx rfl (pc0 := 28) (pc' := 4) rfl (hb hby own_d11_28) (by decide) (by decide) k_) ?_
        exact ih _ _ X3 e3 N3 _ _ (i + 1) (own_n1 hi (by omega)) (by omega) ((own_cg_hit hx' hc19).symm.trans hq)
      · refine own_w (T' := T3) (g' := (mkF m 25 #[.val (.ref a), .val (.int acc), .val (.int i')] [])) (fun _ k_ => XS.icmpYes X3.here hx rfl (pc0 := 19) (pc' := 25) rfl (hb hby own_d11_19) rfl (feq hc19).2 (by decide) (by decide) k_) ?_
        refine own_w (T' := T3) (g' := (mkF m 28 #[.val (.ref a), .val (.int acc), .val (.int (i' + (1 : Int32)))] [])) (fun _ k_ => XS.iinc X3.here hx rfl (hb hby own_d11_25) rfl (l' := #[.val (.ref a), .val (.int acc), .val (.int (i' + (1 : Int32)))]) rfl k_) ?_
        refine own_w (T' := T3) (g' := (mkF m 4 #[.val (.ref a), .val (.int acc), .val (.int (i' + (1 : Int32)))] [])) (fun _ k_ => XS.goto X3.here hx rfl (pc0 := 28) (pc' := 4) rfl (hb hby own_d11_28) (by decide) (by decide) k_) ?_
        exact ih _ _ X3 e3 N3 _ _ (i + 1) (own_n1 hi (by omega)) (by omega) ((own_cg_miss hx' hc19).symm.trans hq)
  exact loop xs.length _ _ X0 e0 N0 _ _ 0 (by decide) (by omega) rfl
theorem own_lab_spec {xs : List Int32} {f e : Nat} (h : own_lab xs f e = true) : f < e ∧ e ≤ f + 63 ∧ e ≤ xs.length ∧ xs[f]? ≠ some 45 ∧ xs[e - 1]? ≠ some 45 ∧ ∀ j, f ≤ j → j < e → ∃ x, xs[j]? = some x ∧ own_okc x = true := by
  unfold own_lab at h
  simp only [Bool.and_eq_true, decide_eq_true_eq, List.all_eq_true, List.mem_range] at h
  obtain ⟨⟨⟨⟨⟨h1, h2⟩, h3⟩, h4⟩, h5⟩, h6⟩ := h
  refine ⟨h1, h2, h3, h4, h5, fun j q1 q2 => ?_⟩
  have h7 := h6 (j - f) (by omega)
  rw [show f + (j - f) = j by omega] at h7
  cases hx : xs[j]? with
  | none => rw [hx] at h7; cases h7
  | some x => rw [hx] at h7; exact ⟨x, rfl, h7⟩
theorem own_okc_spec {x : Int32} (h : own_okc x = true) : (¬ x < 97 ∧ ¬ 122 < x) ∨ (¬ x < 48 ∧ ¬ 57 < x) ∨ x = 45 := by
  unfold own_okc at h
  simp only [Bool.or_eq_true, Bool.and_eq_true, decide_eq_true_eq] at h
  rcases h with (h | h) | h
  · exact Or.inl h
  · exact Or.inr (Or.inl h)
  · exact Or.inr (Or.inr h)
theorem own_sub {x y : Int32} {a b : Nat} (hx : x.toInt = (a : Int)) (hy : y.toInt = (b : Int)) (h : b ≤ a) (ha : a < 1000) : (x - y).toInt = ((a - b : Nat) : Int) := by
  have := c_isub x y
  have l1 := (x - y).toInt_lt; have l2 := (x - y).le_toInt
  omega
theorem own_d25_0 : decode prog_13_method_15_code 0 = .ok (.iload_n 2, 1) := by decide +kernel
theorem own_d25_1 : decode prog_13_method_15_code 1 = .ok (.iload_n 1, 1) := by decide +kernel
theorem own_d25_2 : decode prog_13_method_15_code 2 = .ok (.isub, 1) := by decide +kernel
theorem own_d25_3 : decode prog_13_method_15_code 3 = .ok (.istore_n 3, 1) := by decide +kernel
theorem own_d25_4 : decode prog_13_method_15_code 4 = .ok (.iload_n 3, 1) := by decide +kernel
theorem own_d25_5 : decode prog_13_method_15_code 5 = .ok (.iconst 1, 1) := by decide +kernel
theorem own_d25_6 : decode prog_13_method_15_code 6 = .ok (.if_icmp .lt 31, 3) := by decide +kernel
theorem own_d25_9 : decode prog_13_method_15_code 9 = .ok (.iload_n 3, 1) := by decide +kernel
theorem own_d25_10 : decode prog_13_method_15_code 10 = .ok (.bipush 63, 2) := by decide +kernel
theorem own_d25_12 : decode prog_13_method_15_code 12 = .ok (.if_icmp .gt 25, 3) := by decide +kernel
theorem own_d25_15 : decode prog_13_method_15_code 15 = .ok (.aload_n 0, 1) := by decide +kernel
theorem own_d25_16 : decode prog_13_method_15_code 16 = .ok (.iload_n 1, 1) := by decide +kernel
theorem own_d25_17 : decode prog_13_method_15_code 17 = .ok (.invokevirtual 73, 3) := by decide +kernel
theorem own_d25_20 : decode prog_13_method_15_code 20 = .ok (.bipush 45, 2) := by decide +kernel
theorem own_d25_22 : decode prog_13_method_15_code 22 = .ok (.if_icmp .eq 15, 3) := by decide +kernel
theorem own_d25_25 : decode prog_13_method_15_code 25 = .ok (.aload_n 0, 1) := by decide +kernel
theorem own_d25_26 : decode prog_13_method_15_code 26 = .ok (.iload_n 2, 1) := by decide +kernel
theorem own_d25_27 : decode prog_13_method_15_code 27 = .ok (.iconst 1, 1) := by decide +kernel
theorem own_d25_28 : decode prog_13_method_15_code 28 = .ok (.isub, 1) := by decide +kernel
theorem own_d25_29 : decode prog_13_method_15_code 29 = .ok (.invokevirtual 73, 3) := by decide +kernel
theorem own_d25_32 : decode prog_13_method_15_code 32 = .ok (.bipush 45, 2) := by decide +kernel
theorem own_d25_34 : decode prog_13_method_15_code 34 = .ok (.if_icmp .ne 5, 3) := by decide +kernel
theorem own_d25_39 : decode prog_13_method_15_code 39 = .ok (.iload_n 1, 1) := by decide +kernel
theorem own_d25_40 : decode prog_13_method_15_code 40 = .ok (.istore 4, 2) := by decide +kernel
theorem own_d25_42 : decode prog_13_method_15_code 42 = .ok (.iload 4, 2) := by decide +kernel
theorem own_d25_44 : decode prog_13_method_15_code 44 = .ok (.iload_n 2, 1) := by decide +kernel
theorem own_d25_45 : decode prog_13_method_15_code 45 = .ok (.if_icmp .ge 54, 3) := by decide +kernel
theorem own_d25_99 : decode prog_13_method_15_code 99 = .ok (.iconst 1, 1) := by decide +kernel
theorem own_d25_100 : decode prog_13_method_15_code 100 = .ok (.ireturn, 1) := by decide +kernel
theorem own_d25_48 : decode prog_13_method_15_code 48 = .ok (.aload_n 0, 1) := by decide +kernel
theorem own_d25_49 : decode prog_13_method_15_code 49 = .ok (.iload 4, 2) := by decide +kernel
theorem own_d25_51 : decode prog_13_method_15_code 51 = .ok (.invokevirtual 73, 3) := by decide +kernel
theorem own_d25_54 : decode prog_13_method_15_code 54 = .ok (.istore 5, 2) := by decide +kernel
theorem own_d25_56 : decode prog_13_method_15_code 56 = .ok (.iload 5, 2) := by decide +kernel
theorem own_d25_58 : decode prog_13_method_15_code 58 = .ok (.bipush 97, 2) := by decide +kernel
theorem own_d25_60 : decode prog_13_method_15_code 60 = .ok (.if_icmp .lt 10, 3) := by decide +kernel
theorem own_d25_70 : decode prog_13_method_15_code 70 = .ok (.iload 5, 2) := by decide +kernel
theorem own_d25_72 : decode prog_13_method_15_code 72 = .ok (.bipush 48, 2) := by decide +kernel
theorem own_d25_74 : decode prog_13_method_15_code 74 = .ok (.if_icmp .lt 10, 3) := by decide +kernel
theorem own_d25_84 : decode prog_13_method_15_code 84 = .ok (.iload 5, 2) := by decide +kernel
theorem own_d25_86 : decode prog_13_method_15_code 86 = .ok (.bipush 45, 2) := by decide +kernel
theorem own_d25_88 : decode prog_13_method_15_code 88 = .ok (.if_icmp .eq 5, 3) := by decide +kernel
theorem own_d25_93 : decode prog_13_method_15_code 93 = .ok (.iinc 4 1, 3) := by decide +kernel
theorem own_d25_96 : decode prog_13_method_15_code 96 = .ok (.goto (-54), 3) := by decide +kernel
theorem own_d25_77 : decode prog_13_method_15_code 77 = .ok (.iload 5, 2) := by decide +kernel
theorem own_d25_79 : decode prog_13_method_15_code 79 = .ok (.bipush 57, 2) := by decide +kernel
theorem own_d25_81 : decode prog_13_method_15_code 81 = .ok (.if_icmp .le 12, 3) := by decide +kernel
theorem own_d25_63 : decode prog_13_method_15_code 63 = .ok (.iload 5, 2) := by decide +kernel
theorem own_d25_65 : decode prog_13_method_15_code 65 = .ok (.bipush 122, 2) := by decide +kernel
theorem own_d25_67 : decode prog_13_method_15_code 67 = .ok (.if_icmp .le 26, 3) := by decide +kernel
theorem own_rm25_ef (m : MethodId) (a : Addr) (f' : Int32) (e' : Int32) : entryFrame m #[(.ref a), (.int f'), (.int e')] 6 = mkF m 0 #[.val (.ref a), .val (.int f'), .val (.int e'), .unset, .unset, .unset] [] := by first | (simp [entryFrame, mkF, argsToLocals, Value.category]; done) | rfl
def own_Q25 (Z : State) (a : Addr) (f' : Int32) (e' : Int32) (xs : List Int32) (cs : Int32) (sf : Value) (f : Nat) (en : Nat) (h0 : Heap) (n0 : Nat) (v_ : Option Value) (h : Heap) (L_ : List Loc) : Prop := v_ = some (.int (1 : Int32)) ∧ Fr n0 L_ ∧ (h = h0)
set_option maxRecDepth 65536 in
set_option maxHeartbeats 40000000 in
theorem own_rm25 (l : Launch) (Z : State) (a0 : Array Value) (hw : ∀ d ∈ tables_1, d.before a0 Z = true) (ws : List Jvm.Cond) (a : Addr) (f' : Int32) (e' : Int32) (xs : List Int32) (cs : Int32) (sf : Value) (f : Nat) (en : Nat) (h0 : Heap) (n0 : Nat) (Z0 : n0 ≤ h0.size) (Sa : own_Str Z h0 a xs) (lx : xs.length < 1000) (hcs : ¬ cs = (0 : Int32)) (S : Sta Z h0 "java/lang/String" "COMPACT_STRINGS" "Z" (.int cs)) (hsf : sf.isRef = true) (SF : Sta Z h0 "jdk/internal/util/Preconditions" "SIOOBE_FORMATTER" "Ljava/util/function/BiFunction;" sf) (hasc : own_asc xs) (hf : f'.toInt = (f : Int)) (he : e'.toInt = (en : Int)) (hL : own_lab xs f en = true) :
    MetFree l (⟨"com/example/adjacency/adjacency/identity/NodeName", "isLabel", "(Ljava/lang/String;II)Z"⟩ : MethodName) (head1 (Jvm.Cond.code (⟨"com/example/adjacency/adjacency/identity/NodeName", "isLabel", "(Ljava/lang/String;II)Z"⟩ : MethodName) prog_13_method_15_code 6 (some .boolean) :: ws) ({ frames := 4, cells := 0, slots := 0, locals := 53 } : Room)) (fun a_ U_ => a_ = #[(.ref a), (.int f'), (.int e')] ∧ Z.Warmed39 U_.vm ∧ U_.heap = h0) (fun _ _ _ _ _ => True) (fun _ U_ o_ V_ => ∃ v_ L_, o_ = .returned v_ ∧ own_Q25 Z a f' e' xs cs sf f en h0 n0 v_ V_.heap L_ ∧ FrameEnd U_ o_ V_ L_ ({ frames := 4, cells := 0, slots := 0, locals := 53 } : Room).cells ({ frames := 4, cells := 0, slots := 0, locals := 53 } : Room).slots) := by
  refine MetFree.of_bodySF (plainFor_of_name own_pn_com_example_adjacency_adjacency_identity_NodeName) hisR ?_
  intro p e s m args below meth c s₁ Bd hml0 hP hK
  obtain ⟨rfl, hZ, hh⟩ := hP
  have hx := Bd.exec
  have hby := Bd.bytes
  have hml : c.maxLocals = 6 := hml0
  have hown : s.vm.findClass "com/example/adjacency/adjacency/identity/NodeName" = some m.cls := findClass_of_methodNamed Bd.named
  have hnm := (name_of_methodNamed Bd.named Bd.method).1
  have X0 : Stand p l e ({ frames := 4, cells := 0, slots := 0, locals := 53 } : Room) s m #[(.ref a), (.int f'), (.int e')] below meth c s₁ [] 0 0 := Stand.of_body Bd
  have e0 : s₁.heap = h0 := by rw [← hh, Bd.state]; rfl
  have N0 := Fr.nil n0
  show own_G p e below s (own_Q25 Z a f' e' xs cs sf f en h0 n0) ({ frames := 4, cells := 0, slots := 0, locals := 53 } : Room).cells ({ frames := 4, cells := 0, slots := 0, locals := 53 } : Room).slots s₁ (entryFrame m #[(.ref a), (.int f'), (.int e')] 6)
  rw [own_rm25_ef]
  obtain ⟨l1, l2, l3, l4, l5, l6⟩ := own_lab_spec hL
  refine own_w (T' := s₁) (g' := (mkF m 1 #[.val (.ref a), .val (.int f'), .val (.int e'), .unset, .unset, .unset] [(.int e')])) (fun _ k_ => XS.iloadN X0.here hx rfl (hb hby own_d25_0) rfl k_) ?_
  refine own_w (T' := s₁) (g' := (mkF m 2 #[.val (.ref a), .val (.int f'), .val (.int e'), .unset, .unset, .unset] [(.int f'), (.int e')])) (fun _ k_ => XS.iloadN X0.here hx rfl (hb hby own_d25_1) rfl k_) ?_
  refine own_w (T' := s₁) (g' := (mkF m 3 #[.val (.ref a), .val (.int f'), .val (.int e'), .unset, .unset, .unset] [(.int (e' - f'))])) (fun _ k_ => XS.isub X0.here hx rfl (hb hby own_d25_2) rfl k_) ?_
  refine own_w (T' := s₁) (g' := (mkF m 4 #[.val (.ref a), .val (.int f'), .val (.int e'), .val (.int (e' - f')), .unset, .unset] [])) (fun _ k_ => XS.istoreN X0.here hx rfl (hb hby own_d25_3) rfl (l' := #[.val (.ref a), .val (.int f'), .val (.int e'), .val (.int (e' - f')), .unset, .unset]) rfl k_) ?_
  refine own_w (T' := s₁) (g' := (mkF m 5 #[.val (.ref a), .val (.int f'), .val (.int e'), .val (.int (e' - f')), .unset, .unset] [(.int (e' - f'))])) (fun _ k_ => XS.iloadN X0.here hx rfl (hb hby own_d25_4) rfl k_) ?_
  refine own_w (T' := s₁) (g' := (mkF m 6 #[.val (.ref a), .val (.int f'), .val (.int e'), .val (.int (e' - f')), .unset, .unset] [(.int (1 : Int32)), (.int (e' - f'))])) (fun _ k_ => XS.iconst X0.here hx rfl (hb hby own_d25_5) k_) ?_
  have hd := own_sub he hf (by omega) (by omega)
  refine own_w (T' := s₁) (g' := (mkF m 9 #[.val (.ref a), .val (.int f'), .val (.int e'), .val (.int (e' - f')), .unset, .unset] [])) (fun _ k_ => XS.icmpNo X0.here hx rfl (hb hby own_d25_6) rfl (flt (fun q => by have q := (own_lti hd (show (1 : Int32).toInt = ((1 : Nat) : Int) by decide)).mp q; omega)).1 k_) ?_
  refine own_w (T' := s₁) (g' := (mkF m 10 #[.val (.ref a), .val (.int f'), .val (.int e'), .val (.int (e' - f')), .unset, .unset] [(.int (e' - f'))])) (fun _ k_ => XS.iloadN X0.here hx rfl (hb hby own_d25_9) rfl k_) ?_
  refine own_w (T' := s₁) (g' := (mkF m 12 #[.val (.ref a), .val (.int f'), .val (.int e'), .val (.int (e' - f')), .unset, .unset] [(.int (63 : Int32)), (.int (e' - f'))])) (fun _ k_ => XS.bipush X0.here hx rfl (hb hby own_d25_10) k_) ?_
  refine own_w (T' := s₁) (g' := (mkF m 15 #[.val (.ref a), .val (.int f'), .val (.int e'), .val (.int (e' - f')), .unset, .unset] [])) (fun _ k_ => XS.icmpNo X0.here hx rfl (hb hby own_d25_12) rfl (flt (fun q => by have q := (own_lti (show (63 : Int32).toInt = ((63 : Nat) : Int) by decide) hd).mp q; omega)).2.2.1 k_) ?_
  refine own_w (T' := s₁) (g' := (mkF m 16 #[.val (.ref a), .val (.int f'), .val (.int e'), .val (.int (e' - f')), .unset, .unset] [(.ref a)])) (fun _ k_ => XS.aloadN X0.here hx rfl (hb hby own_d25_15) rfl rfl k_) ?_
  refine own_w (T' := s₁) (g' := (mkF m 17 #[.val (.ref a), .val (.int f'), .val (.int e'), .val (.int (e' - f')), .unset, .unset] [(.int f'), (.ref a)])) (fun _ k_ => XS.iloadN X0.here hx rfl (hb hby own_d25_16) rfl k_) ?_
  obtain ⟨x0, hx0, -⟩ := l6 f (Nat.le_refl _) l1
  obtain ⟨cq1, kq1, q1a, q1b, q1c⟩ := isOf hZ e0 Sa.1
  obtain ⟨_, _, ⟨T1, L1, k1, n1⟩, -, X1, ⟨Lc1, hQ1, l1, y1, z1⟩, st1⟩ := X0.virtualBack hx (y := (⟨"java/lang/String", "charAt", "(I)C"⟩ : MethodName)) (z := (⟨"java/lang/String", "charAt", "(I)C"⟩ : MethodName)) hown (mvT hZ (hw _ (List.mem_of_getElem? (i := 62) rfl))) (mvT hZ (hw _ (List.mem_of_getElem? (i := 63) rfl))) (notFace_of_selects (args := #[]) (mvT hZ (hw _ (List.mem_of_getElem? (i := 65) rfl)))) (mvT hZ (hw _ (List.mem_of_getElem? (i := 65) rfl))) (mvT hZ (hw _ (List.mem_of_getElem? (i := 64) rfl))) (by decide) (backOf (W := 0) (own_rm14 l Z a0 hw [] a f' xs cs sf f x0 h0 n0 Z0 Sa lx hcs S hsf SF hasc hf hx0) hZ (hw _ (List.mem_of_getElem? (i := 66) rfl)) (hw _ (List.mem_of_getElem? (i := 11) rfl)) (by decide) (by decide)) q1a q1c (g := (mkF m 17 #[.val (.ref a), .val (.int f'), .val (.int e'), .val (.int (e' - f')), .unset, .unset] [(.int f'), (.ref a)])) rfl (by rw [hml]; rfl) (Steps.refl _) (argsL := [(.int f')]) (rest := []) (lenOf own_pd9 rfl) rfl (by show 2 * 0 + _ ≤ _; exact Nat.le_of_eq rfl) (hb hby own_d25_17) (fun _ _ => ⟨rfl, e0, (by decide : 0 + 0 ≤ _), (by decide : 0 + 0 ≤ _)⟩)
  dsimp only [Pt.U, Pt.locs, Pt.cells, Pt.slots] at X1 l1 y1 z1 st1 hQ1
  subst l1 y1 z1
  obtain ⟨rfl, N1q, e1⟩ := hQ1
  have N1 := Fr.app N0 N1q
  refine own_t (T' := T1) (g' := (mkF m 20 #[.val (.ref a), .val (.int f'), .val (.int e'), .val (.int (e' - f')), .unset, .unset] [(.int x0)])) st1 ?_
  refine own_w (T' := T1) (g' := (mkF m 22 #[.val (.ref a), .val (.int f'), .val (.int e'), .val (.int (e' - f')), .unset, .unset] [(.int (45 : Int32)), (.int x0)])) (fun _ k_ => XS.bipush X1.here hx rfl (hb hby own_d25_20) k_) ?_
  refine own_w (T' := T1) (g' := (mkF m 25 #[.val (.ref a), .val (.int f'), .val (.int e'), .val (.int (e' - f')), .unset, .unset] [])) (fun _ k_ => XS.icmpNo X1.here hx rfl (hb hby own_d25_22) rfl (feq (fun q => l4 (by rw [hx0, q]))).1 k_) ?_
  refine own_w (T' := T1) (g' := (mkF m 26 #[.val (.ref a), .val (.int f'), .val (.int e'), .val (.int (e' - f')), .unset, .unset] [(.ref a)])) (fun _ k_ => XS.aloadN X1.here hx rfl (hb hby own_d25_25) rfl rfl k_) ?_
  refine own_w (T' := T1) (g' := (mkF m 27 #[.val (.ref a), .val (.int f'), .val (.int e'), .val (.int (e' - f')), .unset, .unset] [(.int e'), (.ref a)])) (fun _ k_ => XS.iloadN X1.here hx rfl (hb hby own_d25_26) rfl k_) ?_
  refine own_w (T' := T1) (g' := (mkF m 28 #[.val (.ref a), .val (.int f'), .val (.int e'), .val (.int (e' - f')), .unset, .unset] [(.int (1 : Int32)), (.int e'), (.ref a)])) (fun _ k_ => XS.iconst X1.here hx rfl (hb hby own_d25_27) k_) ?_
  refine own_w (T' := T1) (g' := (mkF m 29 #[.val (.ref a), .val (.int f'), .val (.int e'), .val (.int (e' - f')), .unset, .unset] [(.int (e' - (1 : Int32))), (.ref a)])) (fun _ k_ => XS.isub X1.here hx rfl (hb hby own_d25_28) rfl k_) ?_
  have he1 := own_sub he (show (1 : Int32).toInt = ((1 : Nat) : Int) by decide) (by omega) (by omega)
  obtain ⟨x1, hx1, -⟩ := l6 (en - 1) (by omega) (by omega)
  obtain ⟨cq2, kq2, q2a, q2b, q2c⟩ := isOf hZ e1 Sa.1
  obtain ⟨_, _, ⟨T2, L2, k2, n2⟩, -, X2, ⟨Lc2, hQ2, l2, y2, z2⟩, st2⟩ := X1.virtualBack hx (y := (⟨"java/lang/String", "charAt", "(I)C"⟩ : MethodName)) (z := (⟨"java/lang/String", "charAt", "(I)C"⟩ : MethodName)) hown (mvT hZ (hw _ (List.mem_of_getElem? (i := 62) rfl))) (mvT hZ (hw _ (List.mem_of_getElem? (i := 63) rfl))) (notFace_of_selects (args := #[]) (mvT hZ (hw _ (List.mem_of_getElem? (i := 65) rfl)))) (mvT hZ (hw _ (List.mem_of_getElem? (i := 65) rfl))) (mvT hZ (hw _ (List.mem_of_getElem? (i := 64) rfl))) (by decide) (backOf (W := 0) (own_rm14 l Z a0 hw [] a (e' - (1 : Int32)) xs cs sf (en - 1) x1 h0 n0 Z0 Sa lx hcs S hsf SF hasc he1 hx1) hZ (hw _ (List.mem_of_getElem? (i := 66) rfl)) (hw _ (List.mem_of_getElem? (i := 11) rfl)) (by decide) (by decide)) q2a q2c (g := (mkF m 29 #[.val (.ref a), .val (.int f'), .val (.int e'), .val (.int (e' - f')), .unset, .unset] [(.int (e' - (1 : Int32))), (.ref a)])) rfl (by rw [hml]; rfl) (Steps.refl _) (argsL := [(.int (e' - (1 : Int32)))]) (rest := []) (lenOf own_pd9 rfl) rfl (by show 2 * 0 + _ ≤ _; exact Nat.le_of_eq rfl) (hb hby own_d25_29) (fun _ _ => ⟨rfl, e1, (by decide : 0 + 0 ≤ _), (by decide : 0 + 0 ≤ _)⟩)
  dsimp only [Pt.U, Pt.locs, Pt.cells, Pt.slots] at X2 l2 y2 z2 st2 hQ2
  subst l2 y2 z2
  obtain ⟨rfl, N2q, e2⟩ := hQ2
  have N2 := Fr.app N1 N2q
  refine own_t (T' := T2) (g' := (mkF m 32 #[.val (.ref a), .val (.int f'), .val (.int e'), .val (.int (e' - f')), .unset, .unset] [(.int x1)])) st2 ?_
  refine own_w (T' := T2) (g' := (mkF m 34 #[.val (.ref a), .val (.int f'), .val (.int e'), .val (.int (e' - f')), .unset, .unset] [(.int (45 : Int32)), (.int x1)])) (fun _ k_ => XS.bipush X2.here hx rfl (hb hby own_d25_32) k_) ?_
  refine own_w (T' := T2) (g' := (mkF m 39 #[.val (.ref a), .val (.int f'), .val (.int e'), .val (.int (e' - f')), .unset, .unset] [])) (fun _ k_ => XS.icmpYes X2.here hx rfl (pc0 := 34) (pc' := 39) rfl (hb hby own_d25_34) rfl (feq (fun q => l5 (by rw [hx1, q]))).2 (by decide) (by decide) k_) ?_
  refine own_w (T' := T2) (g' := (mkF m 40 #[.val (.ref a), .val (.int f'), .val (.int e'), .val (.int (e' - f')), .unset, .unset] [(.int f')])) (fun _ k_ => XS.iloadN X2.here hx rfl (hb hby own_d25_39) rfl k_) ?_
  refine own_w (T' := T2) (g' := (mkF m 42 #[.val (.ref a), .val (.int f'), .val (.int e'), .val (.int (e' - f')), .val (.int f'), .unset] [])) (fun _ k_ => XS.istore X2.here hx rfl (hb hby own_d25_40) rfl (l' := #[.val (.ref a), .val (.int f'), .val (.int e'), .val (.int (e' - f')), .val (.int f'), .unset]) rfl k_) ?_
  have loop : ∀ (fu : Nat) (TJ : State) (LJ : List Loc) (XJ : Stand p l e ({ frames := 4, cells := 0, slots := 0, locals := 53 } : Room) s m #[(.ref a), (.int f'), (.int e')] below meth c TJ LJ 0 0) (eJ : TJ.heap = h0) (NJ : Fr n0 LJ) (c' : Int32) (i' : Int32) (i : Nat) (hi : i'.toInt = (i : Int)) (hfi : f ≤ i) (hfu : en = i + fu), own_G p e below s (own_Q25 Z a f' e' xs cs sf f en h0 n0) ({ frames := 4, cells := 0, slots := 0, locals := 53 } : Room).cells ({ frames := 4, cells := 0, slots := 0, locals := 53 } : Room).slots TJ (mkF m 42 #[.val (.ref a), .val (.int f'), .val (.int e'), .val (.int (e' - f')), .val (.int i'), .val (.int c')] []) := by
    intro fu
    induction fu with
    | zero =>
      intro TJ LJ XJ eJ NJ c' i' i hi hfi hfu
      refine own_w (T' := TJ) (g' := (mkF m 44 #[.val (.ref a), .val (.int f'), .val (.int e'), .val (.int (e' - f')), .val (.int i'), .val (.int c')] [(.int i')])) (fun _ k_ => XS.iload XJ.here hx rfl (hb hby own_d25_42) rfl k_) ?_
      refine own_w (T' := TJ) (g' := (mkF m 45 #[.val (.ref a), .val (.int f'), .val (.int e'), .val (.int (e' - f')), .val (.int i'), .val (.int c')] [(.int e'), (.int i')])) (fun _ k_ => XS.iloadN XJ.here hx rfl (hb hby own_d25_44) rfl k_) ?_
      refine own_w (T' := TJ) (g' := (mkF m 99 #[.val (.ref a), .val (.int f'), .val (.int e'), .val (.int (e' - f')), .val (.int i'), .val (.int c')] [])) (fun _ k_ => XS.icmpYes XJ.here hx rfl (pc0 := 45) (pc' := 99) rfl (hb hby own_d25_45) rfl (flt (fun q => by have q := (own_lti hi he).mp q; omega)).2.1 (by decide) (by decide) k_) ?_
      refine own_w (T' := TJ) (g' := (mkF m 100 #[.val (.ref a), .val (.int f'), .val (.int e'), .val (.int (e' - f')), .val (.int i'), .val (.int c')] [(.int (1 : Int32))])) (fun _ k_ => XS.iconst XJ.here hx rfl (hb hby own_d25_99) k_) ?_
      obtain ⟨fs, hr, hrun, hended, hW, hsame⟩ := XJ.leave (v := some (.int (1 : Int32))) (fun h => by rw [Bd.returns] at h; cases h)
      exact ⟨_, _, retOut XJ hx Bd.returns rfl (Or.inl ⟨rfl, Or.inr (Or.inl rfl), _, rfl⟩) (hb hby own_d25_100) hr, hrun, hended, _, _, rfl, (by show own_Q25 Z a f' e' xs cs sf f en h0 n0 _ TJ.heap _; rw [eJ]; exact ⟨rfl, NJ, rfl⟩), ⟨_, rfl⟩, hW, hsame.mono (by decide) (by decide)⟩
    | succ fu ih =>
      intro TJ LJ XJ eJ NJ c' i' i hi hfi hfu
      obtain ⟨x, hx', hok⟩ := l6 i hfi (by omega)
      refine own_w (T' := TJ) (g' := (mkF m 44 #[.val (.ref a), .val (.int f'), .val (.int e'), .val (.int (e' - f')), .val (.int i'), .val (.int c')] [(.int i')])) (fun _ k_ => XS.iload XJ.here hx rfl (hb hby own_d25_42) rfl k_) ?_
      refine own_w (T' := TJ) (g' := (mkF m 45 #[.val (.ref a), .val (.int f'), .val (.int e'), .val (.int (e' - f')), .val (.int i'), .val (.int c')] [(.int e'), (.int i')])) (fun _ k_ => XS.iloadN XJ.here hx rfl (hb hby own_d25_44) rfl k_) ?_
      refine own_w (T' := TJ) (g' := (mkF m 48 #[.val (.ref a), .val (.int f'), .val (.int e'), .val (.int (e' - f')), .val (.int i'), .val (.int c')] [])) (fun _ k_ => XS.icmpNo XJ.here hx rfl (hb hby own_d25_45) rfl (tlt ((own_lti hi he).mpr (by omega))).2.1 k_) ?_
      refine own_w (T' := TJ) (g' := (mkF m 49 #[.val (.ref a), .val (.int f'), .val (.int e'), .val (.int (e' - f')), .val (.int i'), .val (.int c')] [(.ref a)])) (fun _ k_ => XS.aloadN XJ.here hx rfl (hb hby own_d25_48) rfl rfl k_) ?_
      refine own_w (T' := TJ) (g' := (mkF m 51 #[.val (.ref a), .val (.int f'), .val (.int e'), .val (.int (e' - f')), .val (.int i'), .val (.int c')] [(.int i'), (.ref a)])) (fun _ k_ => XS.iload XJ.here hx rfl (hb hby own_d25_49) rfl k_) ?_
      obtain ⟨cq3, kq3, q3a, q3b, q3c⟩ := isOf hZ eJ Sa.1
      obtain ⟨_, _, ⟨T3, L3, k3, n3⟩, -, X3, ⟨Lc3, hQ3, l3, y3, z3⟩, st3⟩ := XJ.virtualBack hx (y := (⟨"java/lang/String", "charAt", "(I)C"⟩ : MethodName)) (z := (⟨"java/lang/String", "charAt", "(I)C"⟩ : MethodName)) hown (mvT hZ (hw _ (List.mem_of_getElem? (i := 62) rfl))) (mvT hZ (hw _ (List.mem_of_getElem? (i := 63) rfl))) (notFace_of_selects (args := #[]) (mvT hZ (hw _ (List.mem_of_getElem? (i := 65) rfl)))) (mvT hZ (hw _ (List.mem_of_getElem? (i := 65) rfl))) (mvT hZ (hw _ (List.mem_of_getElem? (i := 64) rfl))) (by decide) (backOf (W := 0) (own_rm14 l Z a0 hw [] a i' xs cs sf i x h0 n0 Z0 Sa lx hcs S hsf SF hasc hi hx') hZ (hw _ (List.mem_of_getElem? (i := 66) rfl)) (hw _ (List.mem_of_getElem? (i := 11) rfl)) (by decide) (by decide)) q3a q3c (g := (mkF m 51 #[.val (.ref a), .val (.int f'), .val (.int e'), .val (.int (e' - f')), .val (.int i'), .val (.int c')] [(.int i'), (.ref a)])) rfl (by rw [hml]; rfl) (Steps.refl _) (argsL := [(.int i')]) (rest := []) (lenOf own_pd9 rfl) rfl (by show 2 * 0 + _ ≤ _; exact Nat.le_of_eq rfl) (hb hby own_d25_51) (fun _ _ => ⟨rfl, eJ, (by decide : 0 + 0 ≤ _), (by decide : 0 + 0 ≤ _)⟩)
      dsimp only [Pt.U, Pt.locs, Pt.cells, Pt.slots] at X3 l3 y3 z3 st3 hQ3
      subst l3 y3 z3
      obtain ⟨rfl, N3q, e3⟩ := hQ3
      have N3 := Fr.app NJ N3q
      refine own_t (T' := T3) (g' := (mkF m 54 #[.val (.ref a), .val (.int f'), .val (.int e'), .val (.int (e' - f')), .val (.int i'), .val (.int c')] [(.int x)])) st3 ?_
      refine own_w (T' := T3) (g' := (mkF m 56 #[.val (.ref a), .val (.int f'), .val (.int e'), .val (.int (e' - f')), .val (.int i'), .val (.int x)] [])) (fun _ k_ => XS.istore X3.here hx rfl (hb hby own_d25_54) rfl (l' := #[.val (.ref a), .val (.int f'), .val (.int e'), .val (.int (e' - f')), .val (.int i'), .val (.int x)]) rfl k_) ?_
      refine own_w (T' := T3) (g' := (mkF m 58 #[.val (.ref a), .val (.int f'), .val (.int e'), .val (.int (e' - f')), .val (.int i'), .val (.int x)] [(.int x)])) (fun _ k_ => XS.iload X3.here hx rfl (hb hby own_d25_56) rfl k_) ?_
      refine own_w (T' := T3) (g' := (mkF m 60 #[.val (.ref a), .val (.int f'), .val (.int e'), .val (.int (e' - f')), .val (.int i'), .val (.int x)] [(.int (97 : Int32)), (.int x)])) (fun _ k_ => XS.bipush X3.here hx rfl (hb hby own_d25_58) k_) ?_
      by_cases hc60 : x < (97 : Int32)
      · refine own_w (T' := T3) (g' := (mkF m 70 #[.val (.ref a), .val (.int f'), .val (.int e'), .val (.int (e' - f')), .val (.int i'), .val (.int x)] [])) (fun _ k_ => XS.icmpYes X3.here hx rfl (pc0 := 60) (pc' := 70) rfl (hb hby own_d25_60) rfl (tlt hc60).1 (by decide) (by decide) k_) ?_
        refine own_w (T' := T3) (g' := (mkF m 72 #[.val (.ref a), .val (.int f'), .val (.int e'), .val (.int (e' - f')), .val (.int i'), .val (.int x)] [(.int x)])) (fun _ k_ => XS.iload X3.here hx rfl (hb hby own_d25_70) rfl k_) ?_
        refine own_w (T' := T3) (g' := (mkF m 74 #[.val (.ref a), .val (.int f'), .val (.int e'), .val (.int (e' - f')), .val (.int i'), .val (.int x)] [(.int (48 : Int32)), (.int x)])) (fun _ k_ => XS.bipush X3.here hx rfl (hb hby own_d25_72) k_) ?_
        by_cases hc74 : x < (48 : Int32)
        · refine own_w (T' := T3) (g' := (mkF m 84 #[.val (.ref a), .val (.int f'), .val (.int e'), .val (.int (e' - f')), .val (.int i'), .val (.int x)] [])) (fun _ k_ => XS.icmpYes X3.here hx rfl (pc0 := 74) (pc' := 84) rfl (hb hby own_d25_74) rfl (tlt hc74).1 (by decide) (by decide) k_) ?_
          refine own_w (T' := T3) (g' := (mkF m 86 #[.val (.ref a), .val (.int f'), .val (.int e'), .val (.int (e' - f')), .val (.int i'), .val (.int x)] [(.int x)])) (fun _ k_ => XS.iload X3.here hx rfl (hb hby own_d25_84) rfl k_) ?_
          refine own_w (T' := T3) (g' := (mkF m 88 #[.val (.ref a), .val (.int f'), .val (.int e'), .val (.int (e' - f')), .val (.int i'), .val (.int x)] [(.int (45 : Int32)), (.int x)])) (fun _ k_ => XS.bipush X3.here hx rfl (hb hby own_d25_86) k_) ?_
          by_cases hc88 : x = (45 : Int32)
          · refine own_w (T' := T3) (g' := (mkF m 93 #[.val (.ref a), .val (.int f'), .val (.int e'), .val (.int (e' - f')), .val (.int i'), .val (.int x)] [])) (fun _ k_ => XS.icmpYes X3.here hx rfl (pc0 := 88) (pc' := 93) rfl (hb hby own_d25_88) rfl (teq hc88).1 (by decide) (by decide) k_) ?_
            refine own_w (T' := T3) (g' := (mkF m 96 #[.val (.ref a), .val (.int f'), .val (.int e'), .val (.int (e' - f')), .val (.int (i' + (1 : Int32))), .val (.int x)] [])) (fun _ k_ => XS.iinc X3.here hx rfl (hb hby own_d25_93) rfl (l' := #[.val (.ref a), .val (.int f'), .val (.int e'), .val (.int (e' - f')), .val (.int (i' + (1 : Int32))), .val (.int x)]) rfl k_) ?_
            refine own_w (T' := T3) (g' := (mkF m 42 #[.val (.ref a), .val (.int f'), .val (.int e'), .val (.int (e' - f')), .val (.int (i' + (1 : Int32))), .val (.int x)] [])) (fun _ k_ => XS.goto X3.here hx rfl (pc0 := 96) (pc' := 42) rfl (hb hby own_d25_96) (by decide) (by decide) k_) ?_
            exact ih _ _ X3 e3 N3 _ _ (i + 1) (own_n1 hi (by omega)) (by omega) (by omega)
          · refine own_w (T' := T3) (g' := (mkF m 91 #[.val (.ref a), .val (.int f'), .val (.int e'), .val (.int (e' - f')), .val (.int i'), .val (.int x)] [])) (fun _ k_ => XS.icmpNo X3.here hx rfl (hb hby own_d25_88) rfl (feq hc88).1 k_) ?_
            exact absurd (own_okc_spec hok) (fun q => q.elim (fun q => q.1 hc60) (fun q => q.elim (fun q => q.1 hc74) (fun q => hc88 q)))
        · refine own_w (T' := T3) (g' := (mkF m 77 #[.val (.ref a), .val (.int f'), .val (.int e'), .val (.int (e' - f')), .val (.int i'), .val (.int x)] [])) (fun _ k_ => XS.icmpNo X3.here hx rfl (hb hby own_d25_74) rfl (flt hc74).1 k_) ?_
          refine own_w (T' := T3) (g' := (mkF m 79 #[.val (.ref a), .val (.int f'), .val (.int e'), .val (.int (e' - f')), .val (.int i'), .val (.int x)] [(.int x)])) (fun _ k_ => XS.iload X3.here hx rfl (hb hby own_d25_77) rfl k_) ?_
          refine own_w (T' := T3) (g' := (mkF m 81 #[.val (.ref a), .val (.int f'), .val (.int e'), .val (.int (e' - f')), .val (.int i'), .val (.int x)] [(.int (57 : Int32)), (.int x)])) (fun _ k_ => XS.bipush X3.here hx rfl (hb hby own_d25_79) k_) ?_
          by_cases hc81 : (57 : Int32) < x
          · refine own_w (T' := T3) (g' := (mkF m 84 #[.val (.ref a), .val (.int f'), .val (.int e'), .val (.int (e' - f')), .val (.int i'), .val (.int x)] [])) (fun _ k_ => XS.icmpNo X3.here hx rfl (hb hby own_d25_81) rfl (tlt hc81).2.2.2 k_) ?_
            refine own_w (T' := T3) (g' := (mkF m 86 #[.val (.ref a), .val (.int f'), .val (.int e'), .val (.int (e' - f')), .val (.int i'), .val (.int x)] [(.int x)])) (fun _ k_ => XS.iload X3.here hx rfl (hb hby own_d25_84) rfl k_) ?_
            refine own_w (T' := T3) (g' := (mkF m 88 #[.val (.ref a), .val (.int f'), .val (.int e'), .val (.int (e' - f')), .val (.int i'), .val (.int x)] [(.int (45 : Int32)), (.int x)])) (fun _ k_ => XS.bipush X3.here hx rfl (hb hby own_d25_86) k_) ?_
            by_cases hc88 : x = (45 : Int32)
            · refine own_w (T' := T3) (g' := (mkF m 93 #[.val (.ref a), .val (.int f'), .val (.int e'), .val (.int (e' - f')), .val (.int i'), .val (.int x)] [])) (fun _ k_ => XS.icmpYes X3.here hx rfl (pc0 := 88) (pc' := 93) rfl (hb hby own_d25_88) rfl (teq hc88).1 (by decide) (by decide) k_) ?_
              refine own_w (T' := T3) (g' := (mkF m 96 #[.val (.ref a), .val (.int f'), .val (.int e'), .val (.int (e' - f')), .val (.int (i' + (1 : Int32))), .val (.int x)] [])) (fun _ k_ => XS.iinc X3.here hx rfl (hb hby own_d25_93) rfl (l' := #[.val (.ref a), .val (.int f'), .val (.int e'), .val (.int (e' - f')), .val (.int (i' + (1 : Int32))), .val (.int x)]) rfl k_) ?_
              refine own_w (T' := T3) (g' := (mkF m 42 #[.val (.ref a), .val (.int f'), .val (.int e'), .val (.int (e' - f')), .val (.int (i' + (1 : Int32))), .val (.int x)] [])) (fun _ k_ => XS.goto X3.here hx rfl (pc0 := 96) (pc' := 42) rfl (hb hby own_d25_96) (by decide) (by decide) k_) ?_
              exact ih _ _ X3 e3 N3 _ _ (i + 1) (own_n1 hi (by omega)) (by omega) (by omega)
            · refine own_w (T' := T3) (g' := (mkF m 91 #[.val (.ref a), .val (.int f'), .val (.int e'), .val (.int (e' - f')), .val (.int i'), .val (.int x)] [])) (fun _ k_ => XS.icmpNo X3.here hx rfl (hb hby own_d25_88) rfl (feq hc88).1 k_) ?_
              exact absurd (own_okc_spec hok) (fun q => q.elim (fun q => q.1 hc60) (fun q => q.elim (fun q => q.2 hc81) (fun q => hc88 q)))
          · refine own_w (T' := T3) (g' := (mkF m 93 #[.val (.ref a), .val (.int f'), .val (.int e'), .val (.int (e' - f')), .val (.int i'), .val (.int x)] [])) (fun _ k_ => XS.icmpYes X3.here hx rfl (pc0 := 81) (pc' := 93) rfl (hb hby own_d25_81) rfl (flt hc81).2.2.2 (by decide) (by decide) k_) ?_
            refine own_w (T' := T3) (g' := (mkF m 96 #[.val (.ref a), .val (.int f'), .val (.int e'), .val (.int (e' - f')), .val (.int (i' + (1 : Int32))), .val (.int x)] [])) (fun _ k_ => XS.iinc X3.here hx rfl (hb hby own_d25_93) rfl (l' := #[.val (.ref a), .val (.int f'), .val (.int e'), .val (.int (e' - f')), .val (.int (i' + (1 : Int32))), .val (.int x)]) rfl k_) ?_
            refine own_w (T' := T3) (g' := (mkF m 42 #[.val (.ref a), .val (.int f'), .val (.int e'), .val (.int (e' - f')), .val (.int (i' + (1 : Int32))), .val (.int x)] [])) (fun _ k_ => XS.goto X3.here hx rfl (pc0 := 96) (pc' := 42) rfl (hb hby own_d25_96) (by decide) (by decide) k_) ?_
            exact ih _ _ X3 e3 N3 _ _ (i + 1) (own_n1 hi (by omega)) (by omega) (by omega)
      · refine own_w (T' := T3) (g' := (mkF m 63 #[.val (.ref a), .val (.int f'), .val (.int e'), .val (.int (e' - f')), .val (.int i'), .val (.int x)] [])) (fun _ k_ => XS.icmpNo X3.here hx rfl (hb hby own_d25_60) rfl (flt hc60).1 k_) ?_
        refine own_w (T' := T3) (g' := (mkF m 65 #[.val (.ref a), .val (.int f'), .val (.int e'), .val (.int (e' - f')), .val (.int i'), .val (.int x)] [(.int x)])) (fun _ k_ => XS.iload X3.here hx rfl (hb hby own_d25_63) rfl k_) ?_
        refine own_w (T' := T3) (g' := (mkF m 67 #[.val (.ref a), .val (.int f'), .val (.int e'), .val (.int (e' - f')), .val (.int i'), .val (.int x)] [(.int (122 : Int32)), (.int x)])) (fun _ k_ => XS.bipush X3.here hx rfl (hb hby own_d25_65) k_) ?_
        by_cases hc67 : (122 : Int32) < x
        · refine own_w (T' := T3) (g' := (mkF m 70 #[.val (.ref a), .val (.int f'), .val (.int e'), .val (.int (e' - f')), .val (.int i'), .val (.int x)] [])) (fun _ k_ => XS.icmpNo X3.here hx rfl (hb hby own_d25_67) rfl (tlt hc67).2.2.2 k_) ?_
          refine own_w (T' := T3) (g' := (mkF m 72 #[.val (.ref a), .val (.int f'), .val (.int e'), .val (.int (e' - f')), .val (.int i'), .val (.int x)] [(.int x)])) (fun _ k_ => XS.iload X3.here hx rfl (hb hby own_d25_70) rfl k_) ?_
          refine own_w (T' := T3) (g' := (mkF m 74 #[.val (.ref a), .val (.int f'), .val (.int e'), .val (.int (e' - f')), .val (.int i'), .val (.int x)] [(.int (48 : Int32)), (.int x)])) (fun _ k_ => XS.bipush X3.here hx rfl (hb hby own_d25_72) k_) ?_
          by_cases hc74 : x < (48 : Int32)
          · refine own_w (T' := T3) (g' := (mkF m 84 #[.val (.ref a), .val (.int f'), .val (.int e'), .val (.int (e' - f')), .val (.int i'), .val (.int x)] [])) (fun _ k_ => XS.icmpYes X3.here hx rfl (pc0 := 74) (pc' := 84) rfl (hb hby own_d25_74) rfl (tlt hc74).1 (by decide) (by decide) k_) ?_
            refine own_w (T' := T3) (g' := (mkF m 86 #[.val (.ref a), .val (.int f'), .val (.int e'), .val (.int (e' - f')), .val (.int i'), .val (.int x)] [(.int x)])) (fun _ k_ => XS.iload X3.here hx rfl (hb hby own_d25_84) rfl k_) ?_
            refine own_w (T' := T3) (g' := (mkF m 88 #[.val (.ref a), .val (.int f'), .val (.int e'), .val (.int (e' - f')), .val (.int i'), .val (.int x)] [(.int (45 : Int32)), (.int x)])) (fun _ k_ => XS.bipush X3.here hx rfl (hb hby own_d25_86) k_) ?_
            by_cases hc88 : x = (45 : Int32)
            · refine own_w (T' := T3) (g' := (mkF m 93 #[.val (.ref a), .val (.int f'), .val (.int e'), .val (.int (e' - f')), .val (.int i'), .val (.int x)] [])) (fun _ k_ => XS.icmpYes X3.here hx rfl (pc0 := 88) (pc' := 93) rfl (hb hby own_d25_88) rfl (teq hc88).1 (by decide) (by decide) k_) ?_
              refine own_w (T' := T3) (g' := (mkF m 96 #[.val (.ref a), .val (.int f'), .val (.int e'), .val (.int (e' - f')), .val (.int (i' + (1 : Int32))), .val (.int x)] [])) (fun _ k_ => XS.iinc X3.here hx rfl (hb hby own_d25_93) rfl (l' := #[.val (.ref a), .val (.int f'), .val (.int e'), .val (.int (e' - f')), .val (.int (i' + (1 : Int32))), .val (.int x)]) rfl k_) ?_
              refine own_w (T' := T3) (g' := (mkF m 42 #[.val (.ref a), .val (.int f'), .val (.int e'), .val (.int (e' - f')), .val (.int (i' + (1 : Int32))), .val (.int x)] [])) (fun _ k_ => XS.goto X3.here hx rfl (pc0 := 96) (pc' := 42) rfl (hb hby own_d25_96) (by decide) (by decide) k_) ?_
              exact ih _ _ X3 e3 N3 _ _ (i + 1) (own_n1 hi (by omega)) (by omega) (by omega)
            · refine own_w (T' := T3) (g' := (mkF m 91 #[.val (.ref a), .val (.int f'), .val (.int e'), .val (.int (e' - f')), .val (.int i'), .val (.int x)] [])) (fun _ k_ => XS.icmpNo X3.here hx rfl (hb hby own_d25_88) rfl (feq hc88).1 k_) ?_
              exact absurd (own_okc_spec hok) (fun q => q.elim (fun q => q.2 hc67) (fun q => q.elim (fun q => q.1 hc74) (fun q => hc88 q)))
          · refine own_w (T' := T3) (g' := (mkF m 77 #[.val (.ref a), .val (.int f'), .val (.int e'), .val (.int (e' - f')), .val (.int i'), .val (.int x)] [])) (fun _ k_ => XS.icmpNo X3.here hx rfl (hb hby own_d25_74) rfl (flt hc74).1 k_) ?_
            refine own_w (T' := T3) (g' := (mkF m 79 #[.val (.ref a), .val (.int f'), .val (.int e'), .val (.int (e' - f')), .val (.int i'), .val (.int x)] [(.int x)])) (fun _ k_ => XS.iload X3.here hx rfl (hb hby own_d25_77) rfl k_) ?_
            refine own_w (T' := T3) (g' := (mkF m 81 #[.val (.ref a), .val (.int f'), .val (.int e'), .val (.int (e' - f')), .val (.int i'), .val (.int x)] [(.int (57 : Int32)), (.int x)])) (fun _ k_ => XS.bipush X3.here hx rfl (hb hby own_d25_79) k_) ?_
            by_cases hc81 : (57 : Int32) < x
            · refine own_w (T' := T3) (g' := (mkF m 84 #[.val (.ref a), .val (.int f'), .val (.int e'), .val (.int (e' - f')), .val (.int i'), .val (.int x)] [])) (fun _ k_ => XS.icmpNo X3.here hx rfl (hb hby own_d25_81) rfl (tlt hc81).2.2.2 k_) ?_
              refine own_w (T' := T3) (g' := (mkF m 86 #[.val (.ref a), .val (.int f'), .val (.int e'), .val (.int (e' - f')), .val (.int i'), .val (.int x)] [(.int x)])) (fun _ k_ => XS.iload X3.here hx rfl (hb hby own_d25_84) rfl k_) ?_
              refine own_w (T' := T3) (g' := (mkF m 88 #[.val (.ref a), .val (.int f'), .val (.int e'), .val (.int (e' - f')), .val (.int i'), .val (.int x)] [(.int (45 : Int32)), (.int x)])) (fun _ k_ => XS.bipush X3.here hx rfl (hb hby own_d25_86) k_) ?_
              by_cases hc88 : x = (45 : Int32)
              · refine own_w (T' := T3) (g' := (mkF m 93 #[.val (.ref a), .val (.int f'), .val (.int e'), .val (.int (e' - f')), .val (.int i'), .val (.int x)] [])) (fun _ k_ => XS.icmpYes X3.here hx rfl (pc0 := 88) (pc' := 93) rfl (hb hby own_d25_88) rfl (teq hc88).1 (by decide) (by decide) k_) ?_
                refine own_w (T' := T3) (g' := (mkF m 96 #[.val (.ref a), .val (.int f'), .val (.int e'), .val (.int (e' - f')), .val (.int (i' + (1 : Int32))), .val (.int x)] [])) (fun _ k_ => XS.iinc X3.here hx rfl (hb hby own_d25_93) rfl (l' := #[.val (.ref a), .val (.int f'), .val (.int e'), .val (.int (e' - f')), .val (.int (i' + (1 : Int32))), .val (.int x)]) rfl k_) ?_
                refine own_w (T' := T3) (g' := (mkF m 42 #[.val (.ref a), .val (.int f'), .val (.int e'), .val (.int (e' - f')), .val (.int (i' + (1 : Int32))), .val (.int x)] [])) (fun _ k_ => XS.goto X3.here hx rfl (pc0 := 96) (pc' := 42) rfl (hb hby own_d25_96) (by decide) (by decide) k_) ?_
                exact ih _ _ X3 e3 N3 _ _ (i + 1) (own_n1 hi (by omega)) (by omega) (by omega)
              · refine own_w (T' := T3) (g' := (mkF m 91 #[.val (.ref a), .val (.int f'), .val (.int e'), .val (.int (e' - f')), .val (.int i'), .val (.int x)] [])) (fun _ k_ => XS.icmpNo X3.here hx rfl (hb hby own_d25_88) rfl (feq hc88).1 k_) ?_
                exact absurd (own_okc_spec hok) (fun q => q.elim (fun q => q.2 hc67) (fun q => q.elim (fun q => q.2 hc81) (fun q => hc88 q)))
            · refine own_w (T' := T3) (g' := (mkF m 93 #[.val (.ref a), .val (.int f'), .val (.int e'), .val (.int (e' - f')), .val (.int i'), .val (.int x)] [])) (fun _ k_ => XS.icmpYes X3.here hx rfl (pc0 := 81) (pc' := 93) rfl (hb hby own_d25_81) rfl (flt hc81).2.2.2 (by decide) (by decide) k_) ?_
              refine own_w (T' := T3) (g' := (mkF m 96 #[.val (.ref a), .val (.int f'), .val (.int e'), .val (.int (e' - f')), .val (.int (i' + (1 : Int32))), .val (.int x)] [])) (fun _ k_ => XS.iinc X3.here hx rfl (hb hby own_d25_93) rfl (l' := #[.val (.ref a), .val (.int f'), .val (.int e'), .val (.int (e' - f')), .val (.int (i' + (1 : Int32))), .val (.int x)]) rfl k_) ?_
              refine own_w (T' := T3) (g' := (mkF m 42 #[.val (.ref a), .val (.int f'), .val (.int e'), .val (.int (e' - f')), .val (.int (i' + (1 : Int32))), .val (.int x)] [])) (fun _ k_ => XS.goto X3.here hx rfl (pc0 := 96) (pc' := 42) rfl (hb hby own_d25_96) (by decide) (by decide) k_) ?_
              exact ih _ _ X3 e3 N3 _ _ (i + 1) (own_n1 hi (by omega)) (by omega) (by omega)
        · refine own_w (T' := T3) (g' := (mkF m 93 #[.val (.ref a), .val (.int f'), .val (.int e'), .val (.int (e' - f')), .val (.int i'), .val (.int x)] [])) (fun _ k_ => XS.icmpYes X3.here hx rfl (pc0 := 67) (pc' := 93) rfl (hb hby own_d25_67) rfl (flt hc67).2.2.2 (by decide) (by decide) k_) ?_
          refine own_w (T' := T3) (g' := (mkF m 96 #[.val (.ref a), .val (.int f'), .val (.int e'), .val (.int (e' - f')), .val (.int (i' + (1 : Int32))), .val (.int x)] [])) (fun _ k_ => XS.iinc X3.here hx rfl (hb hby own_d25_93) rfl (l' := #[.val (.ref a), .val (.int f'), .val (.int e'), .val (.int (e' - f')), .val (.int (i' + (1 : Int32))), .val (.int x)]) rfl k_) ?_
          refine own_w (T' := T3) (g' := (mkF m 42 #[.val (.ref a), .val (.int f'), .val (.int e'), .val (.int (e' - f')), .val (.int (i' + (1 : Int32))), .val (.int x)] [])) (fun _ k_ => XS.goto X3.here hx rfl (pc0 := 96) (pc' := 42) rfl (hb hby own_d25_96) (by decide) (by decide) k_) ?_
          exact ih _ _ X3 e3 N3 _ _ (i + 1) (own_n1 hi (by omega)) (by omega) (by omega)
  have hi : f'.toInt = (f : Int) := hf
  obtain ⟨x, hx', hok⟩ := l6 f (Nat.le_refl _) l1
  refine own_w (T' := T2) (g' := (mkF m 44 #[.val (.ref a), .val (.int f'), .val (.int e'), .val (.int (e' - f')), .val (.int f'), .unset] [(.int f')])) (fun _ k_ => XS.iload X2.here hx rfl (hb hby own_d25_42) rfl k_) ?_
  refine own_w (T' := T2) (g' := (mkF m 45 #[.val (.ref a), .val (.int f'), .val (.int e'), .val (.int (e' - f')), .val (.int f'), .unset] [(.int e'), (.int f')])) (fun _ k_ => XS.iloadN X2.here hx rfl (hb hby own_d25_44) rfl k_) ?_
  refine own_w (T' := T2) (g' := (mkF m 48 #[.val (.ref a), .val (.int f'), .val (.int e'), .val (.int (e' - f')), .val (.int f'), .unset] [])) (fun _ k_ => XS.icmpNo X2.here hx rfl (hb hby own_d25_45) rfl (tlt ((own_lti hf he).mpr l1)).2.1 k_) ?_
  refine own_w (T' := T2) (g' := (mkF m 49 #[.val (.ref a), .val (.int f'), .val (.int e'), .val (.int (e' - f')), .val (.int f'), .unset] [(.ref a)])) (fun _ k_ => XS.aloadN X2.here hx rfl (hb hby own_d25_48) rfl rfl k_) ?_
  refine own_w (T' := T2) (g' := (mkF m 51 #[.val (.ref a), .val (.int f'), .val (.int e'), .val (.int (e' - f')), .val (.int f'), .unset] [(.int f'), (.ref a)])) (fun _ k_ => XS.iload X2.here hx rfl (hb hby own_d25_49) rfl k_) ?_
  obtain ⟨cq4, kq4, q4a, q4b, q4c⟩ := isOf hZ e2 Sa.1
  obtain ⟨_, _, ⟨T4, L4, k4, n4⟩, -, X4, ⟨Lc4, hQ4, l4, y4, z4⟩, st4⟩ := X2.virtualBack hx (y := (⟨"java/lang/String", "charAt", "(I)C"⟩ : MethodName)) (z := (⟨"java/lang/String", "charAt", "(I)C"⟩ : MethodName)) hown (mvT hZ (hw _ (List.mem_of_getElem? (i := 62) rfl))) (mvT hZ (hw _ (List.mem_of_getElem? (i := 63) rfl))) (notFace_of_selects (args := #[]) (mvT hZ (hw _ (List.mem_of_getElem? (i := 65) rfl)))) (mvT hZ (hw _ (List.mem_of_getElem? (i := 65) rfl))) (mvT hZ (hw _ (List.mem_of_getElem? (i := 64) rfl))) (by decide) (backOf (W := 0) (own_rm14 l Z a0 hw [] a f' xs cs sf f x h0 n0 Z0 Sa lx hcs S hsf SF hasc hf hx') hZ (hw _ (List.mem_of_getElem? (i := 66) rfl)) (hw _ (List.mem_of_getElem? (i := 11) rfl)) (by decide) (by decide)) q4a q4c (g := (mkF m 51 #[.val (.ref a), .val (.int f'), .val (.int e'), .val (.int (e' - f')), .val (.int f'), .unset] [(.int f'), (.ref a)])) rfl (by rw [hml]; rfl) (Steps.refl _) (argsL := [(.int f')]) (rest := []) (lenOf own_pd9 rfl) rfl (by show 2 * 0 + _ ≤ _; exact Nat.le_of_eq rfl) (hb hby own_d25_51) (fun _ _ => ⟨rfl, e2, (by decide : 0 + 0 ≤ _), (by decide : 0 + 0 ≤ _)⟩)
  dsimp only [Pt.U, Pt.locs, Pt.cells, Pt.slots] at X4 l4 y4 z4 st4 hQ4
  subst l4 y4 z4
  obtain ⟨rfl, N4q, e4⟩ := hQ4
  have N4 := Fr.app N2 N4q
  refine own_t (T' := T4) (g' := (mkF m 54 #[.val (.ref a), .val (.int f'), .val (.int e'), .val (.int (e' - f')), .val (.int f'), .unset] [(.int x)])) st4 ?_
  refine own_w (T' := T4) (g' := (mkF m 56 #[.val (.ref a), .val (.int f'), .val (.int e'), .val (.int (e' - f')), .val (.int f'), .val (.int x)] [])) (fun _ k_ => XS.istore X4.here hx rfl (hb hby own_d25_54) rfl (l' := #[.val (.ref a), .val (.int f'), .val (.int e'), .val (.int (e' - f')), .val (.int f'), .val (.int x)]) rfl k_) ?_
  refine own_w (T' := T4) (g' := (mkF m 58 #[.val (.ref a), .val (.int f'), .val (.int e'), .val (.int (e' - f')), .val (.int f'), .val (.int x)] [(.int x)])) (fun _ k_ => XS.iload X4.here hx rfl (hb hby own_d25_56) rfl k_) ?_
  refine own_w (T' := T4) (g' := (mkF m 60 #[.val (.ref a), .val (.int f'), .val (.int e'), .val (.int (e' - f')), .val (.int f'), .val (.int x)] [(.int (97 : Int32)), (.int x)])) (fun _ k_ => XS.bipush X4.here hx rfl (hb hby own_d25_58) k_) ?_
  by_cases hc60 : x < (97 : Int32)
  · refine own_w (T' := T4) (g' := (mkF m 70 #[.val (.ref a), .val (.int f'), .val (.int e'), .val (.int (e' - f')), .val (.int f'), .val (.int x)] [])) (fun _ k_ => XS.icmpYes X4.here hx rfl (pc0 := 60) (pc' := 70) rfl (hb hby own_d25_60) rfl (tlt hc60).1 (by decide) (by decide) k_) ?_
    refine own_w (T' := T4) (g' := (mkF m 72 #[.val (.ref a), .val (.int f'), .val (.int e'), .val (.int (e' - f')), .val (.int f'), .val (.int x)] [(.int x)])) (fun _ k_ => XS.iload X4.here hx rfl (hb hby own_d25_70) rfl k_) ?_
    refine own_w (T' := T4) (g' := (mkF m 74 #[.val (.ref a), .val (.int f'), .val (.int e'), .val (.int (e' - f')), .val (.int f'), .val (.int x)] [(.int (48 : Int32)), (.int x)])) (fun _ k_ => XS.bipush X4.here hx rfl (hb hby own_d25_72) k_) ?_
    by_cases hc74 : x < (48 : Int32)
    · refine own_w (T' := T4) (g' := (mkF m 84 #[.val (.ref a), .val (.int f'), .val (.int e'), .val (.int (e' - f')), .val (.int f'), .val (.int x)] [])) (fun _ k_ => XS.icmpYes X4.here hx rfl (pc0 := 74) (pc' := 84) rfl (hb hby own_d25_74) rfl (tlt hc74).1 (by decide) (by decide) k_) ?_
      refine own_w (T' := T4) (g' := (mkF m 86 #[.val (.ref a), .val (.int f'), .val (.int e'), .val (.int (e' - f')), .val (.int f'), .val (.int x)] [(.int x)])) (fun _ k_ => XS.iload X4.here hx rfl (hb hby own_d25_84) rfl k_) ?_
      refine own_w (T' := T4) (g' := (mkF m 88 #[.val (.ref a), .val (.int f'), .val (.int e'), .val (.int (e' - f')), .val (.int f'), .val (.int x)] [(.int (45 : Int32)), (.int x)])) (fun _ k_ => XS.bipush X4.here hx rfl (hb hby own_d25_86) k_) ?_
      by_cases hc88 : x = (45 : Int32)
      · refine own_w (T' := T4) (g' := (mkF m 93 #[.val (.ref a), .val (.int f'), .val (.int e'), .val (.int (e' - f')), .val (.int f'), .val (.int x)] [])) (fun _ k_ => XS.icmpYes X4.here hx rfl (pc0 := 88) (pc' := 93) rfl (hb hby own_d25_88) rfl (teq hc88).1 (by decide) (by decide) k_) ?_
        refine own_w (T' := T4) (g' := (mkF m 96 #[.val (.ref a), .val (.int f'), .val (.int e'), .val (.int (e' - f')), .val (.int (f' + (1 : Int32))), .val (.int x)] [])) (fun _ k_ => XS.iinc X4.here hx rfl (hb hby own_d25_93) rfl (l' := #[.val (.ref a), .val (.int f'), .val (.int e'), .val (.int (e' - f')), .val (.int (f' + (1 : Int32))), .val (.int x)]) rfl k_) ?_
        refine own_w (T' := T4) (g' := (mkF m 42 #[.val (.ref a), .val (.int f'), .val (.int e'), .val (.int (e' - f')), .val (.int (f' + (1 : Int32))), .val (.int x)] [])) (fun _ k_ => XS.goto X4.here hx rfl (pc0 := 96) (pc' := 42) rfl (hb hby own_d25_96) (by decide) (by decide) k_) ?_
        exact loop (en - (f + 1)) _ _ X4 e4 N4 _ _ (f + 1) (own_n1 hf (by omega)) (by omega) (by omega)
      · refine own_w (T' := T4) (g' := (mkF m 91 #[.val (.ref a), .val (.int f'), .val (.int e'), .val (.int (e' - f')), .val (.int f'), .val (.int x)] [])) (fun _ k_ => XS.icmpNo X4.here hx rfl (hb hby own_d25_88) rfl (feq hc88).1 k_) ?_
        exact absurd (own_okc_spec hok) (fun q => q.elim (fun q => q.1 hc60) (fun q => q.elim (fun q => q.1 hc74) (fun q => hc88 q)))
    · refine own_w (T' := T4) (g' := (mkF m 77 #[.val (.ref a), .val (.int f'), .val (.int e'), .val (.int (e' - f')), .val (.int f'), .val (.int x)] [])) (fun _ k_ => XS.icmpNo X4.here hx rfl (hb hby own_d25_74) rfl (flt hc74).1 k_) ?_
      refine own_w (T' := T4) (g' := (mkF m 79 #[.val (.ref a), .val (.int f'), .val (.int e'), .val (.int (e' - f')), .val (.int f'), .val (.int x)] [(.int x)])) (fun _ k_ => XS.iload X4.here hx rfl (hb hby own_d25_77) rfl k_) ?_
      refine own_w (T' := T4) (g' := (mkF m 81 #[.val (.ref a), .val (.int f'), .val (.int e'), .val (.int (e' - f')), .val (.int f'), .val (.int x)] [(.int (57 : Int32)), (.int x)])) (fun _ k_ => XS.bipush X4.here hx rfl (hb hby own_d25_79) k_) ?_
      by_cases hc81 : (57 : Int32) < x
      · refine own_w (T' := T4) (g' := (mkF m 84 #[.val (.ref a), .val (.int f'), .val (.int e'), .val (.int (e' - f')), .val (.int f'), .val (.int x)] [])) (fun _ k_ => XS.icmpNo X4.here hx rfl (hb hby own_d25_81) rfl (tlt hc81).2.2.2 k_) ?_
        refine own_w (T' := T4) (g' := (mkF m 86 #[.val (.ref a), .val (.int f'), .val (.int e'), .val (.int (e' - f')), .val (.int f'), .val (.int x)] [(.int x)])) (fun _ k_ => XS.iload X4.here hx rfl (hb hby own_d25_84) rfl k_) ?_
        refine own_w (T' := T4) (g' := (mkF m 88 #[.val (.ref a), .val (.int f'), .val (.int e'), .val (.int (e' - f')), .val (.int f'), .val (.int x)] [(.int (45 : Int32)), (.int x)])) (fun _ k_ => XS.bipush X4.here hx rfl (hb hby own_d25_86) k_) ?_
        by_cases hc88 : x = (45 : Int32)
        · refine own_w (T' := T4) (g' := (mkF m 93 #[.val (.ref a), .val (.int f'), .val (.int e'), .val (.int (e' - f')), .val (.int f'), .val (.int x)] [])) (fun _ k_ => XS.icmpYes X4.here hx rfl (pc0 := 88) (pc' := 93) rfl (hb hby own_d25_88) rfl (teq hc88).1 (by decide) (by decide) k_) ?_
          refine own_w (T' := T4) (g' := (mkF m 96 #[.val (.ref a), .val (.int f'), .val (.int e'), .val (.int (e' - f')), .val (.int (f' + (1 : Int32))), .val (.int x)] [])) (fun _ k_ => XS.iinc X4.here hx rfl (hb hby own_d25_93) rfl (l' := #[.val (.ref a), .val (.int f'), .val (.int e'), .val (.int (e' - f')), .val (.int (f' + (1 : Int32))), .val (.int x)]) rfl k_) ?_
          refine own_w (T' := T4) (g' := (mkF m 42 #[.val (.ref a), .val (.int f'), .val (.int e'), .val (.int (e' - f')), .val (.int (f' + (1 : Int32))), .val (.int x)] [])) (fun _ k_ => XS.goto X4.here hx rfl (pc0 := 96) (pc' := 42) rfl (hb hby own_d25_96) (by decide) (by decide) k_) ?_
          exact loop (en - (f + 1)) _ _ X4 e4 N4 _ _ (f + 1) (own_n1 hf (by omega)) (by omega) (by omega)
        · refine own_w (T' := T4) (g' := (mkF m 91 #[.val (.ref a), .val (.int f'), .val (.int e'), .val (.int (e' - f')), .val (.int f'), .val (.int x)] [])) (fun _ k_ => XS.icmpNo X4.here hx rfl (hb hby own_d25_88) rfl (feq hc88).1 k_) ?_
          exact absurd (own_okc_spec hok) (fun q => q.elim (fun q => q.1 hc60) (fun q => q.elim (fun q => q.2 hc81) (fun q => hc88 q)))
      · refine own_w (T' := T4) (g' := (mkF m 93 #[.val (.ref a), .val (.int f'), .val (.int e'), .val (.int (e' - f')), .val (.int f'), .val (.int x)] [])) (fun _ k_ => XS.icmpYes X4.here hx rfl (pc0 := 81) (pc' := 93) rfl (hb hby own_d25_81) rfl (flt hc81).2.2.2 (by decide) (by decide) k_) ?_
        refine own_w (T' := T4) (g' := (mkF m 96 #[.val (.ref a), .val (.int f'), .val (.int e'), .val (.int (e' - f')), .val (.int (f' + (1 : Int32))), .val (.int x)] [])) (fun _ k_ => XS.iinc X4.here hx rfl (hb hby own_d25_93) rfl (l' := #[.val (.ref a), .val (.int f'), .val (.int e'), .val (.int (e' - f')), .val (.int (f' + (1 : Int32))), .val (.int x)]) rfl k_) ?_
        refine own_w (T' := T4) (g' := (mkF m 42 #[.val (.ref a), .val (.int f'), .val (.int e'), .val (.int (e' - f')), .val (.int (f' + (1 : Int32))), .val (.int x)] [])) (fun _ k_ => XS.goto X4.here hx rfl (pc0 := 96) (pc' := 42) rfl (hb hby own_d25_96) (by decide) (by decide) k_) ?_
        exact loop (en - (f + 1)) _ _ X4 e4 N4 _ _ (f + 1) (own_n1 hf (by omega)) (by omega) (by omega)
  · refine own_w (T' := T4) (g' := (mkF m 63 #[.val (.ref a), .val (.int f'), .val (.int e'), .val (.int (e' - f')), .val (.int f'), .val (.int x)] [])) (fun _ k_ => XS.icmpNo X4.here hx rfl (hb hby own_d25_60) rfl (flt hc60).1 k_) ?_
    refine own_w (T' := T4) (g' := (mkF m 65 #[.val (.ref a), .val (.int f'), .val (.int e'), .val (.int (e' - f')), .val (.int f'), .val (.int x)] [(.int x)])) (fun _ k_ => XS.iload X4.here hx rfl (hb hby own_d25_63) rfl k_) ?_
    refine own_w (T' := T4) (g' := (mkF m 67 #[.val (.ref a), .val (.int f'), .val (.int e'), .val (.int (e' - f')), .val (.int f'), .val (.int x)] [(.int (122 : Int32)), (.int x)])) (fun _ k_ => XS.bipush X4.here hx rfl (hb hby own_d25_65) k_) ?_
    by_cases hc67 : (122 : Int32) < x
    · refine own_w (T' := T4) (g' := (mkF m 70 #[.val (.ref a), .val (.int f'), .val (.int e'), .val (.int (e' - f')), .val (.int f'), .val (.int x)] [])) (fun _ k_ => XS.icmpNo X4.here hx rfl (hb hby own_d25_67) rfl (tlt hc67).2.2.2 k_) ?_
      refine own_w (T' := T4) (g' := (mkF m 72 #[.val (.ref a), .val (.int f'), .val (.int e'), .val (.int (e' - f')), .val (.int f'), .val (.int x)] [(.int x)])) (fun _ k_ => XS.iload X4.here hx rfl (hb hby own_d25_70) rfl k_) ?_
      refine own_w (T' := T4) (g' := (mkF m 74 #[.val (.ref a), .val (.int f'), .val (.int e'), .val (.int (e' - f')), .val (.int f'), .val (.int x)] [(.int (48 : Int32)), (.int x)])) (fun _ k_ => XS.bipush X4.here hx rfl (hb hby own_d25_72) k_) ?_
      by_cases hc74 : x < (48 : Int32)
      · refine own_w (T' := T4) (g' := (mkF m 84 #[.val (.ref a), .val (.int f'), .val (.int e'), .val (.int (e' - f')), .val (.int f'), .val (.int x)] [])) (fun _ k_ => XS.icmpYes X4.here hx rfl (pc0 := 74) (pc' := 84) rfl (hb hby own_d25_74) rfl (tlt hc74).1 (by decide) (by decide) k_) ?_
        refine own_w (T' := T4) (g' := (mkF m 86 #[.val (.ref a), .val (.int f'), .val (.int e'), .val (.int (e' - f')), .val (.int f'), .val (.int x)] [(.int x)])) (fun _ k_ => XS.iload X4.here hx rfl (hb hby own_d25_84) rfl k_) ?_
        refine own_w (T' := T4) (g' := (mkF m 88 #[.val (.ref a), .val (.int f'), .val (.int e'), .val (.int (e' - f')), .val (.int f'), .val (.int x)] [(.int (45 : Int32)), (.int x)])) (fun _ k_ => XS.bipush X4.here hx rfl (hb hby own_d25_86) k_) ?_
        by_cases hc88 : x = (45 : Int32)
        · refine own_w (T' := T4) (g' := (mkF m 93 #[.val (.ref a), .val (.int f'), .val (.int e'), .val (.int (e' - f')), .val (.int f'), .val (.int x)] [])) (fun _ k_ => XS.icmpYes X4.here hx rfl (pc0 := 88) (pc' := 93) rfl (hb hby own_d25_88) rfl (teq hc88).1 (by decide) (by decide) k_) ?_
          refine own_w (T' := T4) (g' := (mkF m 96 #[.val (.ref a), .val (.int f'), .val (.int e'), .val (.int (e' - f')), .val (.int (f' + (1 : Int32))), .val (.int x)] [])) (fun _ k_ => XS.iinc X4.here hx rfl (hb hby own_d25_93) rfl (l' := #[.val (.ref a), .val (.int f'), .val (.int e'), .val (.int (e' - f')), .val (.int (f' + (1 : Int32))), .val (.int x)]) rfl k_) ?_
          refine own_w (T' := T4) (g' := (mkF m 42 #[.val (.ref a), .val (.int f'), .val (.int e'), .val (.int (e' - f')), .val (.int (f' + (1 : Int32))), .val (.int x)] [])) (fun _ k_ => XS.goto X4.here hx rfl (pc0 := 96) (pc' := 42) rfl (hb hby own_d25_96) (by decide) (by decide) k_) ?_
          exact loop (en - (f + 1)) _ _ X4 e4 N4 _ _ (f + 1) (own_n1 hf (by omega)) (by omega) (by omega)
        · refine own_w (T' := T4) (g' := (mkF m 91 #[.val (.ref a), .val (.int f'), .val (.int e'), .val (.int (e' - f')), .val (.int f'), .val (.int x)] [])) (fun _ k_ => XS.icmpNo X4.here hx rfl (hb hby own_d25_88) rfl (feq hc88).1 k_) ?_
          exact absurd (own_okc_spec hok) (fun q => q.elim (fun q => q.2 hc67) (fun q => q.elim (fun q => q.1 hc74) (fun q => hc88 q)))
      · refine own_w (T' := T4) (g' := (mkF m 77 #[.val (.ref a), .val (.int f'), .val (.int e'), .val (.int (e' - f')), .val (.int f'), .val (.int x)] [])) (fun _ k_ => XS.icmpNo X4.here hx rfl (hb hby own_d25_74) rfl (flt hc74).1 k_) ?_
        refine own_w (T' := T4) (g' := (mkF m 79 #[.val (.ref a), .val (.int f'), .val (.int e'), .val (.int (e' - f')), .val (.int f'), .val (.int x)] [(.int x)])) (fun _ k_ => XS.iload X4.here hx rfl (hb hby own_d25_77) rfl k_) ?_
        refine own_w (T' := T4) (g' := (mkF m 81 #[.val (.ref a), .val (.int f'), .val (.int e'), .val (.int (e' - f')), .val (.int f'), .val (.int x)] [(.int (57 : Int32)), (.int x)])) (fun _ k_ => XS.bipush X4.here hx rfl (hb hby own_d25_79) k_) ?_
        by_cases hc81 : (57 : Int32) < x
        · refine own_w (T' := T4) (g' := (mkF m 84 #[.val (.ref a), .val (.int f'), .val (.int e'), .val (.int (e' - f')), .val (.int f'), .val (.int x)] [])) (fun _ k_ => XS.icmpNo X4.here hx rfl (hb hby own_d25_81) rfl (tlt hc81).2.2.2 k_) ?_
          refine own_w (T' := T4) (g' := (mkF m 86 #[.val (.ref a), .val (.int f'), .val (.int e'), .val (.int (e' - f')), .val (.int f'), .val (.int x)] [(.int x)])) (fun _ k_ => XS.iload X4.here hx rfl (hb hby own_d25_84) rfl k_) ?_
          refine own_w (T' := T4) (g' := (mkF m 88 #[.val (.ref a), .val (.int f'), .val (.int e'), .val (.int (e' - f')), .val (.int f'), .val (.int x)] [(.int (45 : Int32)), (.int x)])) (fun _ k_ => XS.bipush X4.here hx rfl (hb hby own_d25_86) k_) ?_
          by_cases hc88 : x = (45 : Int32)
          · refine own_w (T' := T4) (g' := (mkF m 93 #[.val (.ref a), .val (.int f'), .val (.int e'), .val (.int (e' - f')), .val (.int f'), .val (.int x)] [])) (fun _ k_ => XS.icmpYes X4.here hx rfl (pc0 := 88) (pc' := 93) rfl (hb hby own_d25_88) rfl (teq hc88).1 (by decide) (by decide) k_) ?_
            refine own_w (T' := T4) (g' := (mkF m 96 #[.val (.ref a), .val (.int f'), .val (.int e'), .val (.int (e' - f')), .val (.int (f' + (1 : Int32))), .val (.int x)] [])) (fun _ k_ => XS.iinc X4.here hx rfl (hb hby own_d25_93) rfl (l' := #[.val (.ref a), .val (.int f'), .val (.int e'), .val (.int (e' - f')), .val (.int (f' + (1 : Int32))), .val (.int x)]) rfl k_) ?_
            refine own_w (T' := T4) (g' := (mkF m 42 #[.val (.ref a), .val (.int f'), .val (.int e'), .val (.int (e' - f')), .val (.int (f' + (1 : Int32))), .val (.int x)] [])) (fun _ k_ => XS.goto X4.here hx rfl (pc0 := 96) (pc' := 42) rfl (hb hby own_d25_96) (by decide) (by decide) k_) ?_
            exact loop (en - (f + 1)) _ _ X4 e4 N4 _ _ (f + 1) (own_n1 hf (by omega)) (by omega) (by omega)
          · refine own_w (T' := T4) (g' := (mkF m 91 #[.val (.ref a), .val (.int f'), .val (.int e'), .val (.int (e' - f')), .val (.int f'), .val (.int x)] [])) (fun _ k_ => XS.icmpNo X4.here hx rfl (hb hby own_d25_88) rfl (feq hc88).1 k_) ?_
            exact absurd (own_okc_spec hok) (fun q => q.elim (fun q => q.2 hc67) (fun q => q.elim (fun q => q.2 hc81) (fun q => hc88 q)))
        · refine own_w (T' := T4) (g' := (mkF m 93 #[.val (.ref a), .val (.int f'), .val (.int e'), .val (.int (e' - f')), .val (.int f'), .val (.int x)] [])) (fun _ k_ => XS.icmpYes X4.here hx rfl (pc0 := 81) (pc' := 93) rfl (hb hby own_d25_81) rfl (flt hc81).2.2.2 (by decide) (by decide) k_) ?_
          refine own_w (T' := T4) (g' := (mkF m 96 #[.val (.ref a), .val (.int f'), .val (.int e'), .val (.int (e' - f')), .val (.int (f' + (1 : Int32))), .val (.int x)] [])) (fun _ k_ => XS.iinc X4.here hx rfl (hb hby own_d25_93) rfl (l' := #[.val (.ref a), .val (.int f'), .val (.int e'), .val (.int (e' - f')), .val (.int (f' + (1 : Int32))), .val (.int x)]) rfl k_) ?_
          refine own_w (T' := T4) (g' := (mkF m 42 #[.val (.ref a), .val (.int f'), .val (.int e'), .val (.int (e' - f')), .val (.int (f' + (1 : Int32))), .val (.int x)] [])) (fun _ k_ => XS.goto X4.here hx rfl (pc0 := 96) (pc' := 42) rfl (hb hby own_d25_96) (by decide) (by decide) k_) ?_
          exact loop (en - (f + 1)) _ _ X4 e4 N4 _ _ (f + 1) (own_n1 hf (by omega)) (by omega) (by omega)
    · refine own_w (T' := T4) (g' := (mkF m 93 #[.val (.ref a), .val (.int f'), .val (.int e'), .val (.int (e' - f')), .val (.int f'), .val (.int x)] [])) (fun _ k_ => XS.icmpYes X4.here hx rfl (pc0 := 67) (pc' := 93) rfl (hb hby own_d25_67) rfl (flt hc67).2.2.2 (by decide) (by decide) k_) ?_
      refine own_w (T' := T4) (g' := (mkF m 96 #[.val (.ref a), .val (.int f'), .val (.int e'), .val (.int (e' - f')), .val (.int (f' + (1 : Int32))), .val (.int x)] [])) (fun _ k_ => XS.iinc X4.here hx rfl (hb hby own_d25_93) rfl (l' := #[.val (.ref a), .val (.int f'), .val (.int e'), .val (.int (e' - f')), .val (.int (f' + (1 : Int32))), .val (.int x)]) rfl k_) ?_
      refine own_w (T' := T4) (g' := (mkF m 42 #[.val (.ref a), .val (.int f'), .val (.int e'), .val (.int (e' - f')), .val (.int (f' + (1 : Int32))), .val (.int x)] [])) (fun _ k_ => XS.goto X4.here hx rfl (pc0 := 96) (pc' := 42) rfl (hb hby own_d25_96) (by decide) (by decide) k_) ?_
      exact loop (en - (f + 1)) _ _ X4 e4 N4 _ _ (f + 1) (own_n1 hf (by omega)) (by omega) (by omega)
theorem own_d26_0 : decode prog_13_method_1_code 0 = .ok (.aload_n 0, 1) := by decide +kernel
theorem own_d26_1 : decode prog_13_method_1_code 1 = .ok (.invokespecial 3, 3) := by decide +kernel
theorem own_d26_4 : decode prog_13_method_1_code 4 = .ok (.aload_n 0, 1) := by decide +kernel
theorem own_d26_5 : decode prog_13_method_1_code 5 = .ok (.aload_n 1, 1) := by decide +kernel
theorem own_d26_6 : decode prog_13_method_1_code 6 = .ok (.putfield 9, 3) := by decide +kernel
theorem own_d26_9 : decode prog_13_method_1_code 9 = .ok (.return_, 1) := by decide +kernel
theorem own_rm26_ef (m : MethodId) (nn : Addr) (a : Addr) : entryFrame m #[(.ref nn), (.ref a)] 2 = mkF m 0 #[.val (.ref nn), .val (.ref a)] [] := by first | (simp [entryFrame, mkF, argsToLocals, Value.category]; done) | rfl
def own_Q26 (Z : State) (nn : Addr) (a : Addr) (u : Value) (h0 : Heap) (n0 : Nat) (v_ : Option Value) (h : Heap) (L_ : List Loc) : Prop := v_ = none ∧ Fr n0 L_ ∧ (Keep h0 h [nn]) ∧ (Fld Z h nn "com/example/adjacency/adjacency/identity/NodeName" "text" "Ljava/lang/String;" (.ref a))
set_option maxRecDepth 65536 in
set_option maxHeartbeats 40000000 in
theorem own_rm26 (l : Launch) (Z : State) (a0 : Array Value) (hw : ∀ d ∈ tables_1, d.before a0 Z = true) (ws : List Jvm.Cond) (nn : Addr) (a : Addr) (u : Value) (h0 : Heap) (n0 : Nat) (Z0 : n0 ≤ h0.size) (F : Fld Z h0 nn "com/example/adjacency/adjacency/identity/NodeName" "text" "Ljava/lang/String;" u) (E : Exa Z h0 nn "com/example/adjacency/adjacency/identity/NodeName") (g_nn : n0 ≤ nn) :
    MetFree l (⟨"com/example/adjacency/adjacency/identity/NodeName", "<init>", "(Ljava/lang/String;)V"⟩ : MethodName) (head1 (Jvm.Cond.code (⟨"com/example/adjacency/adjacency/identity/NodeName", "<init>", "(Ljava/lang/String;)V"⟩ : MethodName) prog_13_method_1_code 2 none :: ws) ({ frames := 1, cells := 0, slots := 0, locals := 12 } : Room)) (fun a_ U_ => a_ = #[(.ref nn), (.ref a)] ∧ Z.Warmed39 U_.vm ∧ U_.heap = h0) (fun _ _ _ _ _ => True) (fun _ U_ o_ V_ => ∃ v_ L_, o_ = .returned v_ ∧ own_Q26 Z nn a u h0 n0 v_ V_.heap L_ ∧ FrameEnd U_ o_ V_ L_ ({ frames := 1, cells := 0, slots := 0, locals := 12 } : Room).cells ({ frames := 1, cells := 0, slots := 0, locals := 12 } : Room).slots) := by
  refine MetFree.of_bodySF (plainFor_of_name own_pn_com_example_adjacency_adjacency_identity_NodeName) hisR ?_
  intro p e s m args below meth c s₁ Bd hml0 hP hK
  obtain ⟨rfl, hZ, hh⟩ := hP
  have hx := Bd.exec
  have hby := Bd.bytes
  have hml : c.maxLocals = 2 := hml0
  have hown : s.vm.findClass "com/example/adjacency/adjacency/identity/NodeName" = some m.cls := findClass_of_methodNamed Bd.named
  have hnm := (name_of_methodNamed Bd.named Bd.method).1
  have X0 : Stand p l e ({ frames := 1, cells := 0, slots := 0, locals := 12 } : Room) s m #[(.ref nn), (.ref a)] below meth c s₁ [] 0 0 := Stand.of_body Bd
  have e0 : s₁.heap = h0 := by rw [← hh, Bd.state]; rfl
  have N0 := Fr.nil n0
  show own_G p e below s (own_Q26 Z nn a u h0 n0) ({ frames := 1, cells := 0, slots := 0, locals := 12 } : Room).cells ({ frames := 1, cells := 0, slots := 0, locals := 12 } : Room).slots s₁ (entryFrame m #[(.ref nn), (.ref a)] 2)
  rw [own_rm26_ef]
  refine own_w (T' := s₁) (g' := (mkF m 1 #[.val (.ref nn), .val (.ref a)] [(.ref nn)])) (fun _ k_ => XS.aloadN X0.here hx rfl (hb hby own_d26_0) rfl rfl k_) ?_
  obtain ⟨T1, X1, e1, st1⟩ := initO X0 hx hZ hown (hw _ (List.mem_of_getElem? (i := 114) rfl)) (hw _ (List.mem_of_getElem? (i := 20) rfl)) (hw _ (List.mem_of_getElem? (i := 21) rfl)) e0 (g := (mkF m 1 #[.val (.ref nn), .val (.ref a)] [(.ref nn)])) rfl (by rw [hml]; rfl) rfl (hb hby own_d26_1) (by decide) (W := 0) (by show 2 * 0 + _ ≤ _; exact Nat.le_of_eq rfl) (by decide)
  refine own_w (T' := T1) (g' := (mkF m 4 #[.val (.ref nn), .val (.ref a)] [])) st1 ?_
  refine own_w (T' := T1) (g' := (mkF m 5 #[.val (.ref nn), .val (.ref a)] [(.ref nn)])) (fun _ k_ => XS.aloadN X1.here hx rfl (hb hby own_d26_4) rfl rfl k_) ?_
  refine own_w (T' := T1) (g' := (mkF m 6 #[.val (.ref nn), .val (.ref a)] [(.ref a), (.ref nn)])) (fun _ k_ => XS.aloadN X1.here hx rfl (hb hby own_d26_5) rfl rfl k_) ?_
  obtain ⟨T2, h2, X2, e2, W2, st2⟩ := putF X1 hx hZ hown (host := "") (Or.inl (hw _ (List.mem_of_getElem? (i := 115) rfl))) Via.refl e1 F E (Or.inr ⟨(hw _ (List.mem_of_getElem? (i := 116) rfl)), rfl, hnm⟩) (hw _ (List.mem_of_getElem? (i := 110) rfl)) (ty := (.object "java/lang/String")) (by decide) rfl rfl (g := (mkF m 6 #[.val (.ref nn), .val (.ref a)] [(.ref a), (.ref nn)])) rfl rfl (hb hby own_d26_6)
  have N2 := Fr.snoc X2 N0 g_nn
  refine own_w (T' := T2) (g' := (mkF m 9 #[.val (.ref nn), .val (.ref a)] [])) st2 ?_
  obtain ⟨fs, hr, hrun, hended, hW, hsame⟩ := X2.leave (v := none) (fun _ => rfl)
  exact ⟨_, _, X2.returnOut hx Bd.returns (hb hby own_d26_9) hr, hrun, hended, _, _, rfl, (by show own_Q26 Z nn a u h0 n0 _ T2.heap _; rw [e2]; exact ⟨rfl, N2, Keep.of_wr W2, F.same W2⟩), ⟨_, rfl⟩, hW, hsame.mono (by decide) (by decide)⟩
theorem own_d27_0 : decode prog_13_method_11_code 0 = .ok (.aload_n 0, 1) := by decide +kernel
theorem own_d27_1 : decode prog_13_method_11_code 1 = .ok (.getfield 9, 3) := by decide +kernel
theorem own_d27_4 : decode prog_13_method_11_code 4 = .ok (.areturn, 1) := by decide +kernel
theorem own_rm27_ef (m : MethodId) (nn : Addr) : entryFrame m #[(.ref nn)] 1 = mkF m 0 #[.val (.ref nn)] [] := by first | (simp [entryFrame, mkF, argsToLocals, Value.category]; done) | rfl
def own_Q27 (Z : State) (nn : Addr) (a : Addr) (h0 : Heap) (n0 : Nat) (v_ : Option Value) (h : Heap) (L_ : List Loc) : Prop := v_ = some (.ref a) ∧ Fr n0 L_ ∧ (h = h0)
set_option maxRecDepth 65536 in
set_option maxHeartbeats 40000000 in
theorem own_rm27 (l : Launch) (Z : State) (a0 : Array Value) (hw : ∀ d ∈ tables_1, d.before a0 Z = true) (ws : List Jvm.Cond) (nn : Addr) (a : Addr) (h0 : Heap) (n0 : Nat) (Z0 : n0 ≤ h0.size) (F : Fld Z h0 nn "com/example/adjacency/adjacency/identity/NodeName" "text" "Ljava/lang/String;" (.ref a)) :
    MetFree l (⟨"com/example/adjacency/adjacency/identity/NodeName", "toString", "()Ljava/lang/String;"⟩ : MethodName) (head1 (Jvm.Cond.code (⟨"com/example/adjacency/adjacency/identity/NodeName", "toString", "()Ljava/lang/String;"⟩ : MethodName) prog_13_method_11_code 1 (some (.object "java/lang/String")) :: ws) ({ frames := 0, cells := 0, slots := 0, locals := 0 } : Room)) (fun a_ U_ => a_ = #[(.ref nn)] ∧ Z.Warmed39 U_.vm ∧ U_.heap = h0) (fun _ _ _ _ _ => True) (fun _ U_ o_ V_ => ∃ v_ L_, o_ = .returned v_ ∧ own_Q27 Z nn a h0 n0 v_ V_.heap L_ ∧ FrameEnd U_ o_ V_ L_ ({ frames := 0, cells := 0, slots := 0, locals := 0 } : Room).cells ({ frames := 0, cells := 0, slots := 0, locals := 0 } : Room).slots) := by
  refine MetFree.of_bodySF (plainFor_of_name own_pn_com_example_adjacency_adjacency_identity_NodeName) hisR ?_
  intro p e s m args below meth c s₁ Bd hml0 hP hK
  obtain ⟨rfl, hZ, hh⟩ := hP
  have hx := Bd.exec
  have hby := Bd.bytes
  have hml : c.maxLocals = 1 := hml0
  have hown : s.vm.findClass "com/example/adjacency/adjacency/identity/NodeName" = some m.cls := findClass_of_methodNamed Bd.named
  have hnm := (name_of_methodNamed Bd.named Bd.method).1
  have X0 : Stand p l e ({ frames := 0, cells := 0, slots := 0, locals := 0 } : Room) s m #[(.ref nn)] below meth c s₁ [] 0 0 := Stand.of_body Bd
  have e0 : s₁.heap = h0 := by rw [← hh, Bd.state]; rfl
  have N0 := Fr.nil n0
  show own_G p e below s (own_Q27 Z nn a h0 n0) ({ frames := 0, cells := 0, slots := 0, locals := 0 } : Room).cells ({ frames := 0, cells := 0, slots := 0, locals := 0 } : Room).slots s₁ (entryFrame m #[(.ref nn)] 1)
  rw [own_rm27_ef]
  refine own_w (T' := s₁) (g' := (mkF m 1 #[.val (.ref nn)] [(.ref nn)])) (fun _ k_ => XS.aloadN X0.here hx rfl (hb hby own_d27_0) rfl rfl k_) ?_
  obtain ⟨T1, X1, e1, st1⟩ := getF X0 hx hZ hown (host := "") (Or.inl (hw _ (List.mem_of_getElem? (i := 115) rfl))) Via.refl e0 F (g := (mkF m 1 #[.val (.ref nn)] [(.ref nn)])) rfl rfl (hb hby own_d27_1)
  refine own_w (T' := T1) (g' := (mkF m 4 #[.val (.ref nn)] [(.ref a)])) st1 ?_
  obtain ⟨fs, hr, hrun, hended, hW, hsame⟩ := X1.leave (v := some (.ref a)) (fun h => by rw [Bd.returns] at h; cases h)
  exact ⟨_, _, retOut X1 hx Bd.returns rfl (Or.inr (Or.inr (Or.inr (Or.inr ⟨rfl, rfl, rfl⟩)))) (hb hby own_d27_4) hr, hrun, hended, _, _, rfl, (by show own_Q27 Z nn a h0 n0 _ T1.heap _; rw [e1]; exact ⟨rfl, N0, rfl⟩), ⟨_, rfl⟩, hW, hsame.mono (by decide) (by decide)⟩
theorem own_d28_0 : decode jdk_42_method_66_code 0 = .ok (.aload_n 0, 1) := by decide +kernel
theorem own_d28_1 : decode jdk_42_method_66_code 1 = .ok (.aload_n 1, 1) := by decide +kernel
theorem own_d28_2 : decode jdk_42_method_66_code 2 = .ok (.if_acmp .ne 5, 3) := by decide +kernel
theorem own_d28_5 : decode jdk_42_method_66_code 5 = .ok (.iconst 1, 1) := by decide +kernel
theorem own_d28_6 : decode jdk_42_method_66_code 6 = .ok (.ireturn, 1) := by decide +kernel
theorem own_rm28_ef (m : MethodId) (a : Addr) (b' : Addr) : entryFrame m #[(.ref a), (.ref b')] 3 = mkF m 0 #[.val (.ref a), .val (.ref b'), .unset] [] := by first | (simp [entryFrame, mkF, argsToLocals, Value.category]; done) | rfl
def own_Q28 (Z : State) (a : Addr) (b' : Addr) (h0 : Heap) (n0 : Nat) (v_ : Option Value) (h : Heap) (L_ : List Loc) : Prop := v_ = some (.int (1 : Int32)) ∧ Fr n0 L_ ∧ (h = h0)
set_option maxRecDepth 65536 in
set_option maxHeartbeats 40000000 in
theorem own_rm28 (l : Launch) (Z : State) (a0 : Array Value) (hw : ∀ d ∈ tables_1, d.before a0 Z = true) (ws : List Jvm.Cond) (a : Addr) (b' : Addr) (h0 : Heap) (n0 : Nat) (Z0 : n0 ≤ h0.size) (e' : a = b') :
    MetFree l (⟨"java/lang/String", "equals", "(Ljava/lang/Object;)Z"⟩ : MethodName) (head1 (Jvm.Cond.code (⟨"java/lang/String", "equals", "(Ljava/lang/Object;)Z"⟩ : MethodName) jdk_42_method_66_code 3 (some .boolean) :: ws) ({ frames := 0, cells := 0, slots := 0, locals := 0 } : Room)) (fun a_ U_ => a_ = #[(.ref a), (.ref b')] ∧ Z.Warmed39 U_.vm ∧ U_.heap = h0) (fun _ _ _ _ _ => True) (fun _ U_ o_ V_ => ∃ v_ L_, o_ = .returned v_ ∧ own_Q28 Z a b' h0 n0 v_ V_.heap L_ ∧ FrameEnd U_ o_ V_ L_ ({ frames := 0, cells := 0, slots := 0, locals := 0 } : Room).cells ({ frames := 0, cells := 0, slots := 0, locals := 0 } : Room).slots) := by
  refine MetFree.of_bodySF (plainFor_of_name own_pn_java_lang_String) hisR ?_
  intro p e s m args below meth c s₁ Bd hml0 hP hK
  obtain ⟨rfl, hZ, hh⟩ := hP
  have hx := Bd.exec
  have hby := Bd.bytes
  have hml : c.maxLocals = 3 := hml0
  have hown : s.vm.findClass "java/lang/String" = some m.cls := findClass_of_methodNamed Bd.named
  have hnm := (name_of_methodNamed Bd.named Bd.method).1
  have X0 : Stand p l e ({ frames := 0, cells := 0, slots := 0, locals := 0 } : Room) s m #[(.ref a), (.ref b')] below meth c s₁ [] 0 0 := Stand.of_body Bd
  have e0 : s₁.heap = h0 := by rw [← hh, Bd.state]; rfl
  have N0 := Fr.nil n0
  show own_G p e below s (own_Q28 Z a b' h0 n0) ({ frames := 0, cells := 0, slots := 0, locals := 0 } : Room).cells ({ frames := 0, cells := 0, slots := 0, locals := 0 } : Room).slots s₁ (entryFrame m #[(.ref a), (.ref b')] 3)
  rw [own_rm28_ef]
  refine own_w (T' := s₁) (g' := (mkF m 1 #[.val (.ref a), .val (.ref b'), .unset] [(.ref a)])) (fun _ k_ => XS.aloadN X0.here hx rfl (hb hby own_d28_0) rfl rfl k_) ?_
  refine own_w (T' := s₁) (g' := (mkF m 2 #[.val (.ref a), .val (.ref b'), .unset] [(.ref b'), (.ref a)])) (fun _ k_ => XS.aloadN X0.here hx rfl (hb hby own_d28_1) rfl rfl k_) ?_
  refine own_w (T' := s₁) (g' := (mkF m 5 #[.val (.ref a), .val (.ref b'), .unset] [])) (fun _ k_ => Jvm.RoadKit.acmp (g := (mkF m 2 #[.val (.ref a), .val (.ref b'), .unset] [(.ref b'), (.ref a)])) X0 hx rfl rfl rfl (pc0 := 2) (pc' := 5) (same := true) rfl (hb hby own_d28_2) rfl (decide_eq_true (congrArg Value.ref e')) (by decide) (by decide) k_) ?_
  refine own_w (T' := s₁) (g' := (mkF m 6 #[.val (.ref a), .val (.ref b'), .unset] [(.int (1 : Int32))])) (fun _ k_ => XS.iconst X0.here hx rfl (hb hby own_d28_5) k_) ?_
  obtain ⟨fs, hr, hrun, hended, hW, hsame⟩ := X0.leave (v := some (.int (1 : Int32))) (fun h => by rw [Bd.returns] at h; cases h)
  exact ⟨_, _, retOut X0 hx Bd.returns rfl (Or.inl ⟨rfl, Or.inr (Or.inl rfl), _, rfl⟩) (hb hby own_d28_6) hr, hrun, hended, _, _, rfl, (by show own_Q28 Z a b' h0 n0 _ s₁.heap _; rw [e0]; exact ⟨rfl, N0, rfl⟩), ⟨_, rfl⟩, hW, hsame.mono (by decide) (by decide)⟩
theorem own_d29_0 : decode prog_13_method_7_code 0 = .ok (.aload_n 0, 1) := by decide +kernel
theorem own_d29_1 : decode prog_13_method_7_code 1 = .ok (.getfield 9, 3) := by decide +kernel
theorem own_d29_4 : decode prog_13_method_7_code 4 = .ok (.invokestatic 20, 3) := by decide +kernel
theorem own_pd10 : parseMethodDescriptor "(Ljava/lang/String;)I" = some ⟨[(.object "java/lang/String")], some .int⟩ := by decide +kernel
theorem own_d29_7 : decode prog_13_method_7_code 7 = .ok (.ireturn, 1) := by decide +kernel
theorem own_rm29_ef (m : MethodId) (nn : Addr) : entryFrame m #[(.ref nn)] 1 = mkF m 0 #[.val (.ref nn)] [] := by first | (simp [entryFrame, mkF, argsToLocals, Value.category]; done) | rfl
def own_Q29 (Z : State) (nn : Addr) (a : Addr) (xs : List Int32) (cs : Int32) (sf : Value) (h0 : Heap) (n0 : Nat) (v_ : Option Value) (h : Heap) (L_ : List Loc) : Prop := v_ = some (.int (own_cl xs)) ∧ Fr n0 L_ ∧ (h = h0)
set_option maxRecDepth 65536 in
set_option maxHeartbeats 40000000 in
theorem own_rm29 (l : Launch) (Z : State) (a0 : Array Value) (hw : ∀ d ∈ tables_1, d.before a0 Z = true) (ws : List Jvm.Cond) (nn : Addr) (a : Addr) (xs : List Int32) (cs : Int32) (sf : Value) (h0 : Heap) (n0 : Nat) (Z0 : n0 ≤ h0.size) (F : Fld Z h0 nn "com/example/adjacency/adjacency/identity/NodeName" "text" "Ljava/lang/String;" (.ref a)) (Sa : own_Str Z h0 a xs) (lx : xs.length < 1000) (hcs : ¬ cs = (0 : Int32)) (S : Sta Z h0 "java/lang/String" "COMPACT_STRINGS" "Z" (.int cs)) (hsf : sf.isRef = true) (SF : Sta Z h0 "jdk/internal/util/Preconditions" "SIOOBE_FORMATTER" "Ljava/util/function/BiFunction;" sf) (hasc : own_asc xs) :
    MetFree l (⟨"com/example/adjacency/adjacency/identity/NodeName", "labelCount", "()I"⟩ : MethodName) (head1 (Jvm.Cond.code (⟨"com/example/adjacency/adjacency/identity/NodeName", "labelCount", "()I"⟩ : MethodName) prog_13_method_7_code 1 (some .int) :: ws) ({ frames := 5, cells := 0, slots := 0, locals := 67 } : Room)) (fun a_ U_ => a_ = #[(.ref nn)] ∧ Z.Warmed39 U_.vm ∧ U_.heap = h0) (fun _ _ _ _ _ => True) (fun _ U_ o_ V_ => ∃ v_ L_, o_ = .returned v_ ∧ own_Q29 Z nn a xs cs sf h0 n0 v_ V_.heap L_ ∧ FrameEnd U_ o_ V_ L_ ({ frames := 5, cells := 0, slots := 0, locals := 67 } : Room).cells ({ frames := 5, cells := 0, slots := 0, locals := 67 } : Room).slots) := by
  refine MetFree.of_bodySF (plainFor_of_name own_pn_com_example_adjacency_adjacency_identity_NodeName) hisR ?_
  intro p e s m args below meth c s₁ Bd hml0 hP hK
  obtain ⟨rfl, hZ, hh⟩ := hP
  have hx := Bd.exec
  have hby := Bd.bytes
  have hml : c.maxLocals = 1 := hml0
  have hown : s.vm.findClass "com/example/adjacency/adjacency/identity/NodeName" = some m.cls := findClass_of_methodNamed Bd.named
  have hnm := (name_of_methodNamed Bd.named Bd.method).1
  have X0 : Stand p l e ({ frames := 5, cells := 0, slots := 0, locals := 67 } : Room) s m #[(.ref nn)] below meth c s₁ [] 0 0 := Stand.of_body Bd
  have e0 : s₁.heap = h0 := by rw [← hh, Bd.state]; rfl
  have N0 := Fr.nil n0
  show own_G p e below s (own_Q29 Z nn a xs cs sf h0 n0) ({ frames := 5, cells := 0, slots := 0, locals := 67 } : Room).cells ({ frames := 5, cells := 0, slots := 0, locals := 67 } : Room).slots s₁ (entryFrame m #[(.ref nn)] 1)
  rw [own_rm29_ef]
  refine own_w (T' := s₁) (g' := (mkF m 1 #[.val (.ref nn)] [(.ref nn)])) (fun _ k_ => XS.aloadN X0.here hx rfl (hb hby own_d29_0) rfl rfl k_) ?_
  obtain ⟨T1, X1, e1, st1⟩ := getF X0 hx hZ hown (host := "") (Or.inl (hw _ (List.mem_of_getElem? (i := 115) rfl))) Via.refl e0 F (g := (mkF m 1 #[.val (.ref nn)] [(.ref nn)])) rfl rfl (hb hby own_d29_1)
  refine own_w (T' := T1) (g' := (mkF m 4 #[.val (.ref nn)] [(.ref a)])) st1 ?_
  obtain ⟨_, _, ⟨T2, L2, k2, n2⟩, -, X2, ⟨Lc2, hQ2, l2, y2, z2⟩, st2⟩ := Jvm.LawKit.callS X1 hx (y := (⟨"com/example/adjacency/adjacency/identity/NodeName", "countLabels", "(Ljava/lang/String;)I"⟩ : MethodName)) hown (mvT hZ (hw _ (List.mem_of_getElem? (i := 49) rfl))) (mvT hZ (hw _ (List.mem_of_getElem? (i := 50) rfl))) (mvT hZ (hw _ (List.mem_of_getElem? (i := 40) rfl))) (mvT hZ (hw _ (List.mem_of_getElem? (i := 51) rfl))) (by decide) (backOf (W := 0) (own_rm11 l Z a0 hw [] a xs cs sf h0 n0 Z0 Sa lx hcs S hsf SF hasc) hZ (hw _ (List.mem_of_getElem? (i := 51) rfl)) (hw _ (List.mem_of_getElem? (i := 40) rfl)) (by decide) (by decide)) (g := (mkF m 4 #[.val (.ref nn)] [(.ref a)])) rfl (by rw [hml]; rfl) (argsL := [(.ref a)]) (rest := []) (lenOf own_pd10 rfl) rfl (by show 2 * 0 + _ ≤ _; exact Nat.le_of_eq rfl) (hb hby own_d29_4) (fun _ _ => ⟨rfl, e1, (by decide : 0 + 0 ≤ _), (by decide : 0 + 0 ≤ _)⟩)
  dsimp only [Pt.U, Pt.locs, Pt.cells, Pt.slots] at X2 l2 y2 z2 st2 hQ2
  subst l2 y2 z2
  obtain ⟨rfl, N2q, e2⟩ := hQ2
  have N2 := Fr.app N0 N2q
  refine own_w (T' := T2) (g' := (mkF m 7 #[.val (.ref nn)] [(.int (own_cl xs))])) st2 ?_
  obtain ⟨fs, hr, hrun, hended, hW, hsame⟩ := X2.leave (v := some (.int (own_cl xs))) (fun h => by rw [Bd.returns] at h; cases h)
  exact ⟨_, _, retOut X2 hx Bd.returns rfl (Or.inl ⟨rfl, Or.inl rfl, _, rfl⟩) (hb hby own_d29_7) hr, hrun, hended, _, _, rfl, (by show own_Q29 Z nn a xs cs sf h0 n0 _ T2.heap _; rw [e2]; exact ⟨rfl, N2, rfl⟩), ⟨_, rfl⟩, hW, hsame.mono (by decide) (by decide)⟩
theorem own_d30_0 : decode prog_13_method_3_code 0 = .ok (.aload_n 0, 1) := by decide +kernel
theorem own_d30_1 : decode prog_13_method_3_code 1 = .ok (.getfield 9, 3) := by decide +kernel
theorem own_d30_4 : decode prog_13_method_3_code 4 = .ok (.bipush 46, 2) := by decide +kernel
theorem own_d30_6 : decode prog_13_method_3_code 6 = .ok (.invokevirtual 56, 3) := by decide +kernel
theorem own_pd11 : parseMethodDescriptor "(I)I" = some ⟨[.int], some .int⟩ := by decide +kernel
theorem own_d30_9 : decode prog_13_method_3_code 9 = .ok (.ifCond .ge 7, 3) := by decide +kernel
theorem own_d30_12 : decode prog_13_method_3_code 12 = .ok (.iconst 1, 1) := by decide +kernel
theorem own_d30_13 : decode prog_13_method_3_code 13 = .ok (.goto 4, 3) := by decide +kernel
theorem own_d30_17 : decode prog_13_method_3_code 17 = .ok (.ireturn, 1) := by decide +kernel
theorem own_d30_16 : decode prog_13_method_3_code 16 = .ok (.iconst 0, 1) := by decide +kernel
theorem own_rm30_ef (m : MethodId) (nn : Addr) : entryFrame m #[(.ref nn)] 1 = mkF m 0 #[.val (.ref nn)] [] := by first | (simp [entryFrame, mkF, argsToLocals, Value.category]; done) | rfl
def own_Q30 (Z : State) (nn : Addr) (a : Addr) (xs : List Int32) (cs : Int32) (h0 : Heap) (n0 : Nat) (v_ : Option Value) (h : Heap) (L_ : List Loc) : Prop := v_ = some (.int (if (own_io xs 0 < (0 : Int32)) then (1 : Int32) else 0)) ∧ Fr n0 L_ ∧ (h = h0)
set_option maxRecDepth 65536 in
set_option maxHeartbeats 40000000 in
theorem own_rm30 (l : Launch) (Z : State) (a0 : Array Value) (hw : ∀ d ∈ tables_1, d.before a0 Z = true) (ws : List Jvm.Cond) (nn : Addr) (a : Addr) (xs : List Int32) (cs : Int32) (h0 : Heap) (n0 : Nat) (Z0 : n0 ≤ h0.size) (F : Fld Z h0 nn "com/example/adjacency/adjacency/identity/NodeName" "text" "Ljava/lang/String;" (.ref a)) (Sa : own_Str Z h0 a xs) (lx : xs.length < 1000) (hcs : ¬ cs = (0 : Int32)) (S : Sta Z h0 "java/lang/String" "COMPACT_STRINGS" "Z" (.int cs)) :
    MetFree l (⟨"com/example/adjacency/adjacency/identity/NodeName", "isRoot", "()Z"⟩ : MethodName) (head1 (Jvm.Cond.code (⟨"com/example/adjacency/adjacency/identity/NodeName", "isRoot", "()Z"⟩ : MethodName) prog_13_method_3_code 1 (some .boolean) :: ws) ({ frames := 4, cells := 0, slots := 0, locals := 59 } : Room)) (fun a_ U_ => a_ = #[(.ref nn)] ∧ Z.Warmed39 U_.vm ∧ U_.heap = h0) (fun _ _ _ _ _ => True) (fun _ U_ o_ V_ => ∃ v_ L_, o_ = .returned v_ ∧ own_Q30 Z nn a xs cs h0 n0 v_ V_.heap L_ ∧ FrameEnd U_ o_ V_ L_ ({ frames := 4, cells := 0, slots := 0, locals := 59 } : Room).cells ({ frames := 4, cells := 0, slots := 0, locals := 59 } : Room).slots) := by
  refine MetFree.of_bodySF (plainFor_of_name own_pn_com_example_adjacency_adjacency_identity_NodeName) hisR ?_
  intro p e s m args below meth c s₁ Bd hml0 hP hK
  obtain ⟨rfl, hZ, hh⟩ := hP
  have hx := Bd.exec
  have hby := Bd.bytes
  have hml : c.maxLocals = 1 := hml0
  have hown : s.vm.findClass "com/example/adjacency/adjacency/identity/NodeName" = some m.cls := findClass_of_methodNamed Bd.named
  have hnm := (name_of_methodNamed Bd.named Bd.method).1
  have X0 : Stand p l e ({ frames := 4, cells := 0, slots := 0, locals := 59 } : Room) s m #[(.ref nn)] below meth c s₁ [] 0 0 := Stand.of_body Bd
  have e0 : s₁.heap = h0 := by rw [← hh, Bd.state]; rfl
  have N0 := Fr.nil n0
  show own_G p e below s (own_Q30 Z nn a xs cs h0 n0) ({ frames := 4, cells := 0, slots := 0, locals := 59 } : Room).cells ({ frames := 4, cells := 0, slots := 0, locals := 59 } : Room).slots s₁ (entryFrame m #[(.ref nn)] 1)
  rw [own_rm30_ef]
  refine own_w (T' := s₁) (g' := (mkF m 1 #[.val (.ref nn)] [(.ref nn)])) (fun _ k_ => XS.aloadN X0.here hx rfl (hb hby own_d30_0) rfl rfl k_) ?_
  obtain ⟨T1, X1, e1, st1⟩ := getF X0 hx hZ hown (host := "") (Or.inl (hw _ (List.mem_of_getElem? (i := 115) rfl))) Via.refl e0 F (g := (mkF m 1 #[.val (.ref nn)] [(.ref nn)])) rfl rfl (hb hby own_d30_1)
  refine own_w (T' := T1) (g' := (mkF m 4 #[.val (.ref nn)] [(.ref a)])) st1 ?_
  refine own_w (T' := T1) (g' := (mkF m 6 #[.val (.ref nn)] [(.int (46 : Int32)), (.ref a)])) (fun _ k_ => XS.bipush X1.here hx rfl (hb hby own_d30_4) k_) ?_
  obtain ⟨cq2, kq2, q2a, q2b, q2c⟩ := isOf hZ e1 Sa.1
  obtain ⟨_, _, ⟨T2, L2, k2, n2⟩, -, X2, ⟨Lc2, hQ2, l2, y2, z2⟩, st2⟩ := X1.virtualBack hx (y := (⟨"java/lang/String", "indexOf", "(I)I"⟩ : MethodName)) (z := (⟨"java/lang/String", "indexOf", "(I)I"⟩ : MethodName)) hown (mvT hZ (hw _ (List.mem_of_getElem? (i := 137) rfl))) (mvT hZ (hw _ (List.mem_of_getElem? (i := 138) rfl))) (notFace_of_selects (args := #[]) (mvT hZ (hw _ (List.mem_of_getElem? (i := 140) rfl)))) (mvT hZ (hw _ (List.mem_of_getElem? (i := 140) rfl))) (mvT hZ (hw _ (List.mem_of_getElem? (i := 139) rfl))) (by decide) (backOf (W := 0) (own_rm31 l Z a0 hw [] a xs cs h0 n0 Z0 Sa lx hcs S) hZ (hw _ (List.mem_of_getElem? (i := 141) rfl)) (hw _ (List.mem_of_getElem? (i := 11) rfl)) (by decide) (by decide)) q2a q2c (g := (mkF m 6 #[.val (.ref nn)] [(.int (46 : Int32)), (.ref a)])) rfl (by rw [hml]; rfl) (Steps.refl _) (argsL := [(.int (46 : Int32))]) (rest := []) (lenOf own_pd11 rfl) rfl (by show 2 * 0 + _ ≤ _; exact Nat.le_of_eq rfl) (hb hby own_d30_6) (fun _ _ => ⟨rfl, e1, (by decide : 0 + 0 ≤ _), (by decide : 0 + 0 ≤ _)⟩)
  dsimp only [Pt.U, Pt.locs, Pt.cells, Pt.slots] at X2 l2 y2 z2 st2 hQ2
  subst l2 y2 z2
  obtain ⟨rfl, N2q, e2⟩ := hQ2
  have N2 := Fr.app N0 N2q
  refine own_t (T' := T2) (g' := (mkF m 9 #[.val (.ref nn)] [(.int (own_io xs 0))])) st2 ?_
  by_cases hc9 : (own_io xs 0) < (0 : Int32)
  · refine own_w (T' := T2) (g' := (mkF m 12 #[.val (.ref nn)] [])) (fun _ k_ => XS.ifNo X2.here hx rfl (hb hby own_d30_9) rfl ((if0 _ _).trans (tlt hc9).2.1) k_) ?_
    refine own_w (T' := T2) (g' := (mkF m 13 #[.val (.ref nn)] [(.int (1 : Int32))])) (fun _ k_ => XS.iconst X2.here hx rfl (hb hby own_d30_12) k_) ?_
    refine own_w (T' := T2) (g' := (mkF m 17 #[.val (.ref nn)] [(.int (1 : Int32))])) (fun _ k_ => XS.goto X2.here hx rfl (pc0 := 13) (pc' := 17) rfl (hb hby own_d30_13) (by decide) (by decide) k_) ?_
    obtain ⟨fs, hr, hrun, hended, hW, hsame⟩ := X2.leave (v := some (.int (1 : Int32))) (fun h => by rw [Bd.returns] at h; cases h)
    exact ⟨_, _, retOut X2 hx Bd.returns rfl (Or.inl ⟨rfl, Or.inr (Or.inl rfl), _, rfl⟩) (hb hby own_d30_17) hr, hrun, hended, _, _, rfl, (by show own_Q30 Z nn a xs cs h0 n0 _ T2.heap _; rw [e2]; exact ⟨(by rw [if_pos hc9]), N2, rfl⟩), ⟨_, rfl⟩, hW, hsame.mono (by decide) (by decide)⟩
  · refine own_w (T' := T2) (g' := (mkF m 16 #[.val (.ref nn)] [])) (fun _ k_ => XS.ifYes X2.here hx rfl (pc0 := 9) (pc' := 16) rfl (hb hby own_d30_9) rfl ((if0 _ _).trans (flt hc9).2.1) (by decide) (by decide) k_) ?_
    refine own_w (T' := T2) (g' := (mkF m 17 #[.val (.ref nn)] [(.int (0 : Int32))])) (fun _ k_ => XS.iconst X2.here hx rfl (hb hby own_d30_16) k_) ?_
    obtain ⟨fs, hr, hrun, hended, hW, hsame⟩ := X2.leave (v := some (.int (0 : Int32))) (fun h => by rw [Bd.returns] at h; cases h)
    exact ⟨_, _, retOut X2 hx Bd.returns rfl (Or.inl ⟨rfl, Or.inr (Or.inl rfl), _, rfl⟩) (hb hby own_d30_17) hr, hrun, hended, _, _, rfl, (by show own_Q30 Z nn a xs cs h0 n0 _ T2.heap _; rw [e2]; exact ⟨(by rw [if_neg hc9]), N2, rfl⟩), ⟨_, rfl⟩, hW, hsame.mono (by decide) (by decide)⟩
theorem own_d10_0 : decode jdk_31_method_11_code 0 = .ok (.aload_n 0, 1) := by decide +kernel
theorem own_d10_1 : decode jdk_31_method_11_code 1 = .ok (.ifnonnull 12, 3) := by decide +kernel
theorem own_d10_13 : decode jdk_31_method_11_code 13 = .ok (.aload_n 0, 1) := by decide +kernel
theorem own_d10_14 : decode jdk_31_method_11_code 14 = .ok (.areturn, 1) := by decide +kernel
theorem own_pn_java_util_Objects : plainName "java/util/Objects" = true := by first | (simp [plainName, overriddenIn]; done) | decide +kernel
theorem own_rm10_ef (m : MethodId) (a : Addr) (b' : Addr) : entryFrame m #[(.ref a), (.ref b')] 2 = mkF m 0 #[.val (.ref a), .val (.ref b')] [] := by first | (simp [entryFrame, mkF, argsToLocals, Value.category]; done) | rfl
def own_Q10 (Z : State) (a : Addr) (b' : Addr) (h0 : Heap) (n0 : Nat) (v_ : Option Value) (h : Heap) (L_ : List Loc) : Prop := v_ = some (.ref a) ∧ Fr n0 L_ ∧ (h = h0)
set_option maxRecDepth 65536 in
set_option maxHeartbeats 40000000 in
theorem own_rm10 (l : Launch) (Z : State) (a0 : Array Value) (hw : ∀ d ∈ tables_1, d.before a0 Z = true) (ws : List Jvm.Cond) (a : Addr) (b' : Addr) (h0 : Heap) (n0 : Nat) (Z0 : n0 ≤ h0.size)  :
    MetFree l (⟨"java/util/Objects", "requireNonNull", "(Ljava/lang/Object;Ljava/lang/String;)Ljava/lang/Object;"⟩ : MethodName) (head1 (Jvm.Cond.code (⟨"java/util/Objects", "requireNonNull", "(Ljava/lang/Object;Ljava/lang/String;)Ljava/lang/Object;"⟩ : MethodName) jdk_31_method_11_code 2 (some (.object "java/lang/Object")) :: ws) ({ frames := 0, cells := 0, slots := 0, locals := 0 } : Room)) (fun a_ U_ => a_ = #[(.ref a), (.ref b')] ∧ Z.Warmed39 U_.vm ∧ U_.heap = h0) (fun _ _ _ _ _ => True) (fun _ U_ o_ V_ => ∃ v_ L_, o_ = .returned v_ ∧ own_Q10 Z a b' h0 n0 v_ V_.heap L_ ∧ FrameEnd U_ o_ V_ L_ ({ frames := 0, cells := 0, slots := 0, locals := 0 } : Room).cells ({ frames := 0, cells := 0, slots := 0, locals := 0 } : Room).slots) := by
  refine MetFree.of_bodySF (plainFor_of_name own_pn_java_util_Objects) hisR ?_
  intro p e s m args below meth c s₁ Bd hml0 hP hK
  obtain ⟨rfl, hZ, hh⟩ := hP
  have hx := Bd.exec
  have hby := Bd.bytes
  have hml : c.maxLocals = 2 := hml0
  have hown : s.vm.findClass "java/util/Objects" = some m.cls := findClass_of_methodNamed Bd.named
  have hnm := (name_of_methodNamed Bd.named Bd.method).1
  have X0 : Stand p l e ({ frames := 0, cells := 0, slots := 0, locals := 0 } : Room) s m #[(.ref a), (.ref b')] below meth c s₁ [] 0 0 := Stand.of_body Bd
  have e0 : s₁.heap = h0 := by rw [← hh, Bd.state]; rfl
  have N0 := Fr.nil n0
  show own_G p e below s (own_Q10 Z a b' h0 n0) ({ frames := 0, cells := 0, slots := 0, locals := 0 } : Room).cells ({ frames := 0, cells := 0, slots := 0, locals := 0 } : Room).slots s₁ (entryFrame m #[(.ref a), (.ref b')] 2)
  rw [own_rm10_ef]
  refine own_w (T' := s₁) (g' := (mkF m 1 #[.val (.ref a), .val (.ref b')] [(.ref a)])) (fun _ k_ => XS.aloadN X0.here hx rfl (hb hby own_d10_0) rfl rfl k_) ?_
  refine own_w (T' := s₁) (g' := (mkF m 13 #[.val (.ref a), .val (.ref b')] [])) (fun _ k_ => XS.ifnonnullYes X0.here hx rfl (pc0 := 1) (pc' := 13) rfl (hb hby own_d10_1) rfl (by decide) (by decide) k_) ?_
  refine own_w (T' := s₁) (g' := (mkF m 14 #[.val (.ref a), .val (.ref b')] [(.ref a)])) (fun _ k_ => XS.aloadN X0.here hx rfl (hb hby own_d10_13) rfl rfl k_) ?_
  obtain ⟨fs, hr, hrun, hended, hW, hsame⟩ := X0.leave (v := some (.ref a)) (fun h => by rw [Bd.returns] at h; cases h)
  exact ⟨_, _, retOut X0 hx Bd.returns rfl (Or.inr (Or.inr (Or.inr (Or.inr ⟨rfl, rfl, rfl⟩)))) (hb hby own_d10_14) hr, hrun, hended, _, _, rfl, (by show own_Q10 Z a b' h0 n0 _ s₁.heap _; rw [e0]; exact ⟨rfl, N0, rfl⟩), ⟨_, rfl⟩, hW, hsame.mono (by decide) (by decide)⟩
theorem own_d7_0 : decode jdk_52_method_21_code 0 = .ok (.iconst 0, 1) := by decide +kernel
theorem own_d7_1 : decode jdk_52_method_21_code 1 = .ok (.istore 5, 2) := by decide +kernel
theorem own_d7_3 : decode jdk_52_method_21_code 3 = .ok (.iload 5, 2) := by decide +kernel
theorem own_d7_5 : decode jdk_52_method_21_code 5 = .ok (.iload 4, 2) := by decide +kernel
theorem own_d7_7 : decode jdk_52_method_21_code 7 = .ok (.if_icmp .ge 37, 3) := by decide +kernel
theorem own_d7_10 : decode jdk_52_method_21_code 10 = .ok (.aload_n 0, 1) := by decide +kernel
theorem own_d7_11 : decode jdk_52_method_21_code 11 = .ok (.iload_n 1, 1) := by decide +kernel
theorem own_d7_12 : decode jdk_52_method_21_code 12 = .ok (.caload, 1) := by decide +kernel
theorem own_d7_13 : decode jdk_52_method_21_code 13 = .ok (.istore 6, 2) := by decide +kernel
theorem own_d7_15 : decode jdk_52_method_21_code 15 = .ok (.iload 6, 2) := by decide +kernel
theorem own_d7_17 : decode jdk_52_method_21_code 17 = .ok (.sipush 255, 3) := by decide +kernel
theorem own_d7_20 : decode jdk_52_method_21_code 20 = .ok (.if_icmp .le 6, 3) := by decide +kernel
theorem own_d7_26 : decode jdk_52_method_21_code 26 = .ok (.aload_n 2, 1) := by decide +kernel
theorem own_d7_27 : decode jdk_52_method_21_code 27 = .ok (.iload_n 3, 1) := by decide +kernel
theorem own_d7_28 : decode jdk_52_method_21_code 28 = .ok (.iload 6, 2) := by decide +kernel
theorem own_d7_30 : decode jdk_52_method_21_code 30 = .ok (.i2b, 1) := by decide +kernel
theorem own_d7_31 : decode jdk_52_method_21_code 31 = .ok (.bastore, 1) := by decide +kernel
theorem own_d7_32 : decode jdk_52_method_21_code 32 = .ok (.iinc 1 1, 3) := by decide +kernel
theorem own_d7_35 : decode jdk_52_method_21_code 35 = .ok (.iinc 3 1, 3) := by decide +kernel
theorem own_d7_38 : decode jdk_52_method_21_code 38 = .ok (.iinc 5 1, 3) := by decide +kernel
theorem own_d7_41 : decode jdk_52_method_21_code 41 = .ok (.goto (-38), 3) := by decide +kernel
theorem own_d7_44 : decode jdk_52_method_21_code 44 = .ok (.iload 4, 2) := by decide +kernel
theorem own_d7_46 : decode jdk_52_method_21_code 46 = .ok (.ireturn, 1) := by decide +kernel
theorem own_pn_java_lang_StringUTF16 : plainName "java/lang/StringUTF16" = true := by first | (simp [plainName, overriddenIn]; done) | decide +kernel
theorem own_rm7_ef (m : MethodId) (ac : Addr) (ab : Addr) : entryFrame m #[(.ref ac), (.int (0 : Int32)), (.ref ab), (.int (0 : Int32)), (.int (7 : Int32))] 7 = mkF m 0 #[.val (.ref ac), .val (.int (0 : Int32)), .val (.ref ab), .val (.int (0 : Int32)), .val (.int (7 : Int32)), .unset, .unset] [] := by first | (simp [entryFrame, mkF, argsToLocals, Value.category]; done) | rfl
def own_Q7 (Z : State) (ac : Addr) (ab : Addr) (c0 : Int32) (c1 : Int32) (c2 : Int32) (c3 : Int32) (c4 : Int32) (c5 : Int32) (c6 : Int32) (h0 : Heap) (n0 : Nat) (v_ : Option Value) (h : Heap) (L_ : List Loc) : Prop := v_ = some (.int (7 : Int32)) ∧ Fr n0 L_ ∧ (Keep h0 h [ab]) ∧ (own_Ar Z h ab .byte [c0.toInt8.toInt32, c1.toInt8.toInt32, c2.toInt8.toInt32, c3.toInt8.toInt32, c4.toInt8.toInt32, c5.toInt8.toInt32, c6.toInt8.toInt32])
set_option maxRecDepth 65536 in
set_option maxHeartbeats 40000000 in
theorem own_rm7 (l : Launch) (Z : State) (a0 : Array Value) (hw : ∀ d ∈ tables_1, d.before a0 Z = true) (ws : List Jvm.Cond) (ac : Addr) (ab : Addr) (c0 : Int32) (c1 : Int32) (c2 : Int32) (c3 : Int32) (c4 : Int32) (c5 : Int32) (c6 : Int32) (h0 : Heap) (n0 : Nat) (Z0 : n0 ≤ h0.size) (Va : own_Ar Z h0 ac .char [c0, c1, c2, c3, c4, c5, c6]) (Vb : own_Ar Z h0 ab .byte (List.replicate 7 0)) (ne : ac ≠ ab) (g_ab : n0 ≤ ab) (hc0 : ¬ (255 : Int32) < c0) (hc1 : ¬ (255 : Int32) < c1) (hc2 : ¬ (255 : Int32) < c2) (hc3 : ¬ (255 : Int32) < c3) (hc4 : ¬ (255 : Int32) < c4) (hc5 : ¬ (255 : Int32) < c5) (hc6 : ¬ (255 : Int32) < c6) :
    MetFree l (⟨"java/lang/StringUTF16", "compress", "([CI[BII)I"⟩ : MethodName) (head1 (Jvm.Cond.code (⟨"java/lang/StringUTF16", "compress", "([CI[BII)I"⟩ : MethodName) jdk_52_method_21_code 7 (some .int) :: ws) ({ frames := 0, cells := 0, slots := 0, locals := 0 } : Room)) (fun a_ U_ => a_ = #[(.ref ac), (.int (0 : Int32)), (.ref ab), (.int (0 : Int32)), (.int (7 : Int32))] ∧ Z.Warmed39 U_.vm ∧ U_.heap = h0) (fun _ _ _ _ _ => True) (fun _ U_ o_ V_ => ∃ v_ L_, o_ = .returned v_ ∧ own_Q7 Z ac ab c0 c1 c2 c3 c4 c5 c6 h0 n0 v_ V_.heap L_ ∧ FrameEnd U_ o_ V_ L_ ({ frames := 0, cells := 0, slots := 0, locals := 0 } : Room).cells ({ frames := 0, cells := 0, slots := 0, locals := 0 } : Room).slots) := by
  refine MetFree.of_bodySF (plainFor_of_name own_pn_java_lang_StringUTF16) hisR ?_
  intro p e s m args below meth c s₁ Bd hml0 hP hK
  obtain ⟨rfl, hZ, hh⟩ := hP
  have hx := Bd.exec
  have hby := Bd.bytes
  have hml : c.maxLocals = 7 := hml0
  have hown : s.vm.findClass "java/lang/StringUTF16" = some m.cls := findClass_of_methodNamed Bd.named
  have hnm := (name_of_methodNamed Bd.named Bd.method).1
  have X0 : Stand p l e ({ frames := 0, cells := 0, slots := 0, locals := 0 } : Room) s m #[(.ref ac), (.int (0 : Int32)), (.ref ab), (.int (0 : Int32)), (.int (7 : Int32))] below meth c s₁ [] 0 0 := Stand.of_body Bd
  have e0 : s₁.heap = h0 := by rw [← hh, Bd.state]; rfl
  have N0 := Fr.nil n0
  show own_G p e below s (own_Q7 Z ac ab c0 c1 c2 c3 c4 c5 c6 h0 n0) ({ frames := 0, cells := 0, slots := 0, locals := 0 } : Room).cells ({ frames := 0, cells := 0, slots := 0, locals := 0 } : Room).slots s₁ (entryFrame m #[(.ref ac), (.int (0 : Int32)), (.ref ab), (.int (0 : Int32)), (.int (7 : Int32))] 7)
  rw [own_rm7_ef]
  refine own_w (T' := s₁) (g' := (mkF m 1 #[.val (.ref ac), .val (.int (0 : Int32)), .val (.ref ab), .val (.int (0 : Int32)), .val (.int (7 : Int32)), .unset, .unset] [(.int (0 : Int32))])) (fun _ k_ => XS.iconst X0.here hx rfl (hb hby own_d7_0) k_) ?_
  refine own_w (T' := s₁) (g' := (mkF m 3 #[.val (.ref ac), .val (.int (0 : Int32)), .val (.ref ab), .val (.int (0 : Int32)), .val (.int (7 : Int32)), .val (.int (0 : Int32)), .unset] [])) (fun _ k_ => XS.istore X0.here hx rfl (hb hby own_d7_1) rfl (l' := #[.val (.ref ac), .val (.int (0 : Int32)), .val (.ref ab), .val (.int (0 : Int32)), .val (.int (7 : Int32)), .val (.int (0 : Int32)), .unset]) rfl k_) ?_
  refine own_w (T' := s₁) (g' := (mkF m 5 #[.val (.ref ac), .val (.int (0 : Int32)), .val (.ref ab), .val (.int (0 : Int32)), .val (.int (7 : Int32)), .val (.int (0 : Int32)), .unset] [(.int (0 : Int32))])) (fun _ k_ => XS.iload X0.here hx rfl (hb hby own_d7_3) rfl k_) ?_
  refine own_w (T' := s₁) (g' := (mkF m 7 #[.val (.ref ac), .val (.int (0 : Int32)), .val (.ref ab), .val (.int (0 : Int32)), .val (.int (7 : Int32)), .val (.int (0 : Int32)), .unset] [(.int (7 : Int32)), (.int (0 : Int32))])) (fun _ k_ => XS.iload X0.here hx rfl (hb hby own_d7_5) rfl k_) ?_
  refine own_w (T' := s₁) (g' := (mkF m 10 #[.val (.ref ac), .val (.int (0 : Int32)), .val (.ref ab), .val (.int (0 : Int32)), .val (.int (7 : Int32)), .val (.int (0 : Int32)), .unset] [])) (fun _ k_ => XS.icmpNo X0.here hx rfl (hb hby own_d7_7) rfl (tlt (by decide)).2.1 k_) ?_
  refine own_w (T' := s₁) (g' := (mkF m 11 #[.val (.ref ac), .val (.int (0 : Int32)), .val (.ref ab), .val (.int (0 : Int32)), .val (.int (7 : Int32)), .val (.int (0 : Int32)), .unset] [(.ref ac)])) (fun _ k_ => XS.aloadN X0.here hx rfl (hb hby own_d7_10) rfl rfl k_) ?_
  refine own_w (T' := s₁) (g' := (mkF m 12 #[.val (.ref ac), .val (.int (0 : Int32)), .val (.ref ab), .val (.int (0 : Int32)), .val (.int (7 : Int32)), .val (.int (0 : Int32)), .unset] [(.int (0 : Int32)), (.ref ac)])) (fun _ k_ => XS.iloadN X0.here hx rfl (hb hby own_d7_11) rfl k_) ?_
  obtain ⟨cl1, Ar1, hs1⟩ := id Va
  refine own_w (T' := s₁) (g' := (mkF m 13 #[.val (.ref ac), .val (.int (0 : Int32)), .val (.ref ab), .val (.int (0 : Int32)), .val (.int (7 : Int32)), .val (.int (0 : Int32)), .unset] [(.int c0)])) (fun t_ k_ => X0.caload hx (j := (0 : Int32)) (v := .int c0) (by rw [e0]; exact Ar1.1) (State.isArrayOf_alike hZ.alike Ar1.2.1) Ar1.2.2 (own_Ar_in (i := 0) hs1 (by decide) (own_get_lt (show _ = some c0 from rfl))) (own_Ar_at (i := 0) hs1 (by decide) (show _ = some c0 from rfl)) (g := (mkF m 12 #[.val (.ref ac), .val (.int (0 : Int32)), .val (.ref ab), .val (.int (0 : Int32)), .val (.int (7 : Int32)), .val (.int (0 : Int32)), .unset] [(.int (0 : Int32)), (.ref ac)])) rfl rfl (hb hby own_d7_12) t_ k_) ?_
  refine own_w (T' := s₁) (g' := (mkF m 15 #[.val (.ref ac), .val (.int (0 : Int32)), .val (.ref ab), .val (.int (0 : Int32)), .val (.int (7 : Int32)), .val (.int (0 : Int32)), .val (.int c0)] [])) (fun _ k_ => XS.istore X0.here hx rfl (hb hby own_d7_13) rfl (l' := #[.val (.ref ac), .val (.int (0 : Int32)), .val (.ref ab), .val (.int (0 : Int32)), .val (.int (7 : Int32)), .val (.int (0 : Int32)), .val (.int c0)]) rfl k_) ?_
  refine own_w (T' := s₁) (g' := (mkF m 17 #[.val (.ref ac), .val (.int (0 : Int32)), .val (.ref ab), .val (.int (0 : Int32)), .val (.int (7 : Int32)), .val (.int (0 : Int32)), .val (.int c0)] [(.int c0)])) (fun _ k_ => XS.iload X0.here hx rfl (hb hby own_d7_15) rfl k_) ?_
  refine own_w (T' := s₁) (g' := (mkF m 20 #[.val (.ref ac), .val (.int (0 : Int32)), .val (.ref ab), .val (.int (0 : Int32)), .val (.int (7 : Int32)), .val (.int (0 : Int32)), .val (.int c0)] [(.int (255 : Int32)), (.int c0)])) (fun _ k_ => XS.sipush X0.here hx rfl (hb hby own_d7_17) k_) ?_
  refine own_w (T' := s₁) (g' := (mkF m 26 #[.val (.ref ac), .val (.int (0 : Int32)), .val (.ref ab), .val (.int (0 : Int32)), .val (.int (7 : Int32)), .val (.int (0 : Int32)), .val (.int c0)] [])) (fun _ k_ => XS.icmpYes X0.here hx rfl (pc0 := 20) (pc' := 26) rfl (hb hby own_d7_20) rfl (flt hc0).2.2.2 (by decide) (by decide) k_) ?_
  refine own_w (T' := s₁) (g' := (mkF m 27 #[.val (.ref ac), .val (.int (0 : Int32)), .val (.ref ab), .val (.int (0 : Int32)), .val (.int (7 : Int32)), .val (.int (0 : Int32)), .val (.int c0)] [(.ref ab)])) (fun _ k_ => XS.aloadN X0.here hx rfl (hb hby own_d7_26) rfl rfl k_) ?_
  refine own_w (T' := s₁) (g' := (mkF m 28 #[.val (.ref ac), .val (.int (0 : Int32)), .val (.ref ab), .val (.int (0 : Int32)), .val (.int (7 : Int32)), .val (.int (0 : Int32)), .val (.int c0)] [(.int (0 : Int32)), (.ref ab)])) (fun _ k_ => XS.iloadN X0.here hx rfl (hb hby own_d7_27) rfl k_) ?_
  refine own_w (T' := s₁) (g' := (mkF m 30 #[.val (.ref ac), .val (.int (0 : Int32)), .val (.ref ab), .val (.int (0 : Int32)), .val (.int (7 : Int32)), .val (.int (0 : Int32)), .val (.int c0)] [(.int c0), (.int (0 : Int32)), (.ref ab)])) (fun _ k_ => XS.iload X0.here hx rfl (hb hby own_d7_28) rfl k_) ?_
  refine own_w (T' := s₁) (g' := (mkF m 31 #[.val (.ref ac), .val (.int (0 : Int32)), .val (.ref ab), .val (.int (0 : Int32)), .val (.int (7 : Int32)), .val (.int (0 : Int32)), .val (.int c0)] [(.int (c0.toInt8.toInt32)), (.int (0 : Int32)), (.ref ab)])) (fun _ k_ => XS.i2b X0.here hx rfl (hb hby own_d7_30) rfl k_) ?_
  obtain ⟨cl2, Ar2, hs2⟩ := id Vb
  obtain ⟨T2, h2, X2, e2, W2, st2⟩ := stB X0 hx hZ e0 Ar2 (j := (0 : Int32)) (own_Ar_in (i := 0) hs2 (by decide) (by simp)) (g := (mkF m 31 #[.val (.ref ac), .val (.int (0 : Int32)), .val (.ref ab), .val (.int (0 : Int32)), .val (.int (7 : Int32)), .val (.int (0 : Int32)), .val (.int c0)] [(.int (c0.toInt8.toInt32)), (.int (0 : Int32)), (.ref ab)])) rfl rfl (hb hby own_d7_31)
  have V2 := own_Ar_set (i := 0) Vb W2 (by decide) (own_n8 _)
  have N2 := Fr.snoc X2 N0 g_ab
  have Z2 : n0 ≤ h2.size := Nat.le_trans Z0 (Keep.of_wr W2).1
  refine own_w (T' := T2) (g' := (mkF m 32 #[.val (.ref ac), .val (.int (0 : Int32)), .val (.ref ab), .val (.int (0 : Int32)), .val (.int (7 : Int32)), .val (.int (0 : Int32)), .val (.int c0)] [])) st2 ?_
  have Va2 := own_Ar_other Va W2 ne
  have K2 := (Keep.refl h0 [ab]).wr W2 (Or.inl (List.mem_singleton.mpr rfl))
  refine own_w (T' := T2) (g' := (mkF m 35 #[.val (.ref ac), .val (.int (1 : Int32)), .val (.ref ab), .val (.int (0 : Int32)), .val (.int (7 : Int32)), .val (.int (0 : Int32)), .val (.int c0)] [])) (fun _ k_ => XS.iinc X2.here hx rfl (hb hby own_d7_32) rfl (l' := #[.val (.ref ac), .val (.int (1 : Int32)), .val (.ref ab), .val (.int (0 : Int32)), .val (.int (7 : Int32)), .val (.int (0 : Int32)), .val (.int c0)]) rfl k_) ?_
  refine own_w (T' := T2) (g' := (mkF m 38 #[.val (.ref ac), .val (.int (1 : Int32)), .val (.ref ab), .val (.int (1 : Int32)), .val (.int (7 : Int32)), .val (.int (0 : Int32)), .val (.int c0)] [])) (fun _ k_ => XS.iinc X2.here hx rfl (hb hby own_d7_35) rfl (l' := #[.val (.ref ac), .val (.int (1 : Int32)), .val (.ref ab), .val (.int (1 : Int32)), .val (.int (7 : Int32)), .val (.int (0 : Int32)), .val (.int c0)]) rfl k_) ?_
  refine own_w (T' := T2) (g' := (mkF m 41 #[.val (.ref ac), .val (.int (1 : Int32)), .val (.ref ab), .val (.int (1 : Int32)), .val (.int (7 : Int32)), .val (.int (1 : Int32)), .val (.int c0)] [])) (fun _ k_ => XS.iinc X2.here hx rfl (hb hby own_d7_38) rfl (l' := #[.val (.ref ac), .val (.int (1 : Int32)), .val (.ref ab), .val (.int (1 : Int32)), .val (.int (7 : Int32)), .val (.int (1 : Int32)), .val (.int c0)]) rfl k_) ?_
  refine own_w (T' := T2) (g' := (mkF m 3 #[.val (.ref ac), .val (.int (1 : Int32)), .val (.ref ab), .val (.int (1 : Int32)), .val (.int (7 : Int32)), .val (.int (1 : Int32)), .val (.int c0)] [])) (fun _ k_ => XS.goto X2.here hx rfl (pc0 := 41) (pc' := 3) rfl (hb hby own_d7_41) (by decide) (by decide) k_) ?_
  refine own_w (T' := T2) (g' := (mkF m 5 #[.val (.ref ac), .val (.int (1 : Int32)), .val (.ref ab), .val (.int (1 : Int32)), .val (.int (7 : Int32)), .val (.int (1 : Int32)), .val (.int c0)] [(.int (1 : Int32))])) (fun _ k_ => XS.iload X2.here hx rfl (hb hby own_d7_3) rfl k_) ?_
  refine own_w (T' := T2) (g' := (mkF m 7 #[.val (.ref ac), .val (.int (1 : Int32)), .val (.ref ab), .val (.int (1 : Int32)), .val (.int (7 : Int32)), .val (.int (1 : Int32)), .val (.int c0)] [(.int (7 : Int32)), (.int (1 : Int32))])) (fun _ k_ => XS.iload X2.here hx rfl (hb hby own_d7_5) rfl k_) ?_
  refine own_w (T' := T2) (g' := (mkF m 10 #[.val (.ref ac), .val (.int (1 : Int32)), .val (.ref ab), .val (.int (1 : Int32)), .val (.int (7 : Int32)), .val (.int (1 : Int32)), .val (.int c0)] [])) (fun _ k_ => XS.icmpNo X2.here hx rfl (hb hby own_d7_7) rfl (tlt (by decide)).2.1 k_) ?_
  refine own_w (T' := T2) (g' := (mkF m 11 #[.val (.ref ac), .val (.int (1 : Int32)), .val (.ref ab), .val (.int (1 : Int32)), .val (.int (7 : Int32)), .val (.int (1 : Int32)), .val (.int c0)] [(.ref ac)])) (fun _ k_ => XS.aloadN X2.here hx rfl (hb hby own_d7_10) rfl rfl k_) ?_
  refine own_w (T' := T2) (g' := (mkF m 12 #[.val (.ref ac), .val (.int (1 : Int32)), .val (.ref ab), .val (.int (1 : Int32)), .val (.int (7 : Int32)), .val (.int (1 : Int32)), .val (.int c0)] [(.int (1 : Int32)), (.ref ac)])) (fun _ k_ => XS.iloadN X2.here hx rfl (hb hby own_d7_11) rfl k_) ?_
  obtain ⟨cl3, Ar3, hs3⟩ := id Va2
  refine own_w (T' := T2) (g' := (mkF m 13 #[.val (.ref ac), .val (.int (1 : Int32)), .val (.ref ab), .val (.int (1 : Int32)), .val (.int (7 : Int32)), .val (.int (1 : Int32)), .val (.int c0)] [(.int c1)])) (fun t_ k_ => X2.caload hx (j := (1 : Int32)) (v := .int c1) (by rw [e2]; exact Ar3.1) (State.isArrayOf_alike hZ.alike Ar3.2.1) Ar3.2.2 (own_Ar_in (i := 1) hs3 (by decide) (own_get_lt (show _ = some c1 from rfl))) (own_Ar_at (i := 1) hs3 (by decide) (show _ = some c1 from rfl)) (g := (mkF m 12 #[.val (.ref ac), .val (.int (1 : Int32)), .val (.ref ab), .val (.int (1 : Int32)), .val (.int (7 : Int32)), .val (.int (1 : Int32)), .val (.int c0)] [(.int (1 : Int32)), (.ref ac)])) rfl rfl (hb hby own_d7_12) t_ k_) ?_
  refine own_w (T' := T2) (g' := (mkF m 15 #[.val (.ref ac), .val (.int (1 : Int32)), .val (.ref ab), .val (.int (1 : Int32)), .val (.int (7 : Int32)), .val (.int (1 : Int32)), .val (.int c1)] [])) (fun _ k_ => XS.istore X2.here hx rfl (hb hby own_d7_13) rfl (l' := #[.val (.ref ac), .val (.int (1 : Int32)), .val (.ref ab), .val (.int (1 : Int32)), .val (.int (7 : Int32)), .val (.int (1 : Int32)), .val (.int c1)]) rfl k_) ?_
  refine own_w (T' := T2) (g' := (mkF m 17 #[.val (.ref ac), .val (.int (1 : Int32)), .val (.ref ab), .val (.int (1 : Int32)), .val (.int (7 : Int32)), .val (.int (1 : Int32)), .val (.int c1)] [(.int c1)])) (fun _ k_ => XS.iload X2.here hx rfl (hb hby own_d7_15) rfl k_) ?_
  refine own_w (T' := T2) (g' := (mkF m 20 #[.val (.ref ac), .val (.int (1 : Int32)), .val (.ref ab), .val (.int (1 : Int32)), .val (.int (7 : Int32)), .val (.int (1 : Int32)), .val (.int c1)] [(.int (255 : Int32)), (.int c1)])) (fun _ k_ => XS.sipush X2.here hx rfl (hb hby own_d7_17) k_) ?_
  refine own_w (T' := T2) (g' := (mkF m 26 #[.val (.ref ac), .val (.int (1 : Int32)), .val (.ref ab), .val (.int (1 : Int32)), .val (.int (7 : Int32)), .val (.int (1 : Int32)), .val (.int c1)] [])) (fun _ k_ => XS.icmpYes X2.here hx rfl (pc0 := 20) (pc' := 26) rfl (hb hby own_d7_20) rfl (flt hc1).2.2.2 (by decide) (by decide) k_) ?_
  refine own_w (T' := T2) (g' := (mkF m 27 #[.val (.ref ac), .val (.int (1 : Int32)), .val (.ref ab), .val (.int (1 : Int32)), .val (.int (7 : Int32)), .val (.int (1 : Int32)), .val (.int c1)] [(.ref ab)])) (fun _ k_ => XS.aloadN X2.here hx rfl (hb hby own_d7_26) rfl rfl k_) ?_
  refine own_w (T' := T2) (g' := (mkF m 28 #[.val (.ref ac), .val (.int (1 : Int32)), .val (.ref ab), .val (.int (1 : Int32)), .val (.int (7 : Int32)), .val (.int (1 : Int32)), .val (.int c1)] [(.int (1 : Int32)), (.ref ab)])) (fun _ k_ => XS.iloadN X2.here hx rfl (hb hby own_d7_27) rfl k_) ?_
  refine own_w (T' := T2) (g' := (mkF m 30 #[.val (.ref ac), .val (.int (1 : Int32)), .val (.ref ab), .val (.int (1 : Int32)), .val (.int (7 : Int32)), .val (.int (1 : Int32)), .val (.int c1)] [(.int c1), (.int (1 : Int32)), (.ref ab)])) (fun _ k_ => XS.iload X2.here hx rfl (hb hby own_d7_28) rfl k_) ?_
  refine own_w (T' := T2) (g' := (mkF m 31 #[.val (.ref ac), .val (.int (1 : Int32)), .val (.ref ab), .val (.int (1 : Int32)), .val (.int (7 : Int32)), .val (.int (1 : Int32)), .val (.int c1)] [(.int (c1.toInt8.toInt32)), (.int (1 : Int32)), (.ref ab)])) (fun _ k_ => XS.i2b X2.here hx rfl (hb hby own_d7_30) rfl k_) ?_
  obtain ⟨cl4, Ar4, hs4⟩ := id V2
  obtain ⟨T4, h4, X4, e4, W4, st4⟩ := stB X2 hx hZ e2 Ar4 (j := (1 : Int32)) (own_Ar_in (i := 1) hs4 (by decide) (by simp)) (g := (mkF m 31 #[.val (.ref ac), .val (.int (1 : Int32)), .val (.ref ab), .val (.int (1 : Int32)), .val (.int (7 : Int32)), .val (.int (1 : Int32)), .val (.int c1)] [(.int (c1.toInt8.toInt32)), (.int (1 : Int32)), (.ref ab)])) rfl rfl (hb hby own_d7_31)
  have V4 := own_Ar_set (i := 1) V2 W4 (by decide) (own_n8 _)
  have N4 := Fr.snoc X4 N2 g_ab
  have Z4 : n0 ≤ h4.size := Nat.le_trans Z2 (Keep.of_wr W4).1
  refine own_w (T' := T4) (g' := (mkF m 32 #[.val (.ref ac), .val (.int (1 : Int32)), .val (.ref ab), .val (.int (1 : Int32)), .val (.int (7 : Int32)), .val (.int (1 : Int32)), .val (.int c1)] [])) st4 ?_
  have Va4 := own_Ar_other Va2 W4 ne
  have K4 := K2.wr W4 (Or.inl (List.mem_singleton.mpr rfl))
  refine own_w (T' := T4) (g' := (mkF m 35 #[.val (.ref ac), .val (.int (2 : Int32)), .val (.ref ab), .val (.int (1 : Int32)), .val (.int (7 : Int32)), .val (.int (1 : Int32)), .val (.int c1)] [])) (fun _ k_ => XS.iinc X4.here hx rfl (hb hby own_d7_32) rfl (l' := #[.val (.ref ac), .val (.int (2 : Int32)), .val (.ref ab), .val (.int (1 : Int32)), .val (.int (7 : Int32)), .val (.int (1 : Int32)), .val (.int c1)]) rfl k_) ?_
  refine own_w (T' := T4) (g' := (mkF m 38 #[.val (.ref ac), .val (.int (2 : Int32)), .val (.ref ab), .val (.int (2 : Int32)), .val (.int (7 : Int32)), .val (.int (1 : Int32)), .val (.int c1)] [])) (fun _ k_ => XS.iinc X4.here hx rfl (hb hby own_d7_35) rfl (l' := #[.val (.ref ac), .val (.int (2 : Int32)), .val (.ref ab), .val (.int (2 : Int32)), .val (.int (7 : Int32)), .val (.int (1 : Int32)), .val (.int c1)]) rfl k_) ?_
  refine own_w (T' := T4) (g' := (mkF m 41 #[.val (.ref ac), .val (.int (2 : Int32)), .val (.ref ab), .val (.int (2 : Int32)), .val (.int (7 : Int32)), .val (.int (2 : Int32)), .val (.int c1)] [])) (fun _ k_ => XS.iinc X4.here hx rfl (hb hby own_d7_38) rfl (l' := #[.val (.ref ac), .val (.int (2 : Int32)), .val (.ref ab), .val (.int (2 : Int32)), .val (.int (7 : Int32)), .val (.int (2 : Int32)), .val (.int c1)]) rfl k_) ?_
  refine own_w (T' := T4) (g' := (mkF m 3 #[.val (.ref ac), .val (.int (2 : Int32)), .val (.ref ab), .val (.int (2 : Int32)), .val (.int (7 : Int32)), .val (.int (2 : Int32)), .val (.int c1)] [])) (fun _ k_ => XS.goto X4.here hx rfl (pc0 := 41) (pc' := 3) rfl (hb hby own_d7_41) (by decide) (by decide) k_) ?_
  refine own_w (T' := T4) (g' := (mkF m 5 #[.val (.ref ac), .val (.int (2 : Int32)), .val (.ref ab), .val (.int (2 : Int32)), .val (.int (7 : Int32)), .val (.int (2 : Int32)), .val (.int c1)] [(.int (2 : Int32))])) (fun _ k_ => XS.iload X4.here hx rfl (hb hby own_d7_3) rfl k_) ?_
  refine own_w (T' := T4) (g' := (mkF m 7 #[.val (.ref ac), .val (.int (2 : Int32)), .val (.ref ab), .val (.int (2 : Int32)), .val (.int (7 : Int32)), .val (.int (2 : Int32)), .val (.int c1)] [(.int (7 : Int32)), (.int (2 : Int32))])) (fun _ k_ => XS.iload X4.here hx rfl (hb hby own_d7_5) rfl k_) ?_
  refine own_w (T' := T4) (g' := (mkF m 10 #[.val (.ref ac), .val (.int (2 : Int32)), .val (.ref ab), .val (.int (2 : Int32)), .val (.int (7 : Int32)), .val (.int (2 : Int32)), .val (.int c1)] [])) (fun _ k_ => XS.icmpNo X4.here hx rfl (hb hby own_d7_7) rfl (tlt (by decide)).2.1 k_) ?_
  refine own_w (T' := T4) (g' := (mkF m 11 #[.val (.ref ac), .val (.int (2 : Int32)), .val (.ref ab), .val (.int (2 : Int32)), .val (.int (7 : Int32)), .val (.int (2 : Int32)), .val (.int c1)] [(.ref ac)])) (fun _ k_ => XS.aloadN X4.here hx rfl (hb hby own_d7_10) rfl rfl k_) ?_
  refine own_w (T' := T4) (g' := (mkF m 12 #[.val (.ref ac), .val (.int (2 : Int32)), .val (.ref ab), .val (.int (2 : Int32)), .val (.int (7 : Int32)), .val (.int (2 : Int32)), .val (.int c1)] [(.int (2 : Int32)), (.ref ac)])) (fun _ k_ => XS.iloadN X4.here hx rfl (hb hby own_d7_11) rfl k_) ?_
  obtain ⟨cl5, Ar5, hs5⟩ := id Va4
  refine own_w (T' := T4) (g' := (mkF m 13 #[.val (.ref ac), .val (.int (2 : Int32)), .val (.ref ab), .val (.int (2 : Int32)), .val (.int (7 : Int32)), .val (.int (2 : Int32)), .val (.int c1)] [(.int c2)])) (fun t_ k_ => X4.caload hx (j := (2 : Int32)) (v := .int c2) (by rw [e4]; exact Ar5.1) (State.isArrayOf_alike hZ.alike Ar5.2.1) Ar5.2.2 (own_Ar_in (i := 2) hs5 (by decide) (own_get_lt (show _ = some c2 from rfl))) (own_Ar_at (i := 2) hs5 (by decide) (show _ = some c2 from rfl)) (g := (mkF m 12 #[.val (.ref ac), .val (.int (2 : Int32)), .val (.ref ab), .val (.int (2 : Int32)), .val (.int (7 : Int32)), .val (.int (2 : Int32)), .val (.int c1)] [(.int (2 : Int32)), (.ref ac)])) rfl rfl (hb hby own_d7_12) t_ k_) ?_
  refine own_w (T' := T4) (g' := (mkF m 15 #[.val (.ref ac), .val (.int (2 : Int32)), .val (.ref ab), .val (.int (2 : Int32)), .val (.int (7 : Int32)), .val (.int (2 : Int32)), .val (.int c2)] [])) (fun _ k_ => XS.istore X4.here hx rfl (hb hby own_d7_13) rfl (l' := #[.val (.ref ac), .val (.int (2 : Int32)), .val (.ref ab), .val (.int (2 : Int32)), .val (.int (7 : Int32)), .val (.int (2 : Int32)), .val (.int c2)]) rfl k_) ?_
  refine own_w (T' := T4) (g' := (mkF m 17 #[.val (.ref ac), .val (.int (2 : Int32)), .val (.ref ab), .val (.int (2 : Int32)), .val (.int (7 : Int32)), .val (.int (2 : Int32)), .val (.int c2)] [(.int c2)])) (fun _ k_ => XS.iload X4.here hx rfl (hb hby own_d7_15) rfl k_) ?_
  refine own_w (T' := T4) (g' := (mkF m 20 #[.val (.ref ac), .val (.int (2 : Int32)), .val (.ref ab), .val (.int (2 : Int32)), .val (.int (7 : Int32)), .val (.int (2 : Int32)), .val (.int c2)] [(.int (255 : Int32)), (.int c2)])) (fun _ k_ => XS.sipush X4.here hx rfl (hb hby own_d7_17) k_) ?_
  refine own_w (T' := T4) (g' := (mkF m 26 #[.val (.ref ac), .val (.int (2 : Int32)), .val (.ref ab), .val (.int (2 : Int32)), .val (.int (7 : Int32)), .val (.int (2 : Int32)), .val (.int c2)] [])) (fun _ k_ => XS.icmpYes X4.here hx rfl (pc0 := 20) (pc' := 26) rfl (hb hby own_d7_20) rfl (flt hc2).2.2.2 (by decide) (by decide) k_) ?_
  refine own_w (T' := T4) (g' := (mkF m 27 #[.val (.ref ac), .val (.int (2 : Int32)), .val (.ref ab), .val (.int (2 : Int32)), .val (.int (7 : Int32)), .val (.int (2 : Int32)), .val (.int c2)] [(.ref ab)])) (fun _ k_ => XS.aloadN X4.here hx rfl (hb hby own_d7_26) rfl rfl k_) ?_
  refine own_w (T' := T4) (g' := (mkF m 28 #[.val (.ref ac), .val (.int (2 : Int32)), .val (.ref ab), .val (.int (2 : Int32)), .val (.int (7 : Int32)), .val (.int (2 : Int32)), .val (.int c2)] [(.int (2 : Int32)), (.ref ab)])) (fun _ k_ => XS.iloadN X4.here hx rfl (hb hby own_d7_27) rfl k_) ?_
  refine own_w (T' := T4) (g' := (mkF m 30 #[.val (.ref ac), .val (.int (2 : Int32)), .val (.ref ab), .val (.int (2 : Int32)), .val (.int (7 : Int32)), .val (.int (2 : Int32)), .val (.int c2)] [(.int c2), (.int (2 : Int32)), (.ref ab)])) (fun _ k_ => XS.iload X4.here hx rfl (hb hby own_d7_28) rfl k_) ?_
  refine own_w (T' := T4) (g' := (mkF m 31 #[.val (.ref ac), .val (.int (2 : Int32)), .val (.ref ab), .val (.int (2 : Int32)), .val (.int (7 : Int32)), .val (.int (2 : Int32)), .val (.int c2)] [(.int (c2.toInt8.toInt32)), (.int (2 : Int32)), (.ref ab)])) (fun _ k_ => XS.i2b X4.here hx rfl (hb hby own_d7_30) rfl k_) ?_
  obtain ⟨cl6, Ar6, hs6⟩ := id V4
  obtain ⟨T6, h6, X6, e6, W6, st6⟩ := stB X4 hx hZ e4 Ar6 (j := (2 : Int32)) (own_Ar_in (i := 2) hs6 (by decide) (by simp)) (g := (mkF m 31 #[.val (.ref ac), .val (.int (2 : Int32)), .val (.ref ab), .val (.int (2 : Int32)), .val (.int (7 : Int32)), .val (.int (2 : Int32)), .val (.int c2)] [(.int (c2.toInt8.toInt32)), (.int (2 : Int32)), (.ref ab)])) rfl rfl (hb hby own_d7_31)
  have V6 := own_Ar_set (i := 2) V4 W6 (by decide) (own_n8 _)
  have N6 := Fr.snoc X6 N4 g_ab
  have Z6 : n0 ≤ h6.size := Nat.le_trans Z4 (Keep.of_wr W6).1
  refine own_w (T' := T6) (g' := (mkF m 32 #[.val (.ref ac), .val (.int (2 : Int32)), .val (.ref ab), .val (.int (2 : Int32)), .val (.int (7 : Int32)), .val (.int (2 : Int32)), .val (.int c2)] [])) st6 ?_
  have Va6 := own_Ar_other Va4 W6 ne
  have K6 := K4.wr W6 (Or.inl (List.mem_singleton.mpr rfl))
  refine own_w (T' := T6) (g' := (mkF m 35 #[.val (.ref ac), .val (.int (3 : Int32)), .val (.ref ab), .val (.int (2 : Int32)), .val (.int (7 : Int32)), .val (.int (2 : Int32)), .val (.int c2)] [])) (fun _ k_ => XS.iinc X6.here hx rfl (hb hby own_d7_32) rfl (l' := #[.val (.ref ac), .val (.int (3 : Int32)), .val (.ref ab), .val (.int (2 : Int32)), .val (.int (7 : Int32)), .val (.int (2 : Int32)), .val (.int c2)]) rfl k_) ?_
  refine own_w (T' := T6) (g' := (mkF m 38 #[.val (.ref ac), .val (.int (3 : Int32)), .val (.ref ab), .val (.int (3 : Int32)), .val (.int (7 : Int32)), .val (.int (2 : Int32)), .val (.int c2)] [])) (fun _ k_ => XS.iinc X6.here hx rfl (hb hby own_d7_35) rfl (l' := #[.val (.ref ac), .val (.int (3 : Int32)), .val (.ref ab), .val (.int (3 : Int32)), .val (.int (7 : Int32)), .val (.int (2 : Int32)), .val (.int c2)]) rfl k_) ?_
  refine own_w (T' := T6) (g' := (mkF m 41 #[.val (.ref ac), .val (.int (3 : Int32)), .val (.ref ab), .val (.int (3 : Int32)), .val (.int (7 : Int32)), .val (.int (3 : Int32)), .val (.int c2)] [])) (fun _ k_ => XS.iinc X6.here hx rfl (hb hby own_d7_38) rfl (l' := #[.val (.ref ac), .val (.int (3 : Int32)), .val (.ref ab), .val (.int (3 : Int32)), .val (.int (7 : Int32)), .val (.int (3 : Int32)), .val (.int c2)]) rfl k_) ?_
  refine own_w (T' := T6) (g' := (mkF m 3 #[.val (.ref ac), .val (.int (3 : Int32)), .val (.ref ab), .val (.int (3 : Int32)), .val (.int (7 : Int32)), .val (.int (3 : Int32)), .val (.int c2)] [])) (fun _ k_ => XS.goto X6.here hx rfl (pc0 := 41) (pc' := 3) rfl (hb hby own_d7_41) (by decide) (by decide) k_) ?_
  refine own_w (T' := T6) (g' := (mkF m 5 #[.val (.ref ac), .val (.int (3 : Int32)), .val (.ref ab), .val (.int (3 : Int32)), .val (.int (7 : Int32)), .val (.int (3 : Int32)), .val (.int c2)] [(.int (3 : Int32))])) (fun _ k_ => XS.iload X6.here hx rfl (hb hby own_d7_3) rfl k_) ?_
  refine own_w (T' := T6) (g' := (mkF m 7 #[.val (.ref ac), .val (.int (3 : Int32)), .val (.ref ab), .val (.int (3 : Int32)), .val (.int (7 : Int32)), .val (.int (3 : Int32)), .val (.int c2)] [(.int (7 : Int32)), (.int (3 : Int32))])) (fun _ k_ => XS.iload X6.here hx rfl (hb hby own_d7_5) rfl k_) ?_
  refine own_w (T' := T6) (g' := (mkF m 10 #[.val (.ref ac), .val (.int (3 : Int32)), .val (.ref ab), .val (.int (3 : Int32)), .val (.int (7 : Int32)), .val (.int (3 : Int32)), .val (.int c2)] [])) (fun _ k_ => XS.icmpNo X6.here hx rfl (hb hby own_d7_7) rfl (tlt (by decide)).2.1 k_) ?_
  refine own_w (T' := T6) (g' := (mkF m 11 #[.val (.ref ac), .val (.int (3 : Int32)), .val (.ref ab), .val (.int (3 : Int32)), .val (.int (7 : Int32)), .val (.int (3 : Int32)), .val (.int c2)] [(.ref ac)])) (fun _ k_ => XS.aloadN X6.here hx rfl (hb hby own_d7_10) rfl rfl k_) ?_
  refine own_w (T' := T6) (g' := (mkF m 12 #[.val (.ref ac), .val (.int (3 : Int32)), .val (.ref ab), .val (.int (3 : Int32)), .val (.int (7 : Int32)), .val (.int (3 : Int32)), .val (.int c2)] [(.int (3 : Int32)), (.ref ac)])) (fun _ k_ => XS.iloadN X6.here hx rfl (hb hby own_d7_11) rfl k_) ?_
  obtain ⟨cl7, Ar7, hs7⟩ := id Va6
  refine own_w (T' := T6) (g' := (mkF m 13 #[.val (.ref ac), .val (.int (3 : Int32)), .val (.ref ab), .val (.int (3 : Int32)), .val (.int (7 : Int32)), .val (.int (3 : Int32)), .val (.int c2)] [(.int c3)])) (fun t_ k_ => X6.caload hx (j := (3 : Int32)) (v := .int c3) (by rw [e6]; exact Ar7.1) (State.isArrayOf_alike hZ.alike Ar7.2.1) Ar7.2.2 (own_Ar_in (i := 3) hs7 (by decide) (own_get_lt (show _ = some c3 from rfl))) (own_Ar_at (i := 3) hs7 (by decide) (show _ = some c3 from rfl)) (g := (mkF m 12 #[.val (.ref ac), .val (.int (3 : Int32)), .val (.ref ab), .val (.int (3 : Int32)), .val (.int (7 : Int32)), .val (.int (3 : Int32)), .val (.int c2)] [(.int (3 : Int32)), (.ref ac)])) rfl rfl (hb hby own_d7_12) t_ k_) ?_
  refine own_w (T' := T6) (g' := (mkF m 15 #[.val (.ref ac), .val (.int (3 : Int32)), .val (.ref ab), .val (.int (3 : Int32)), .val (.int (7 : Int32)), .val (.int (3 : Int32)), .val (.int c3)] [])) (fun _ k_ => XS.istore X6.here hx rfl (hb hby own_d7_13) rfl (l' := #[.val (.ref ac), .val (.int (3 : Int32)), .val (.ref ab), .val (.int (3 : Int32)), .val (.int (7 : Int32)), .val (.int (3 : Int32)), .val (.int c3)]) rfl k_) ?_
  refine own_w (T' := T6) (g' := (mkF m 17 #[.val (.ref ac), .val (.int (3 : Int32)), .val (.ref ab), .val (.int (3 : Int32)), .val (.int (7 : Int32)), .val (.int (3 : Int32)), .val (.int c3)] [(.int c3)])) (fun _ k_ => XS.iload X6.here hx rfl (hb hby own_d7_15) rfl k_) ?_
  refine own_w (T' := T6) (g' := (mkF m 20 #[.val (.ref ac), .val (.int (3 : Int32)), .val (.ref ab), .val (.int (3 : Int32)), .val (.int (7 : Int32)), .val (.int (3 : Int32)), .val (.int c3)] [(.int (255 : Int32)), (.int c3)])) (fun _ k_ => XS.sipush X6.here hx rfl (hb hby own_d7_17) k_) ?_
  refine own_w (T' := T6) (g' := (mkF m 26 #[.val (.ref ac), .val (.int (3 : Int32)), .val (.ref ab), .val (.int (3 : Int32)), .val (.int (7 : Int32)), .val (.int (3 : Int32)), .val (.int c3)] [])) (fun _ k_ => XS.icmpYes X6.here hx rfl (pc0 := 20) (pc' := 26) rfl (hb hby own_d7_20) rfl (flt hc3).2.2.2 (by decide) (by decide) k_) ?_
  refine own_w (T' := T6) (g' := (mkF m 27 #[.val (.ref ac), .val (.int (3 : Int32)), .val (.ref ab), .val (.int (3 : Int32)), .val (.int (7 : Int32)), .val (.int (3 : Int32)), .val (.int c3)] [(.ref ab)])) (fun _ k_ => XS.aloadN X6.here hx rfl (hb hby own_d7_26) rfl rfl k_) ?_
  refine own_w (T' := T6) (g' := (mkF m 28 #[.val (.ref ac), .val (.int (3 : Int32)), .val (.ref ab), .val (.int (3 : Int32)), .val (.int (7 : Int32)), .val (.int (3 : Int32)), .val (.int c3)] [(.int (3 : Int32)), (.ref ab)])) (fun _ k_ => XS.iloadN X6.here hx rfl (hb hby own_d7_27) rfl k_) ?_
  refine own_w (T' := T6) (g' := (mkF m 30 #[.val (.ref ac), .val (.int (3 : Int32)), .val (.ref ab), .val (.int (3 : Int32)), .val (.int (7 : Int32)), .val (.int (3 : Int32)), .val (.int c3)] [(.int c3), (.int (3 : Int32)), (.ref ab)])) (fun _ k_ => XS.iload X6.here hx rfl (hb hby own_d7_28) rfl k_) ?_
  refine own_w (T' := T6) (g' := (mkF m 31 #[.val (.ref ac), .val (.int (3 : Int32)), .val (.ref ab), .val (.int (3 : Int32)), .val (.int (7 : Int32)), .val (.int (3 : Int32)), .val (.int c3)] [(.int (c3.toInt8.toInt32)), (.int (3 : Int32)), (.ref ab)])) (fun _ k_ => XS.i2b X6.here hx rfl (hb hby own_d7_30) rfl k_) ?_
  obtain ⟨cl8, Ar8, hs8⟩ := id V6
  obtain ⟨T8, h8, X8, e8, W8, st8⟩ := stB X6 hx hZ e6 Ar8 (j := (3 : Int32)) (own_Ar_in (i := 3) hs8 (by decide) (by simp)) (g := (mkF m 31 #[.val (.ref ac), .val (.int (3 : Int32)), .val (.ref ab), .val (.int (3 : Int32)), .val (.int (7 : Int32)), .val (.int (3 : Int32)), .val (.int c3)] [(.int (c3.toInt8.toInt32)), (.int (3 : Int32)), (.ref ab)])) rfl rfl (hb hby own_d7_31)
  have V8 := own_Ar_set (i := 3) V6 W8 (by decide) (own_n8 _)
  have N8 := Fr.snoc X8 N6 g_ab
  have Z8 : n0 ≤ h8.size := Nat.le_trans Z6 (Keep.of_wr W8).1
  refine own_w (T' := T8) (g' := (mkF m 32 #[.val (.ref ac), .val (.int (3 : Int32)), .val (.ref ab), .val (.int (3 : Int32)), .val (.int (7 : Int32)), .val (.int (3 : Int32)), .val (.int c3)] [])) st8 ?_
  have Va8 := own_Ar_other Va6 W8 ne
  have K8 := K6.wr W8 (Or.inl (List.mem_singleton.mpr rfl))
  refine own_w (T' := T8) (g' := (mkF m 35 #[.val (.ref ac), .val (.int (4 : Int32)), .val (.ref ab), .val (.int (3 : Int32)), .val (.int (7 : Int32)), .val (.int (3 : Int32)), .val (.int c3)] [])) (fun _ k_ => XS.iinc X8.here hx rfl (hb hby own_d7_32) rfl (l' := #[.val (.ref ac), .val (.int (4 : Int32)), .val (.ref ab), .val (.int (3 : Int32)), .val (.int (7 : Int32)), .val (.int (3 : Int32)), .val (.int c3)]) rfl k_) ?_
  refine own_w (T' := T8) (g' := (mkF m 38 #[.val (.ref ac), .val (.int (4 : Int32)), .val (.ref ab), .val (.int (4 : Int32)), .val (.int (7 : Int32)), .val (.int (3 : Int32)), .val (.int c3)] [])) (fun _ k_ => XS.iinc X8.here hx rfl (hb hby own_d7_35) rfl (l' := #[.val (.ref ac), .val (.int (4 : Int32)), .val (.ref ab), .val (.int (4 : Int32)), .val (.int (7 : Int32)), .val (.int (3 : Int32)), .val (.int c3)]) rfl k_) ?_
  refine own_w (T' := T8) (g' := (mkF m 41 #[.val (.ref ac), .val (.int (4 : Int32)), .val (.ref ab), .val (.int (4 : Int32)), .val (.int (7 : Int32)), .val (.int (4 : Int32)), .val (.int c3)] [])) (fun _ k_ => XS.iinc X8.here hx rfl (hb hby own_d7_38) rfl (l' := #[.val (.ref ac), .val (.int (4 : Int32)), .val (.ref ab), .val (.int (4 : Int32)), .val (.int (7 : Int32)), .val (.int (4 : Int32)), .val (.int c3)]) rfl k_) ?_
  refine own_w (T' := T8) (g' := (mkF m 3 #[.val (.ref ac), .val (.int (4 : Int32)), .val (.ref ab), .val (.int (4 : Int32)), .val (.int (7 : Int32)), .val (.int (4 : Int32)), .val (.int c3)] [])) (fun _ k_ => XS.goto X8.here hx rfl (pc0 := 41) (pc' := 3) rfl (hb hby own_d7_41) (by decide) (by decide) k_) ?_
  refine own_w (T' := T8) (g' := (mkF m 5 #[.val (.ref ac), .val (.int (4 : Int32)), .val (.ref ab), .val (.int (4 : Int32)), .val (.int (7 : Int32)), .val (.int (4 : Int32)), .val (.int c3)] [(.int (4 : Int32))])) (fun _ k_ => XS.iload X8.here hx rfl (hb hby own_d7_3) rfl k_) ?_
  refine own_w (T' := T8) (g' := (mkF m 7 #[.val (.ref ac), .val (.int (4 : Int32)), .val (.ref ab), .val (.int (4 : Int32)), .val (.int (7 : Int32)), .val (.int (4 : Int32)), .val (.int c3)] [(.int (7 : Int32)), (.int (4 : Int32))])) (fun _ k_ => XS.iload X8.here hx rfl (hb hby own_d7_5) rfl k_) ?_
  refine own_w (T' := T8) (g' := (mkF m 10 #[.val (.ref ac), .val (.int (4 : Int32)), .val (.ref ab), .val (.int (4 : Int32)), .val (.int (7 : Int32)), .val (.int (4 : Int32)), .val (.int c3)] [])) (fun _ k_ => XS.icmpNo X8.here hx rfl (hb hby own_d7_7) rfl (tlt (by decide)).2.1 k_) ?_
  refine own_w (T' := T8) (g' := (mkF m 11 #[.val (.ref ac), .val (.int (4 : Int32)), .val (.ref ab), .val (.int (4 : Int32)), .val (.int (7 : Int32)), .val (.int (4 : Int32)), .val (.int c3)] [(.ref ac)])) (fun _ k_ => XS.aloadN X8.here hx rfl (hb hby own_d7_10) rfl rfl k_) ?_
  refine own_w (T' := T8) (g' := (mkF m 12 #[.val (.ref ac), .val (.int (4 : Int32)), .val (.ref ab), .val (.int (4 : Int32)), .val (.int (7 : Int32)), .val (.int (4 : Int32)), .val (.int c3)] [(.int (4 : Int32)), (.ref ac)])) (fun _ k_ => XS.iloadN X8.here hx rfl (hb hby own_d7_11) rfl k_) ?_
  obtain ⟨cl9, Ar9, hs9⟩ := id Va8
  refine own_w (T' := T8) (g' := (mkF m 13 #[.val (.ref ac), .val (.int (4 : Int32)), .val (.ref ab), .val (.int (4 : Int32)), .val (.int (7 : Int32)), .val (.int (4 : Int32)), .val (.int c3)] [(.int c4)])) (fun t_ k_ => X8.caload hx (j := (4 : Int32)) (v := .int c4) (by rw [e8]; exact Ar9.1) (State.isArrayOf_alike hZ.alike Ar9.2.1) Ar9.2.2 (own_Ar_in (i := 4) hs9 (by decide) (own_get_lt (show _ = some c4 from rfl))) (own_Ar_at (i := 4) hs9 (by decide) (show _ = some c4 from rfl)) (g := (mkF m 12 #[.val (.ref ac), .val (.int (4 : Int32)), .val (.ref ab), .val (.int (4 : Int32)), .val (.int (7 : Int32)), .val (.int (4 : Int32)), .val (.int c3)] [(.int (4 : Int32)), (.ref ac)])) rfl rfl (hb hby own_d7_12) t_ k_) ?_
  refine own_w (T' := T8) (g' := (mkF m 15 #[.val (.ref ac), .val (.int (4 : Int32)), .val (.ref ab), .val (.int (4 : Int32)), .val (.int (7 : Int32)), .val (.int (4 : Int32)), .val (.int c4)] [])) (fun _ k_ => XS.istore X8.here hx rfl (hb hby own_d7_13) rfl (l' := #[.val (.ref ac), .val (.int (4 : Int32)), .val (.ref ab), .val (.int (4 : Int32)), .val (.int (7 : Int32)), .val (.int (4 : Int32)), .val (.int c4)]) rfl k_) ?_
  refine own_w (T' := T8) (g' := (mkF m 17 #[.val (.ref ac), .val (.int (4 : Int32)), .val (.ref ab), .val (.int (4 : Int32)), .val (.int (7 : Int32)), .val (.int (4 : Int32)), .val (.int c4)] [(.int c4)])) (fun _ k_ => XS.iload X8.here hx rfl (hb hby own_d7_15) rfl k_) ?_
  refine own_w (T' := T8) (g' := (mkF m 20 #[.val (.ref ac), .val (.int (4 : Int32)), .val (.ref ab), .val (.int (4 : Int32)), .val (.int (7 : Int32)), .val (.int (4 : Int32)), .val (.int c4)] [(.int (255 : Int32)), (.int c4)])) (fun _ k_ => XS.sipush X8.here hx rfl (hb hby own_d7_17) k_) ?_
  refine own_w (T' := T8) (g' := (mkF m 26 #[.val (.ref ac), .val (.int (4 : Int32)), .val (.ref ab), .val (.int (4 : Int32)), .val (.int (7 : Int32)), .val (.int (4 : Int32)), .val (.int c4)] [])) (fun _ k_ => XS.icmpYes X8.here hx rfl (pc0 := 20) (pc' := 26) rfl (hb hby own_d7_20) rfl (flt hc4).2.2.2 (by decide) (by decide) k_) ?_
  refine own_w (T' := T8) (g' := (mkF m 27 #[.val (.ref ac), .val (.int (4 : Int32)), .val (.ref ab), .val (.int (4 : Int32)), .val (.int (7 : Int32)), .val (.int (4 : Int32)), .val (.int c4)] [(.ref ab)])) (fun _ k_ => XS.aloadN X8.here hx rfl (hb hby own_d7_26) rfl rfl k_) ?_
  refine own_w (T' := T8) (g' := (mkF m 28 #[.val (.ref ac), .val (.int (4 : Int32)), .val (.ref ab), .val (.int (4 : Int32)), .val (.int (7 : Int32)), .val (.int (4 : Int32)), .val (.int c4)] [(.int (4 : Int32)), (.ref ab)])) (fun _ k_ => XS.iloadN X8.here hx rfl (hb hby own_d7_27) rfl k_) ?_
  refine own_w (T' := T8) (g' := (mkF m 30 #[.val (.ref ac), .val (.int (4 : Int32)), .val (.ref ab), .val (.int (4 : Int32)), .val (.int (7 : Int32)), .val (.int (4 : Int32)), .val (.int c4)] [(.int c4), (.int (4 : Int32)), (.ref ab)])) (fun _ k_ => XS.iload X8.here hx rfl (hb hby own_d7_28) rfl k_) ?_
  refine own_w (T' := T8) (g' := (mkF m 31 #[.val (.ref ac), .val (.int (4 : Int32)), .val (.ref ab), .val (.int (4 : Int32)), .val (.int (7 : Int32)), .val (.int (4 : Int32)), .val (.int c4)] [(.int (c4.toInt8.toInt32)), (.int (4 : Int32)), (.ref ab)])) (fun _ k_ => XS.i2b X8.here hx rfl (hb hby own_d7_30) rfl k_) ?_
  obtain ⟨cl10, Ar10, hs10⟩ := id V8
  obtain ⟨T10, h10, X10, e10, W10, st10⟩ := stB X8 hx hZ e8 Ar10 (j := (4 : Int32)) (own_Ar_in (i := 4) hs10 (by decide) (by simp)) (g := (mkF m 31 #[.val (.ref ac), .val (.int (4 : Int32)), .val (.ref ab), .val (.int (4 : Int32)), .val (.int (7 : Int32)), .val (.int (4 : Int32)), .val (.int c4)] [(.int (c4.toInt8.toInt32)), (.int (4 : Int32)), (.ref ab)])) rfl rfl (hb hby own_d7_31)
  have V10 := own_Ar_set (i := 4) V8 W10 (by decide) (own_n8 _)
  have N10 := Fr.snoc X10 N8 g_ab
  have Z10 : n0 ≤ h10.size := Nat.le_trans Z8 (Keep.of_wr W10).1
  refine own_w (T' := T10) (g' := (mkF m 32 #[.val (.ref ac), .val (.int (4 : Int32)), .val (.ref ab), .val (.int (4 : Int32)), .val (.int (7 : Int32)), .val (.int (4 : Int32)), .val (.int c4)] [])) st10 ?_
  have Va10 := own_Ar_other Va8 W10 ne
  have K10 := K8.wr W10 (Or.inl (List.mem_singleton.mpr rfl))
  refine own_w (T' := T10) (g' := (mkF m 35 #[.val (.ref ac), .val (.int (5 : Int32)), .val (.ref ab), .val (.int (4 : Int32)), .val (.int (7 : Int32)), .val (.int (4 : Int32)), .val (.int c4)] [])) (fun _ k_ => XS.iinc X10.here hx rfl (hb hby own_d7_32) rfl (l' := #[.val (.ref ac), .val (.int (5 : Int32)), .val (.ref ab), .val (.int (4 : Int32)), .val (.int (7 : Int32)), .val (.int (4 : Int32)), .val (.int c4)]) rfl k_) ?_
  refine own_w (T' := T10) (g' := (mkF m 38 #[.val (.ref ac), .val (.int (5 : Int32)), .val (.ref ab), .val (.int (5 : Int32)), .val (.int (7 : Int32)), .val (.int (4 : Int32)), .val (.int c4)] [])) (fun _ k_ => XS.iinc X10.here hx rfl (hb hby own_d7_35) rfl (l' := #[.val (.ref ac), .val (.int (5 : Int32)), .val (.ref ab), .val (.int (5 : Int32)), .val (.int (7 : Int32)), .val (.int (4 : Int32)), .val (.int c4)]) rfl k_) ?_
  refine own_w (T' := T10) (g' := (mkF m 41 #[.val (.ref ac), .val (.int (5 : Int32)), .val (.ref ab), .val (.int (5 : Int32)), .val (.int (7 : Int32)), .val (.int (5 : Int32)), .val (.int c4)] [])) (fun _ k_ => XS.iinc X10.here hx rfl (hb hby own_d7_38) rfl (l' := #[.val (.ref ac), .val (.int (5 : Int32)), .val (.ref ab), .val (.int (5 : Int32)), .val (.int (7 : Int32)), .val (.int (5 : Int32)), .val (.int c4)]) rfl k_) ?_
  refine own_w (T' := T10) (g' := (mkF m 3 #[.val (.ref ac), .val (.int (5 : Int32)), .val (.ref ab), .val (.int (5 : Int32)), .val (.int (7 : Int32)), .val (.int (5 : Int32)), .val (.int c4)] [])) (fun _ k_ => XS.goto X10.here hx rfl (pc0 := 41) (pc' := 3) rfl (hb hby own_d7_41) (by decide) (by decide) k_) ?_
  refine own_w (T' := T10) (g' := (mkF m 5 #[.val (.ref ac), .val (.int (5 : Int32)), .val (.ref ab), .val (.int (5 : Int32)), .val (.int (7 : Int32)), .val (.int (5 : Int32)), .val (.int c4)] [(.int (5 : Int32))])) (fun _ k_ => XS.iload X10.here hx rfl (hb hby own_d7_3) rfl k_) ?_
  refine own_w (T' := T10) (g' := (mkF m 7 #[.val (.ref ac), .val (.int (5 : Int32)), .val (.ref ab), .val (.int (5 : Int32)), .val (.int (7 : Int32)), .val (.int (5 : Int32)), .val (.int c4)] [(.int (7 : Int32)), (.int (5 : Int32))])) (fun _ k_ => XS.iload X10.here hx rfl (hb hby own_d7_5) rfl k_) ?_
  refine own_w (T' := T10) (g' := (mkF m 10 #[.val (.ref ac), .val (.int (5 : Int32)), .val (.ref ab), .val (.int (5 : Int32)), .val (.int (7 : Int32)), .val (.int (5 : Int32)), .val (.int c4)] [])) (fun _ k_ => XS.icmpNo X10.here hx rfl (hb hby own_d7_7) rfl (tlt (by decide)).2.1 k_) ?_
  refine own_w (T' := T10) (g' := (mkF m 11 #[.val (.ref ac), .val (.int (5 : Int32)), .val (.ref ab), .val (.int (5 : Int32)), .val (.int (7 : Int32)), .val (.int (5 : Int32)), .val (.int c4)] [(.ref ac)])) (fun _ k_ => XS.aloadN X10.here hx rfl (hb hby own_d7_10) rfl rfl k_) ?_
  refine own_w (T' := T10) (g' := (mkF m 12 #[.val (.ref ac), .val (.int (5 : Int32)), .val (.ref ab), .val (.int (5 : Int32)), .val (.int (7 : Int32)), .val (.int (5 : Int32)), .val (.int c4)] [(.int (5 : Int32)), (.ref ac)])) (fun _ k_ => XS.iloadN X10.here hx rfl (hb hby own_d7_11) rfl k_) ?_
  obtain ⟨cl11, Ar11, hs11⟩ := id Va10
  refine own_w (T' := T10) (g' := (mkF m 13 #[.val (.ref ac), .val (.int (5 : Int32)), .val (.ref ab), .val (.int (5 : Int32)), .val (.int (7 : Int32)), .val (.int (5 : Int32)), .val (.int c4)] [(.int c5)])) (fun t_ k_ => X10.caload hx (j := (5 : Int32)) (v := .int c5) (by rw [e10]; exact Ar11.1) (State.isArrayOf_alike hZ.alike Ar11.2.1) Ar11.2.2 (own_Ar_in (i := 5) hs11 (by decide) (own_get_lt (show _ = some c5 from rfl))) (own_Ar_at (i := 5) hs11 (by decide) (show _ = some c5 from rfl)) (g := (mkF m 12 #[.val (.ref ac), .val (.int (5 : Int32)), .val (.ref ab), .val (.int (5 : Int32)), .val (.int (7 : Int32)), .val (.int (5 : Int32)), .val (.int c4)] [(.int (5 : Int32)), (.ref ac)])) rfl rfl (hb hby own_d7_12) t_ k_) ?_
  refine own_w (T' := T10) (g' := (mkF m 15 #[.val (.ref ac), .val (.int (5 : Int32)), .val (.ref ab), .val (.int (5 : Int32)), .val (.int (7 : Int32)), .val (.int (5 : Int32)), .val (.int c5)] [])) (fun _ k_ => XS.istore X10.here hx rfl (hb hby own_d7_13) rfl (l' := #[.val (.ref ac), .val (.int (5 : Int32)), .val (.ref ab), .val (.int (5 : Int32)), .val (.int (7 : Int32)), .val (.int (5 : Int32)), .val (.int c5)]) rfl k_) ?_
  refine own_w (T' := T10) (g' := (mkF m 17 #[.val (.ref ac), .val (.int (5 : Int32)), .val (.ref ab), .val (.int (5 : Int32)), .val (.int (7 : Int32)), .val (.int (5 : Int32)), .val (.int c5)] [(.int c5)])) (fun _ k_ => XS.iload X10.here hx rfl (hb hby own_d7_15) rfl k_) ?_
  refine own_w (T' := T10) (g' := (mkF m 20 #[.val (.ref ac), .val (.int (5 : Int32)), .val (.ref ab), .val (.int (5 : Int32)), .val (.int (7 : Int32)), .val (.int (5 : Int32)), .val (.int c5)] [(.int (255 : Int32)), (.int c5)])) (fun _ k_ => XS.sipush X10.here hx rfl (hb hby own_d7_17) k_) ?_
  refine own_w (T' := T10) (g' := (mkF m 26 #[.val (.ref ac), .val (.int (5 : Int32)), .val (.ref ab), .val (.int (5 : Int32)), .val (.int (7 : Int32)), .val (.int (5 : Int32)), .val (.int c5)] [])) (fun _ k_ => XS.icmpYes X10.here hx rfl (pc0 := 20) (pc' := 26) rfl (hb hby own_d7_20) rfl (flt hc5).2.2.2 (by decide) (by decide) k_) ?_
  refine own_w (T' := T10) (g' := (mkF m 27 #[.val (.ref ac), .val (.int (5 : Int32)), .val (.ref ab), .val (.int (5 : Int32)), .val (.int (7 : Int32)), .val (.int (5 : Int32)), .val (.int c5)] [(.ref ab)])) (fun _ k_ => XS.aloadN X10.here hx rfl (hb hby own_d7_26) rfl rfl k_) ?_
  refine own_w (T' := T10) (g' := (mkF m 28 #[.val (.ref ac), .val (.int (5 : Int32)), .val (.ref ab), .val (.int (5 : Int32)), .val (.int (7 : Int32)), .val (.int (5 : Int32)), .val (.int c5)] [(.int (5 : Int32)), (.ref ab)])) (fun _ k_ => XS.iloadN X10.here hx rfl (hb hby own_d7_27) rfl k_) ?_
  refine own_w (T' := T10) (g' := (mkF m 30 #[.val (.ref ac), .val (.int (5 : Int32)), .val (.ref ab), .val (.int (5 : Int32)), .val (.int (7 : Int32)), .val (.int (5 : Int32)), .val (.int c5)] [(.int c5), (.int (5 : Int32)), (.ref ab)])) (fun _ k_ => XS.iload X10.here hx rfl (hb hby own_d7_28) rfl k_) ?_
  refine own_w (T' := T10) (g' := (mkF m 31 #[.val (.ref ac), .val (.int (5 : Int32)), .val (.ref ab), .val (.int (5 : Int32)), .val (.int (7 : Int32)), .val (.int (5 : Int32)), .val (.int c5)] [(.int (c5.toInt8.toInt32)), (.int (5 : Int32)), (.ref ab)])) (fun _ k_ => XS.i2b X10.here hx rfl (hb hby own_d7_30) rfl k_) ?_
  obtain ⟨cl12, Ar12, hs12⟩ := id V10
  obtain ⟨T12, h12, X12, e12, W12, st12⟩ := stB X10 hx hZ e10 Ar12 (j := (5 : Int32)) (own_Ar_in (i := 5) hs12 (by decide) (by simp)) (g := (mkF m 31 #[.val (.ref ac), .val (.int (5 : Int32)), .val (.ref ab), .val (.int (5 : Int32)), .val (.int (7 : Int32)), .val (.int (5 : Int32)), .val (.int c5)] [(.int (c5.toInt8.toInt32)), (.int (5 : Int32)), (.ref ab)])) rfl rfl (hb hby own_d7_31)
  have V12 := own_Ar_set (i := 5) V10 W12 (by decide) (own_n8 _)
  have N12 := Fr.snoc X12 N10 g_ab
  have Z12 : n0 ≤ h12.size := Nat.le_trans Z10 (Keep.of_wr W12).1
  refine own_w (T' := T12) (g' := (mkF m 32 #[.val (.ref ac), .val (.int (5 : Int32)), .val (.ref ab), .val (.int (5 : Int32)), .val (.int (7 : Int32)), .val (.int (5 : Int32)), .val (.int c5)] [])) st12 ?_
  have Va12 := own_Ar_other Va10 W12 ne
  have K12 := K10.wr W12 (Or.inl (List.mem_singleton.mpr rfl))
  refine own_w (T' := T12) (g' := (mkF m 35 #[.val (.ref ac), .val (.int (6 : Int32)), .val (.ref ab), .val (.int (5 : Int32)), .val (.int (7 : Int32)), .val (.int (5 : Int32)), .val (.int c5)] [])) (fun _ k_ => XS.iinc X12.here hx rfl (hb hby own_d7_32) rfl (l' := #[.val (.ref ac), .val (.int (6 : Int32)), .val (.ref ab), .val (.int (5 : Int32)), .val (.int (7 : Int32)), .val (.int (5 : Int32)), .val (.int c5)]) rfl k_) ?_
  refine own_w (T' := T12) (g' := (mkF m 38 #[.val (.ref ac), .val (.int (6 : Int32)), .val (.ref ab), .val (.int (6 : Int32)), .val (.int (7 : Int32)), .val (.int (5 : Int32)), .val (.int c5)] [])) (fun _ k_ => XS.iinc X12.here hx rfl (hb hby own_d7_35) rfl (l' := #[.val (.ref ac), .val (.int (6 : Int32)), .val (.ref ab), .val (.int (6 : Int32)), .val (.int (7 : Int32)), .val (.int (5 : Int32)), .val (.int c5)]) rfl k_) ?_
  refine own_w (T' := T12) (g' := (mkF m 41 #[.val (.ref ac), .val (.int (6 : Int32)), .val (.ref ab), .val (.int (6 : Int32)), .val (.int (7 : Int32)), .val (.int (6 : Int32)), .val (.int c5)] [])) (fun _ k_ => XS.iinc X12.here hx rfl (hb hby own_d7_38) rfl (l' := #[.val (.ref ac), .val (.int (6 : Int32)), .val (.ref ab), .val (.int (6 : Int32)), .val (.int (7 : Int32)), .val (.int (6 : Int32)), .val (.int c5)]) rfl k_) ?_
  refine own_w (T' := T12) (g' := (mkF m 3 #[.val (.ref ac), .val (.int (6 : Int32)), .val (.ref ab), .val (.int (6 : Int32)), .val (.int (7 : Int32)), .val (.int (6 : Int32)), .val (.int c5)] [])) (fun _ k_ => XS.goto X12.here hx rfl (pc0 := 41) (pc' := 3) rfl (hb hby own_d7_41) (by decide) (by decide) k_) ?_
  refine own_w (T' := T12) (g' := (mkF m 5 #[.val (.ref ac), .val (.int (6 : Int32)), .val (.ref ab), .val (.int (6 : Int32)), .val (.int (7 : Int32)), .val (.int (6 : Int32)), .val (.int c5)] [(.int (6 : Int32))])) (fun _ k_ => XS.iload X12.here hx rfl (hb hby own_d7_3) rfl k_) ?_
  refine own_w (T' := T12) (g' := (mkF m 7 #[.val (.ref ac), .val (.int (6 : Int32)), .val (.ref ab), .val (.int (6 : Int32)), .val (.int (7 : Int32)), .val (.int (6 : Int32)), .val (.int c5)] [(.int (7 : Int32)), (.int (6 : Int32))])) (fun _ k_ => XS.iload X12.here hx rfl (hb hby own_d7_5) rfl k_) ?_
  refine own_w (T' := T12) (g' := (mkF m 10 #[.val (.ref ac), .val (.int (6 : Int32)), .val (.ref ab), .val (.int (6 : Int32)), .val (.int (7 : Int32)), .val (.int (6 : Int32)), .val (.int c5)] [])) (fun _ k_ => XS.icmpNo X12.here hx rfl (hb hby own_d7_7) rfl (tlt (by decide)).2.1 k_) ?_
  refine own_w (T' := T12) (g' := (mkF m 11 #[.val (.ref ac), .val (.int (6 : Int32)), .val (.ref ab), .val (.int (6 : Int32)), .val (.int (7 : Int32)), .val (.int (6 : Int32)), .val (.int c5)] [(.ref ac)])) (fun _ k_ => XS.aloadN X12.here hx rfl (hb hby own_d7_10) rfl rfl k_) ?_
  refine own_w (T' := T12) (g' := (mkF m 12 #[.val (.ref ac), .val (.int (6 : Int32)), .val (.ref ab), .val (.int (6 : Int32)), .val (.int (7 : Int32)), .val (.int (6 : Int32)), .val (.int c5)] [(.int (6 : Int32)), (.ref ac)])) (fun _ k_ => XS.iloadN X12.here hx rfl (hb hby own_d7_11) rfl k_) ?_
  obtain ⟨cl13, Ar13, hs13⟩ := id Va12
  refine own_w (T' := T12) (g' := (mkF m 13 #[.val (.ref ac), .val (.int (6 : Int32)), .val (.ref ab), .val (.int (6 : Int32)), .val (.int (7 : Int32)), .val (.int (6 : Int32)), .val (.int c5)] [(.int c6)])) (fun t_ k_ => X12.caload hx (j := (6 : Int32)) (v := .int c6) (by rw [e12]; exact Ar13.1) (State.isArrayOf_alike hZ.alike Ar13.2.1) Ar13.2.2 (own_Ar_in (i := 6) hs13 (by decide) (own_get_lt (show _ = some c6 from rfl))) (own_Ar_at (i := 6) hs13 (by decide) (show _ = some c6 from rfl)) (g := (mkF m 12 #[.val (.ref ac), .val (.int (6 : Int32)), .val (.ref ab), .val (.int (6 : Int32)), .val (.int (7 : Int32)), .val (.int (6 : Int32)), .val (.int c5)] [(.int (6 : Int32)), (.ref ac)])) rfl rfl (hb hby own_d7_12) t_ k_) ?_
  refine own_w (T' := T12) (g' := (mkF m 15 #[.val (.ref ac), .val (.int (6 : Int32)), .val (.ref ab), .val (.int (6 : Int32)), .val (.int (7 : Int32)), .val (.int (6 : Int32)), .val (.int c6)] [])) (fun _ k_ => XS.istore X12.here hx rfl (hb hby own_d7_13) rfl (l' := #[.val (.ref ac), .val (.int (6 : Int32)), .val (.ref ab), .val (.int (6 : Int32)), .val (.int (7 : Int32)), .val (.int (6 : Int32)), .val (.int c6)]) rfl k_) ?_
  refine own_w (T' := T12) (g' := (mkF m 17 #[.val (.ref ac), .val (.int (6 : Int32)), .val (.ref ab), .val (.int (6 : Int32)), .val (.int (7 : Int32)), .val (.int (6 : Int32)), .val (.int c6)] [(.int c6)])) (fun _ k_ => XS.iload X12.here hx rfl (hb hby own_d7_15) rfl k_) ?_
  refine own_w (T' := T12) (g' := (mkF m 20 #[.val (.ref ac), .val (.int (6 : Int32)), .val (.ref ab), .val (.int (6 : Int32)), .val (.int (7 : Int32)), .val (.int (6 : Int32)), .val (.int c6)] [(.int (255 : Int32)), (.int c6)])) (fun _ k_ => XS.sipush X12.here hx rfl (hb hby own_d7_17) k_) ?_
  refine own_w (T' := T12) (g' := (mkF m 26 #[.val (.ref ac), .val (.int (6 : Int32)), .val (.ref ab), .val (.int (6 : Int32)), .val (.int (7 : Int32)), .val (.int (6 : Int32)), .val (.int c6)] [])) (fun _ k_ => XS.icmpYes X12.here hx rfl (pc0 := 20) (pc' := 26) rfl (hb hby own_d7_20) rfl (flt hc6).2.2.2 (by decide) (by decide) k_) ?_
  refine own_w (T' := T12) (g' := (mkF m 27 #[.val (.ref ac), .val (.int (6 : Int32)), .val (.ref ab), .val (.int (6 : Int32)), .val (.int (7 : Int32)), .val (.int (6 : Int32)), .val (.int c6)] [(.ref ab)])) (fun _ k_ => XS.aloadN X12.here hx rfl (hb hby own_d7_26) rfl rfl k_) ?_
  refine own_w (T' := T12) (g' := (mkF m 28 #[.val (.ref ac), .val (.int (6 : Int32)), .val (.ref ab), .val (.int (6 : Int32)), .val (.int (7 : Int32)), .val (.int (6 : Int32)), .val (.int c6)] [(.int (6 : Int32)), (.ref ab)])) (fun _ k_ => XS.iloadN X12.here hx rfl (hb hby own_d7_27) rfl k_) ?_
  refine own_w (T' := T12) (g' := (mkF m 30 #[.val (.ref ac), .val (.int (6 : Int32)), .val (.ref ab), .val (.int (6 : Int32)), .val (.int (7 : Int32)), .val (.int (6 : Int32)), .val (.int c6)] [(.int c6), (.int (6 : Int32)), (.ref ab)])) (fun _ k_ => XS.iload X12.here hx rfl (hb hby own_d7_28) rfl k_) ?_
  refine own_w (T' := T12) (g' := (mkF m 31 #[.val (.ref ac), .val (.int (6 : Int32)), .val (.ref ab), .val (.int (6 : Int32)), .val (.int (7 : Int32)), .val (.int (6 : Int32)), .val (.int c6)] [(.int (c6.toInt8.toInt32)), (.int (6 : Int32)), (.ref ab)])) (fun _ k_ => XS.i2b X12.here hx rfl (hb hby own_d7_30) rfl k_) ?_
  obtain ⟨cl14, Ar14, hs14⟩ := id V12
  obtain ⟨T14, h14, X14, e14, W14, st14⟩ := stB X12 hx hZ e12 Ar14 (j := (6 : Int32)) (own_Ar_in (i := 6) hs14 (by decide) (by simp)) (g := (mkF m 31 #[.val (.ref ac), .val (.int (6 : Int32)), .val (.ref ab), .val (.int (6 : Int32)), .val (.int (7 : Int32)), .val (.int (6 : Int32)), .val (.int c6)] [(.int (c6.toInt8.toInt32)), (.int (6 : Int32)), (.ref ab)])) rfl rfl (hb hby own_d7_31)
  have V14 := own_Ar_set (i := 6) V12 W14 (by decide) (own_n8 _)
  have N14 := Fr.snoc X14 N12 g_ab
  have Z14 : n0 ≤ h14.size := Nat.le_trans Z12 (Keep.of_wr W14).1
  refine own_w (T' := T14) (g' := (mkF m 32 #[.val (.ref ac), .val (.int (6 : Int32)), .val (.ref ab), .val (.int (6 : Int32)), .val (.int (7 : Int32)), .val (.int (6 : Int32)), .val (.int c6)] [])) st14 ?_
  have Va14 := own_Ar_other Va12 W14 ne
  have K14 := K12.wr W14 (Or.inl (List.mem_singleton.mpr rfl))
  refine own_w (T' := T14) (g' := (mkF m 35 #[.val (.ref ac), .val (.int (7 : Int32)), .val (.ref ab), .val (.int (6 : Int32)), .val (.int (7 : Int32)), .val (.int (6 : Int32)), .val (.int c6)] [])) (fun _ k_ => XS.iinc X14.here hx rfl (hb hby own_d7_32) rfl (l' := #[.val (.ref ac), .val (.int (7 : Int32)), .val (.ref ab), .val (.int (6 : Int32)), .val (.int (7 : Int32)), .val (.int (6 : Int32)), .val (.int c6)]) rfl k_) ?_
  refine own_w (T' := T14) (g' := (mkF m 38 #[.val (.ref ac), .val (.int (7 : Int32)), .val (.ref ab), .val (.int (7 : Int32)), .val (.int (7 : Int32)), .val (.int (6 : Int32)), .val (.int c6)] [])) (fun _ k_ => XS.iinc X14.here hx rfl (hb hby own_d7_35) rfl (l' := #[.val (.ref ac), .val (.int (7 : Int32)), .val (.ref ab), .val (.int (7 : Int32)), .val (.int (7 : Int32)), .val (.int (6 : Int32)), .val (.int c6)]) rfl k_) ?_
  refine own_w (T' := T14) (g' := (mkF m 41 #[.val (.ref ac), .val (.int (7 : Int32)), .val (.ref ab), .val (.int (7 : Int32)), .val (.int (7 : Int32)), .val (.int (7 : Int32)), .val (.int c6)] [])) (fun _ k_ => XS.iinc X14.here hx rfl (hb hby own_d7_38) rfl (l' := #[.val (.ref ac), .val (.int (7 : Int32)), .val (.ref ab), .val (.int (7 : Int32)), .val (.int (7 : Int32)), .val (.int (7 : Int32)), .val (.int c6)]) rfl k_) ?_
  refine own_w (T' := T14) (g' := (mkF m 3 #[.val (.ref ac), .val (.int (7 : Int32)), .val (.ref ab), .val (.int (7 : Int32)), .val (.int (7 : Int32)), .val (.int (7 : Int32)), .val (.int c6)] [])) (fun _ k_ => XS.goto X14.here hx rfl (pc0 := 41) (pc' := 3) rfl (hb hby own_d7_41) (by decide) (by decide) k_) ?_
  refine own_w (T' := T14) (g' := (mkF m 5 #[.val (.ref ac), .val (.int (7 : Int32)), .val (.ref ab), .val (.int (7 : Int32)), .val (.int (7 : Int32)), .val (.int (7 : Int32)), .val (.int c6)] [(.int (7 : Int32))])) (fun _ k_ => XS.iload X14.here hx rfl (hb hby own_d7_3) rfl k_) ?_
  refine own_w (T' := T14) (g' := (mkF m 7 #[.val (.ref ac), .val (.int (7 : Int32)), .val (.ref ab), .val (.int (7 : Int32)), .val (.int (7 : Int32)), .val (.int (7 : Int32)), .val (.int c6)] [(.int (7 : Int32)), (.int (7 : Int32))])) (fun _ k_ => XS.iload X14.here hx rfl (hb hby own_d7_5) rfl k_) ?_
  refine own_w (T' := T14) (g' := (mkF m 44 #[.val (.ref ac), .val (.int (7 : Int32)), .val (.ref ab), .val (.int (7 : Int32)), .val (.int (7 : Int32)), .val (.int (7 : Int32)), .val (.int c6)] [])) (fun _ k_ => XS.icmpYes X14.here hx rfl (pc0 := 7) (pc' := 44) rfl (hb hby own_d7_7) rfl (flt (by decide)).2.1 (by decide) (by decide) k_) ?_
  refine own_w (T' := T14) (g' := (mkF m 46 #[.val (.ref ac), .val (.int (7 : Int32)), .val (.ref ab), .val (.int (7 : Int32)), .val (.int (7 : Int32)), .val (.int (7 : Int32)), .val (.int c6)] [(.int (7 : Int32))])) (fun _ k_ => XS.iload X14.here hx rfl (hb hby own_d7_44) rfl k_) ?_
  obtain ⟨fs, hr, hrun, hended, hW, hsame⟩ := X14.leave (v := some (.int (7 : Int32))) (fun h => by rw [Bd.returns] at h; cases h)
  exact ⟨_, _, retOut X14 hx Bd.returns rfl (Or.inl ⟨rfl, Or.inl rfl, _, rfl⟩) (hb hby own_d7_46) hr, hrun, hended, _, _, rfl, (by show own_Q7 Z ac ab c0 c1 c2 c3 c4 c5 c6 h0 n0 _ T14.heap _; rw [e14]; exact ⟨rfl, N14, K14, V14⟩), ⟨_, rfl⟩, hW, hsame.mono (by decide) (by decide)⟩
theorem own_d6_0 : decode jdk_52_method_16_code 0 = .ok (.iload_n 2, 1) := by decide +kernel
theorem own_d6_1 : decode jdk_52_method_16_code 1 = .ok (.newarray .byte, 2) := by decide +kernel
theorem own_d6_3 : decode jdk_52_method_16_code 3 = .ok (.astore_n 3, 1) := by decide +kernel
theorem own_d6_4 : decode jdk_52_method_16_code 4 = .ok (.aload_n 0, 1) := by decide +kernel
theorem own_d6_5 : decode jdk_52_method_16_code 5 = .ok (.iload_n 1, 1) := by decide +kernel
theorem own_d6_6 : decode jdk_52_method_16_code 6 = .ok (.aload_n 3, 1) := by decide +kernel
theorem own_d6_7 : decode jdk_52_method_16_code 7 = .ok (.iconst 0, 1) := by decide +kernel
theorem own_d6_8 : decode jdk_52_method_16_code 8 = .ok (.iload_n 2, 1) := by decide +kernel
theorem own_d6_9 : decode jdk_52_method_16_code 9 = .ok (.invokestatic 115, 3) := by decide +kernel
theorem own_pd12 : parseMethodDescriptor "([CI[BII)I" = some ⟨[(.array .char), .int, (.array .byte), .int, .int], some .int⟩ := by decide +kernel
theorem own_d6_12 : decode jdk_52_method_16_code 12 = .ok (.istore 4, 2) := by decide +kernel
theorem own_d6_14 : decode jdk_52_method_16_code 14 = .ok (.iload 4, 2) := by decide +kernel
theorem own_d6_16 : decode jdk_52_method_16_code 16 = .ok (.iload_n 2, 1) := by decide +kernel
theorem own_d6_17 : decode jdk_52_method_16_code 17 = .ok (.if_icmp .eq 40, 3) := by decide +kernel
theorem own_d6_57 : decode jdk_52_method_16_code 57 = .ok (.aload_n 3, 1) := by decide +kernel
theorem own_d6_58 : decode jdk_52_method_16_code 58 = .ok (.areturn, 1) := by decide +kernel
theorem own_rm6_ef (m : MethodId) (ac : Addr) : entryFrame m #[(.ref ac), (.int (0 : Int32)), (.int (7 : Int32))] 6 = mkF m 0 #[.val (.ref ac), .val (.int (0 : Int32)), .val (.int (7 : Int32)), .unset, .unset, .unset] [] := by first | (simp [entryFrame, mkF, argsToLocals, Value.category]; done) | rfl
def own_Q6 (Z : State) (ac : Addr) (c0 : Int32) (c1 : Int32) (c2 : Int32) (c3 : Int32) (c4 : Int32) (c5 : Int32) (c6 : Int32) (h0 : Heap) (n0 : Nat) (v_ : Option Value) (h : Heap) (L_ : List Loc) : Prop := v_ = some (.ref h0.size) ∧ Fr n0 L_ ∧ (Keep h0 h []) ∧ (own_Ar Z h h0.size .byte [c0.toInt8.toInt32, c1.toInt8.toInt32, c2.toInt8.toInt32, c3.toInt8.toInt32, c4.toInt8.toInt32, c5.toInt8.toInt32, c6.toInt8.toInt32])
set_option maxRecDepth 65536 in
set_option maxHeartbeats 40000000 in
theorem own_rm6 (l : Launch) (Z : State) (a0 : Array Value) (hw : ∀ d ∈ tables_1, d.before a0 Z = true) (ws : List Jvm.Cond) (ac : Addr) (c0 : Int32) (c1 : Int32) (c2 : Int32) (c3 : Int32) (c4 : Int32) (c5 : Int32) (c6 : Int32) (h0 : Heap) (n0 : Nat) (Z0 : n0 ≤ h0.size) (Va : own_Ar Z h0 ac .char [c0, c1, c2, c3, c4, c5, c6]) (hc0 : ¬ (255 : Int32) < c0) (hc1 : ¬ (255 : Int32) < c1) (hc2 : ¬ (255 : Int32) < c2) (hc3 : ¬ (255 : Int32) < c3) (hc4 : ¬ (255 : Int32) < c4) (hc5 : ¬ (255 : Int32) < c5) (hc6 : ¬ (255 : Int32) < c6) :
    MetFree l (⟨"java/lang/StringUTF16", "compress", "([CII)[B"⟩ : MethodName) (head1 (Jvm.Cond.code (⟨"java/lang/StringUTF16", "compress", "([CII)[B"⟩ : MethodName) jdk_52_method_16_code 6 (some (.array .byte)) :: ws) ({ frames := 1, cells := 1, slots := 7, locals := 18 } : Room)) (fun a_ U_ => a_ = #[(.ref ac), (.int (0 : Int32)), (.int (7 : Int32))] ∧ Z.Warmed39 U_.vm ∧ U_.heap = h0) (fun _ _ _ _ _ => True) (fun _ U_ o_ V_ => ∃ v_ L_, o_ = .returned v_ ∧ own_Q6 Z ac c0 c1 c2 c3 c4 c5 c6 h0 n0 v_ V_.heap L_ ∧ FrameEnd U_ o_ V_ L_ ({ frames := 1, cells := 1, slots := 7, locals := 18 } : Room).cells ({ frames := 1, cells := 1, slots := 7, locals := 18 } : Room).slots) := by
  refine MetFree.of_bodySF (plainFor_of_name own_pn_java_lang_StringUTF16) hisR ?_
  intro p e s m args below meth c s₁ Bd hml0 hP hK
  obtain ⟨rfl, hZ, hh⟩ := hP
  have hx := Bd.exec
  have hby := Bd.bytes
  have hml : c.maxLocals = 6 := hml0
  have hown : s.vm.findClass "java/lang/StringUTF16" = some m.cls := findClass_of_methodNamed Bd.named
  have hnm := (name_of_methodNamed Bd.named Bd.method).1
  have X0 : Stand p l e ({ frames := 1, cells := 1, slots := 7, locals := 18 } : Room) s m #[(.ref ac), (.int (0 : Int32)), (.int (7 : Int32))] below meth c s₁ [] 0 0 := Stand.of_body Bd
  have e0 : s₁.heap = h0 := by rw [← hh, Bd.state]; rfl
  have N0 := Fr.nil n0
  show own_G p e below s (own_Q6 Z ac c0 c1 c2 c3 c4 c5 c6 h0 n0) ({ frames := 1, cells := 1, slots := 7, locals := 18 } : Room).cells ({ frames := 1, cells := 1, slots := 7, locals := 18 } : Room).slots s₁ (entryFrame m #[(.ref ac), (.int (0 : Int32)), (.int (7 : Int32))] 6)
  rw [own_rm6_ef]
  refine own_w (T' := s₁) (g' := (mkF m 1 #[.val (.ref ac), .val (.int (0 : Int32)), .val (.int (7 : Int32)), .unset, .unset, .unset] [(.int (7 : Int32))])) (fun _ k_ => XS.iloadN X0.here hx rfl (hb hby own_d6_0) rfl k_) ?_
  obtain ⟨T1, h1, k1, X1, e1, E1, A1, st1⟩ := newP X0 hx hZ (hw _ (List.mem_of_getElem? (i := 27) rfl)) e0 (g := (mkF m 1 #[.val (.ref ac), .val (.int (0 : Int32)), .val (.int (7 : Int32)), .unset, .unset, .unset] [(.int (7 : Int32))])) rfl (hb hby own_d6_1) rfl (by decide) (cap := 7) (by decide) (by decide) (by decide) (by decide)
  obtain ⟨b1, gq1⟩ : ∃ z, z = h0.size := ⟨_, rfl⟩
  rw [← gq1] at A1 st1
  have V_b1 := own_Ar_new A1 rfl (k := 7) rfl
  have g_b1 : n0 ≤ b1 := Nat.le_trans Z0 (Nat.le_of_eq gq1.symm)
  have Z1 : n0 ≤ h1.size := Nat.le_trans Z0 E1.1
  refine own_w (T' := T1) (g' := (mkF m 3 #[.val (.ref ac), .val (.int (0 : Int32)), .val (.int (7 : Int32)), .unset, .unset, .unset] [(.ref b1)])) st1 ?_
  have ne : ac ≠ b1 := Nat.ne_of_lt (Nat.lt_of_lt_of_le (own_Ar_lt Va) (Nat.le_of_eq gq1.symm))
  refine own_w (T' := T1) (g' := (mkF m 4 #[.val (.ref ac), .val (.int (0 : Int32)), .val (.int (7 : Int32)), .val (.ref b1), .unset, .unset] [])) (fun _ k_ => XS.astoreN X1.here hx rfl (hb hby own_d6_3) rfl rfl (l' := #[.val (.ref ac), .val (.int (0 : Int32)), .val (.int (7 : Int32)), .val (.ref b1), .unset, .unset]) rfl k_) ?_
  refine own_w (T' := T1) (g' := (mkF m 5 #[.val (.ref ac), .val (.int (0 : Int32)), .val (.int (7 : Int32)), .val (.ref b1), .unset, .unset] [(.ref ac)])) (fun _ k_ => XS.aloadN X1.here hx rfl (hb hby own_d6_4) rfl rfl k_) ?_
  refine own_w (T' := T1) (g' := (mkF m 6 #[.val (.ref ac), .val (.int (0 : Int32)), .val (.int (7 : Int32)), .val (.ref b1), .unset, .unset] [(.int (0 : Int32)), (.ref ac)])) (fun _ k_ => XS.iloadN X1.here hx rfl (hb hby own_d6_5) rfl k_) ?_
  refine own_w (T' := T1) (g' := (mkF m 7 #[.val (.ref ac), .val (.int (0 : Int32)), .val (.int (7 : Int32)), .val (.ref b1), .unset, .unset] [(.ref b1), (.int (0 : Int32)), (.ref ac)])) (fun _ k_ => XS.aloadN X1.here hx rfl (hb hby own_d6_6) rfl rfl k_) ?_
  refine own_w (T' := T1) (g' := (mkF m 8 #[.val (.ref ac), .val (.int (0 : Int32)), .val (.int (7 : Int32)), .val (.ref b1), .unset, .unset] [(.int (0 : Int32)), (.ref b1), (.int (0 : Int32)), (.ref ac)])) (fun _ k_ => XS.iconst X1.here hx rfl (hb hby own_d6_7) k_) ?_
  refine own_w (T' := T1) (g' := (mkF m 9 #[.val (.ref ac), .val (.int (0 : Int32)), .val (.int (7 : Int32)), .val (.ref b1), .unset, .unset] [(.int (7 : Int32)), (.int (0 : Int32)), (.ref b1), (.int (0 : Int32)), (.ref ac)])) (fun _ k_ => XS.iloadN X1.here hx rfl (hb hby own_d6_8) rfl k_) ?_
  obtain ⟨_, _, ⟨T2, L2, k2, n2⟩, -, X2, ⟨Lc2, hQ2, l2, y2, z2⟩, st2⟩ := Jvm.LawKit.callS X1 hx (y := (⟨"java/lang/StringUTF16", "compress", "([CI[BII)I"⟩ : MethodName)) hown (mvT hZ (hw _ (List.mem_of_getElem? (i := 28) rfl))) (mvT hZ (hw _ (List.mem_of_getElem? (i := 29) rfl))) (mvT hZ (hw _ (List.mem_of_getElem? (i := 25) rfl))) (mvT hZ (hw _ (List.mem_of_getElem? (i := 30) rfl))) (by decide) (backOf (W := 0) (own_rm7 l Z a0 hw [] ac b1 c0 c1 c2 c3 c4 c5 c6 h1 n0 Z1 (own_Ar_ext Va E1) V_b1 ne g_b1 hc0 hc1 hc2 hc3 hc4 hc5 hc6) hZ (hw _ (List.mem_of_getElem? (i := 30) rfl)) (hw _ (List.mem_of_getElem? (i := 25) rfl)) (by decide) (by decide)) (g := (mkF m 9 #[.val (.ref ac), .val (.int (0 : Int32)), .val (.int (7 : Int32)), .val (.ref b1), .unset, .unset] [(.int (7 : Int32)), (.int (0 : Int32)), (.ref b1), (.int (0 : Int32)), (.ref ac)])) rfl (by rw [hml]; rfl) (argsL := [(.ref ac), (.int (0 : Int32)), (.ref b1), (.int (0 : Int32)), (.int (7 : Int32))]) (rest := []) (lenOf own_pd12 rfl) rfl (by show 2 * 0 + _ ≤ _; exact Nat.le_of_eq rfl) (hb hby own_d6_9) (fun _ _ => ⟨rfl, e1, (by decide : 1 + 0 ≤ _), (by decide : 7 + 0 ≤ _)⟩)
  dsimp only [Pt.U, Pt.locs, Pt.cells, Pt.slots] at X2 l2 y2 z2 st2 hQ2
  subst l2 y2 z2
  obtain ⟨h2, e2⟩ : ∃ h, T2.heap = h := ⟨_, rfl⟩
  rw [e2] at hQ2
  obtain ⟨rfl, N2q, K2, V2⟩ := hQ2
  have N2 := Fr.app N0 N2q
  refine own_w (T' := T2) (g' := (mkF m 12 #[.val (.ref ac), .val (.int (0 : Int32)), .val (.int (7 : Int32)), .val (.ref b1), .unset, .unset] [(.int (7 : Int32))])) st2 ?_
  refine own_w (T' := T2) (g' := (mkF m 14 #[.val (.ref ac), .val (.int (0 : Int32)), .val (.int (7 : Int32)), .val (.ref b1), .val (.int (7 : Int32)), .unset] [])) (fun _ k_ => XS.istore X2.here hx rfl (hb hby own_d6_12) rfl (l' := #[.val (.ref ac), .val (.int (0 : Int32)), .val (.int (7 : Int32)), .val (.ref b1), .val (.int (7 : Int32)), .unset]) rfl k_) ?_
  refine own_w (T' := T2) (g' := (mkF m 16 #[.val (.ref ac), .val (.int (0 : Int32)), .val (.int (7 : Int32)), .val (.ref b1), .val (.int (7 : Int32)), .unset] [(.int (7 : Int32))])) (fun _ k_ => XS.iload X2.here hx rfl (hb hby own_d6_14) rfl k_) ?_
  refine own_w (T' := T2) (g' := (mkF m 17 #[.val (.ref ac), .val (.int (0 : Int32)), .val (.int (7 : Int32)), .val (.ref b1), .val (.int (7 : Int32)), .unset] [(.int (7 : Int32)), (.int (7 : Int32))])) (fun _ k_ => XS.iloadN X2.here hx rfl (hb hby own_d6_16) rfl k_) ?_
  refine own_w (T' := T2) (g' := (mkF m 57 #[.val (.ref ac), .val (.int (0 : Int32)), .val (.int (7 : Int32)), .val (.ref b1), .val (.int (7 : Int32)), .unset] [])) (fun _ k_ => XS.icmpYes X2.here hx rfl (pc0 := 17) (pc' := 57) rfl (hb hby own_d6_17) rfl (teq rfl).1 (by decide) (by decide) k_) ?_
  refine own_w (T' := T2) (g' := (mkF m 58 #[.val (.ref ac), .val (.int (0 : Int32)), .val (.int (7 : Int32)), .val (.ref b1), .val (.int (7 : Int32)), .unset] [(.ref b1)])) (fun _ k_ => XS.aloadN X2.here hx rfl (hb hby own_d6_57) rfl rfl k_) ?_
  obtain ⟨fs, hr, hrun, hended, hW, hsame⟩ := X2.leave (v := some (.ref b1)) (fun h => by rw [Bd.returns] at h; cases h)
  exact ⟨_, _, retOut X2 hx Bd.returns rfl (Or.inr (Or.inr (Or.inr (Or.inr ⟨rfl, rfl, rfl⟩)))) (hb hby own_d6_58) hr, hrun, hended, _, _, rfl, (by show own_Q6 Z ac c0 c1 c2 c3 c4 c5 c6 h0 n0 _ T2.heap _; rw [e2]; exact ⟨(by rw [gq1]), N2, ((Keep.refl h0 []).ext E1).trans K2 (fun x hx => Or.inr (by rw [List.mem_singleton.mp hx]; exact Nat.le_of_eq gq1.symm)), gq1 ▸ V2⟩), ⟨_, rfl⟩, hW, hsame.mono (by decide) (by decide)⟩
theorem own_d8_0 : decode jdk_52_method_15_code 0 = .ok (.iload_n 1, 1) := by decide +kernel
theorem own_d8_1 : decode jdk_52_method_15_code 1 = .ok (.aload_n 0, 1) := by decide +kernel
theorem own_d8_2 : decode jdk_52_method_15_code 2 = .ok (.arraylength, 1) := by decide +kernel
theorem own_d8_3 : decode jdk_52_method_15_code 3 = .ok (.isub, 1) := by decide +kernel
theorem own_d8_4 : decode jdk_52_method_15_code 4 = .ok (.bipush 31, 2) := by decide +kernel
theorem own_d8_6 : decode jdk_52_method_15_code 6 = .ok (.iushr, 1) := by decide +kernel
theorem own_d8_7 : decode jdk_52_method_15_code 7 = .ok (.i2b, 1) := by decide +kernel
theorem own_d8_8 : decode jdk_52_method_15_code 8 = .ok (.ireturn, 1) := by decide +kernel
theorem own_rm8_ef (m : MethodId) (ab : Addr) : entryFrame m #[(.ref ab), (.int (7 : Int32))] 2 = mkF m 0 #[.val (.ref ab), .val (.int (7 : Int32))] [] := by first | (simp [entryFrame, mkF, argsToLocals, Value.category]; done) | rfl
def own_Q8 (Z : State) (ab : Addr) (xs : List Int32) (h0 : Heap) (n0 : Nat) (v_ : Option Value) (h : Heap) (L_ : List Loc) : Prop := v_ = some (.int (0 : Int32)) ∧ Fr n0 L_ ∧ (h = h0)
set_option maxRecDepth 65536 in
set_option maxHeartbeats 40000000 in
theorem own_rm8 (l : Launch) (Z : State) (a0 : Array Value) (hw : ∀ d ∈ tables_1, d.before a0 Z = true) (ws : List Jvm.Cond) (ab : Addr) (xs : List Int32) (h0 : Heap) (n0 : Nat) (Z0 : n0 ≤ h0.size) (V : own_Ar Z h0 ab .byte xs) (hl : xs.length = 7) :
    MetFree l (⟨"java/lang/StringUTF16", "coderFromArrayLen", "([BI)B"⟩ : MethodName) (head1 (Jvm.Cond.code (⟨"java/lang/StringUTF16", "coderFromArrayLen", "([BI)B"⟩ : MethodName) jdk_52_method_15_code 2 (some .byte) :: ws) ({ frames := 0, cells := 0, slots := 0, locals := 0 } : Room)) (fun a_ U_ => a_ = #[(.ref ab), (.int (7 : Int32))] ∧ Z.Warmed39 U_.vm ∧ U_.heap = h0) (fun _ _ _ _ _ => True) (fun _ U_ o_ V_ => ∃ v_ L_, o_ = .returned v_ ∧ own_Q8 Z ab xs h0 n0 v_ V_.heap L_ ∧ FrameEnd U_ o_ V_ L_ ({ frames := 0, cells := 0, slots := 0, locals := 0 } : Room).cells ({ frames := 0, cells := 0, slots := 0, locals := 0 } : Room).slots) := by
  refine MetFree.of_bodySF (plainFor_of_name own_pn_java_lang_StringUTF16) hisR ?_
  intro p e s m args below meth c s₁ Bd hml0 hP hK
  obtain ⟨rfl, hZ, hh⟩ := hP
  have hx := Bd.exec
  have hby := Bd.bytes
  have hml : c.maxLocals = 2 := hml0
  have hown : s.vm.findClass "java/lang/StringUTF16" = some m.cls := findClass_of_methodNamed Bd.named
  have hnm := (name_of_methodNamed Bd.named Bd.method).1
  have X0 : Stand p l e ({ frames := 0, cells := 0, slots := 0, locals := 0 } : Room) s m #[(.ref ab), (.int (7 : Int32))] below meth c s₁ [] 0 0 := Stand.of_body Bd
  have e0 : s₁.heap = h0 := by rw [← hh, Bd.state]; rfl
  have N0 := Fr.nil n0
  show own_G p e below s (own_Q8 Z ab xs h0 n0) ({ frames := 0, cells := 0, slots := 0, locals := 0 } : Room).cells ({ frames := 0, cells := 0, slots := 0, locals := 0 } : Room).slots s₁ (entryFrame m #[(.ref ab), (.int (7 : Int32))] 2)
  rw [own_rm8_ef]
  refine own_w (T' := s₁) (g' := (mkF m 1 #[.val (.ref ab), .val (.int (7 : Int32))] [(.int (7 : Int32))])) (fun _ k_ => XS.iloadN X0.here hx rfl (hb hby own_d8_0) rfl k_) ?_
  refine own_w (T' := s₁) (g' := (mkF m 2 #[.val (.ref ab), .val (.int (7 : Int32))] [(.ref ab), (.int (7 : Int32))])) (fun _ k_ => XS.aloadN X0.here hx rfl (hb hby own_d8_1) rfl rfl k_) ?_
  obtain ⟨cl1, Ar1, hs1⟩ := id V
  have hl1 : cl1.slots.size.toInt32 = (7 : Int32) := by rw [hs1]; simp [hl]; decide
  refine own_w (T' := s₁) (g' := (mkF m 3 #[.val (.ref ab), .val (.int (7 : Int32))] [(.int (7 : Int32)), (.int (7 : Int32))])) (fun t_ k_ => X0.arraylength hx (by rw [e0]; exact Ar1.1) (State.isArrayOf_alike hZ.alike Ar1.2.1) (g := (mkF m 2 #[.val (.ref ab), .val (.int (7 : Int32))] [(.ref ab), (.int (7 : Int32))])) rfl rfl (hb hby own_d8_2) t_ (by rw [hl1]; exact k_)) ?_
  refine own_w (T' := s₁) (g' := (mkF m 4 #[.val (.ref ab), .val (.int (7 : Int32))] [(.int (0 : Int32))])) (fun _ k_ => XS.isub X0.here hx rfl (hb hby own_d8_3) rfl k_) ?_
  refine own_w (T' := s₁) (g' := (mkF m 6 #[.val (.ref ab), .val (.int (7 : Int32))] [(.int (31 : Int32)), (.int (0 : Int32))])) (fun _ k_ => XS.bipush X0.here hx rfl (hb hby own_d8_4) k_) ?_
  refine own_w (T' := s₁) (g' := (mkF m 7 #[.val (.ref ab), .val (.int (7 : Int32))] [(.int (((0 : Int32).toUInt32 >>> ((31 : Int32) &&& 31).toUInt32).toInt32))])) (fun _ k_ => XS.iushr X0.here hx rfl (hb hby own_d8_6) rfl k_) ?_
  refine own_w (T' := s₁) (g' := (mkF m 8 #[.val (.ref ab), .val (.int (7 : Int32))] [(.int ((((0 : Int32).toUInt32 >>> ((31 : Int32) &&& 31).toUInt32).toInt32).toInt8.toInt32))])) (fun _ k_ => XS.i2b X0.here hx rfl (hb hby own_d8_7) rfl k_) ?_
  obtain ⟨fs, hr, hrun, hended, hW, hsame⟩ := X0.leave (v := some (.int ((((0 : Int32).toUInt32 >>> ((31 : Int32) &&& 31).toUInt32).toInt32).toInt8.toInt32))) (fun h => by rw [Bd.returns] at h; cases h)
  exact ⟨_, _, retOut X0 hx Bd.returns (by decide) (Or.inl ⟨rfl, Or.inr (Or.inr (Or.inl rfl)), _, rfl⟩) (hb hby own_d8_8) hr, hrun, hended, _, _, rfl, (by show own_Q8 Z ab xs h0 n0 _ s₁.heap _; rw [e0]; exact ⟨rfl, N0, rfl⟩), ⟨_, rfl⟩, hW, hsame.mono (by decide) (by decide)⟩
theorem own_d4_0 : decode jdk_42_method_149_code 0 = .ok (.aload_n 0, 1) := by decide +kernel
theorem own_d4_1 : decode jdk_42_method_149_code 1 = .ok (.invokespecial 1, 3) := by decide +kernel
theorem own_d4_4 : decode jdk_42_method_149_code 4 = .ok (.iload_n 3, 1) := by decide +kernel
theorem own_d4_5 : decode jdk_42_method_149_code 5 = .ok (.ifCond .ne 22, 3) := by decide +kernel
theorem own_d4_27 : decode jdk_42_method_149_code 27 = .ok (.getstatic 38, 3) := by decide +kernel
theorem own_d4_30 : decode jdk_42_method_149_code 30 = .ok (.ifCond .eq 28, 3) := by decide +kernel
theorem own_d4_33 : decode jdk_42_method_149_code 33 = .ok (.aload_n 1, 1) := by decide +kernel
theorem own_d4_34 : decode jdk_42_method_149_code 34 = .ok (.iload_n 2, 1) := by decide +kernel
theorem own_d4_35 : decode jdk_42_method_149_code 35 = .ok (.iload_n 3, 1) := by decide +kernel
theorem own_d4_36 : decode jdk_42_method_149_code 36 = .ok (.invokestatic 177, 3) := by decide +kernel
theorem own_pd13 : parseMethodDescriptor "([CII)[B" = some ⟨[(.array .char), .int, .int], some (.array .byte)⟩ := by decide +kernel
theorem own_d4_39 : decode jdk_42_method_149_code 39 = .ok (.astore 5, 2) := by decide +kernel
theorem own_d4_41 : decode jdk_42_method_149_code 41 = .ok (.aload_n 0, 1) := by decide +kernel
theorem own_d4_42 : decode jdk_42_method_149_code 42 = .ok (.aload 5, 2) := by decide +kernel
theorem own_d4_44 : decode jdk_42_method_149_code 44 = .ok (.iload_n 3, 1) := by decide +kernel
theorem own_d4_45 : decode jdk_42_method_149_code 45 = .ok (.invokestatic 47, 3) := by decide +kernel
theorem own_pd14 : parseMethodDescriptor "([BI)B" = some ⟨[(.array .byte), .int], some .byte⟩ := by decide +kernel
theorem own_d4_48 : decode jdk_42_method_149_code 48 = .ok (.putfield 15, 3) := by decide +kernel
theorem own_d4_51 : decode jdk_42_method_149_code 51 = .ok (.aload_n 0, 1) := by decide +kernel
theorem own_d4_52 : decode jdk_42_method_149_code 52 = .ok (.aload 5, 2) := by decide +kernel
theorem own_d4_54 : decode jdk_42_method_149_code 54 = .ok (.putfield 9, 3) := by decide +kernel
theorem own_d4_57 : decode jdk_42_method_149_code 57 = .ok (.return_, 1) := by decide +kernel
theorem own_rm4_ef (m : MethodId) (a : Addr) (ac : Addr) : entryFrame m #[(.ref a), (.ref ac), (.int (0 : Int32)), (.int (7 : Int32)), .null] 6 = mkF m 0 #[.val (.ref a), .val (.ref ac), .val (.int (0 : Int32)), .val (.int (7 : Int32)), .val .null, .unset] [] := by first | (simp [entryFrame, mkF, argsToLocals, Value.category]; done) | rfl
def own_Q4 (Z : State) (a : Addr) (ac : Addr) (u : Value) (u2 : Value) (cs : Int32) (c0 : Int32) (c1 : Int32) (c2 : Int32) (c3 : Int32) (c4 : Int32) (c5 : Int32) (c6 : Int32) (h0 : Heap) (n0 : Nat) (v_ : Option Value) (h : Heap) (L_ : List Loc) : Prop := v_ = none ∧ Fr n0 L_ ∧ (Keep h0 h [a]) ∧ (own_Str Z h a [c0.toInt8.toInt32, c1.toInt8.toInt32, c2.toInt8.toInt32, c3.toInt8.toInt32, c4.toInt8.toInt32, c5.toInt8.toInt32, c6.toInt8.toInt32])
set_option maxRecDepth 65536 in
set_option maxHeartbeats 40000000 in
theorem own_rm4 (l : Launch) (Z : State) (a0 : Array Value) (hw : ∀ d ∈ tables_1, d.before a0 Z = true) (ws : List Jvm.Cond) (a : Addr) (ac : Addr) (u : Value) (u2 : Value) (cs : Int32) (c0 : Int32) (c1 : Int32) (c2 : Int32) (c3 : Int32) (c4 : Int32) (c5 : Int32) (c6 : Int32) (h0 : Heap) (n0 : Nat) (Z0 : n0 ≤ h0.size) (F : Fld Z h0 a "java/lang/String" "value" "[B" u) (G : Fld Z h0 a "java/lang/String" "coder" "B" u2) (E : Exa Z h0 a "java/lang/String") (g_a : n0 ≤ a) (Va : own_Ar Z h0 ac .char [c0, c1, c2, c3, c4, c5, c6]) (hcs : ¬ cs = (0 : Int32)) (S : Sta Z h0 "java/lang/String" "COMPACT_STRINGS" "Z" (.int cs)) (hc0 : ¬ (255 : Int32) < c0) (hc1 : ¬ (255 : Int32) < c1) (hc2 : ¬ (255 : Int32) < c2) (hc3 : ¬ (255 : Int32) < c3) (hc4 : ¬ (255 : Int32) < c4) (hc5 : ¬ (255 : Int32) < c5) (hc6 : ¬ (255 : Int32) < c6) :
    MetFree l (⟨"java/lang/String", "<init>", "([CIILjava/lang/Void;)V"⟩ : MethodName) (head1 (Jvm.Cond.code (⟨"java/lang/String", "<init>", "([CIILjava/lang/Void;)V"⟩ : MethodName) jdk_42_method_149_code 6 none :: ws) ({ frames := 2, cells := 1, slots := 7, locals := 35 } : Room)) (fun a_ U_ => a_ = #[(.ref a), (.ref ac), (.int (0 : Int32)), (.int (7 : Int32)), .null] ∧ Z.Warmed39 U_.vm ∧ U_.heap = h0) (fun _ _ _ _ _ => True) (fun _ U_ o_ V_ => ∃ v_ L_, o_ = .returned v_ ∧ own_Q4 Z a ac u u2 cs c0 c1 c2 c3 c4 c5 c6 h0 n0 v_ V_.heap L_ ∧ FrameEnd U_ o_ V_ L_ ({ frames := 2, cells := 1, slots := 7, locals := 35 } : Room).cells ({ frames := 2, cells := 1, slots := 7, locals := 35 } : Room).slots) := by
  refine MetFree.of_bodySF (plainFor_of_name own_pn_java_lang_String) hisR ?_
  intro p e s m args below meth c s₁ Bd hml0 hP hK
  obtain ⟨rfl, hZ, hh⟩ := hP
  have hx := Bd.exec
  have hby := Bd.bytes
  have hml : c.maxLocals = 6 := hml0
  have hown : s.vm.findClass "java/lang/String" = some m.cls := findClass_of_methodNamed Bd.named
  have hnm := (name_of_methodNamed Bd.named Bd.method).1
  have X0 : Stand p l e ({ frames := 2, cells := 1, slots := 7, locals := 35 } : Room) s m #[(.ref a), (.ref ac), (.int (0 : Int32)), (.int (7 : Int32)), .null] below meth c s₁ [] 0 0 := Stand.of_body Bd
  have e0 : s₁.heap = h0 := by rw [← hh, Bd.state]; rfl
  have N0 := Fr.nil n0
  show own_G p e below s (own_Q4 Z a ac u u2 cs c0 c1 c2 c3 c4 c5 c6 h0 n0) ({ frames := 2, cells := 1, slots := 7, locals := 35 } : Room).cells ({ frames := 2, cells := 1, slots := 7, locals := 35 } : Room).slots s₁ (entryFrame m #[(.ref a), (.ref ac), (.int (0 : Int32)), (.int (7 : Int32)), .null] 6)
  rw [own_rm4_ef]
  refine own_w (T' := s₁) (g' := (mkF m 1 #[.val (.ref a), .val (.ref ac), .val (.int (0 : Int32)), .val (.int (7 : Int32)), .val .null, .unset] [(.ref a)])) (fun _ k_ => XS.aloadN X0.here hx rfl (hb hby own_d4_0) rfl rfl k_) ?_
  obtain ⟨T1, X1, e1, st1⟩ := initO X0 hx hZ hown (hw _ (List.mem_of_getElem? (i := 19) rfl)) (hw _ (List.mem_of_getElem? (i := 20) rfl)) (hw _ (List.mem_of_getElem? (i := 21) rfl)) e0 (g := (mkF m 1 #[.val (.ref a), .val (.ref ac), .val (.int (0 : Int32)), .val (.int (7 : Int32)), .val .null, .unset] [(.ref a)])) rfl (by rw [hml]; rfl) rfl (hb hby own_d4_1) (by decide) (W := 0) (by show 2 * 0 + _ ≤ _; exact Nat.le_of_eq rfl) (by decide)
  refine own_w (T' := T1) (g' := (mkF m 4 #[.val (.ref a), .val (.ref ac), .val (.int (0 : Int32)), .val (.int (7 : Int32)), .val .null, .unset] [])) st1 ?_
  refine own_w (T' := T1) (g' := (mkF m 5 #[.val (.ref a), .val (.ref ac), .val (.int (0 : Int32)), .val (.int (7 : Int32)), .val .null, .unset] [(.int (7 : Int32))])) (fun _ k_ => XS.iloadN X1.here hx rfl (hb hby own_d4_4) rfl k_) ?_
  refine own_w (T' := T1) (g' := (mkF m 27 #[.val (.ref a), .val (.ref ac), .val (.int (0 : Int32)), .val (.int (7 : Int32)), .val .null, .unset] [])) (fun _ k_ => XS.ifYes X1.here hx rfl (pc0 := 5) (pc' := 27) rfl (hb hby own_d4_5) rfl ((if0 _ _).trans (feq (by decide)).2) (by decide) (by decide) k_) ?_
  obtain ⟨T2, X2, e2, st2⟩ := getS2 X1 hx hZ hown (host := "") (Or.inl (hw _ (List.mem_of_getElem? (i := 22) rfl))) Via.refl e1 S (g := (mkF m 27 #[.val (.ref a), .val (.ref ac), .val (.int (0 : Int32)), .val (.int (7 : Int32)), .val .null, .unset] [])) rfl (hb hby own_d4_27)
  refine own_w (T' := T2) (g' := (mkF m 30 #[.val (.ref a), .val (.ref ac), .val (.int (0 : Int32)), .val (.int (7 : Int32)), .val .null, .unset] [(.int cs)])) st2 ?_
  refine own_w (T' := T2) (g' := (mkF m 33 #[.val (.ref a), .val (.ref ac), .val (.int (0 : Int32)), .val (.int (7 : Int32)), .val .null, .unset] [])) (fun _ k_ => XS.ifNo X2.here hx rfl (hb hby own_d4_30) rfl ((if0 _ _).trans (feq hcs).1) k_) ?_
  refine own_w (T' := T2) (g' := (mkF m 34 #[.val (.ref a), .val (.ref ac), .val (.int (0 : Int32)), .val (.int (7 : Int32)), .val .null, .unset] [(.ref ac)])) (fun _ k_ => XS.aloadN X2.here hx rfl (hb hby own_d4_33) rfl rfl k_) ?_
  refine own_w (T' := T2) (g' := (mkF m 35 #[.val (.ref a), .val (.ref ac), .val (.int (0 : Int32)), .val (.int (7 : Int32)), .val .null, .unset] [(.int (0 : Int32)), (.ref ac)])) (fun _ k_ => XS.iloadN X2.here hx rfl (hb hby own_d4_34) rfl k_) ?_
  refine own_w (T' := T2) (g' := (mkF m 36 #[.val (.ref a), .val (.ref ac), .val (.int (0 : Int32)), .val (.int (7 : Int32)), .val .null, .unset] [(.int (7 : Int32)), (.int (0 : Int32)), (.ref ac)])) (fun _ k_ => XS.iloadN X2.here hx rfl (hb hby own_d4_35) rfl k_) ?_
  obtain ⟨_, _, ⟨T3, L3, k3, n3⟩, -, X3, ⟨Lc3, hQ3, l3, y3, z3⟩, st3⟩ := Jvm.LawKit.callS X2 hx (y := (⟨"java/lang/StringUTF16", "compress", "([CII)[B"⟩ : MethodName)) hown (mvT hZ (hw _ (List.mem_of_getElem? (i := 23) rfl))) (mvT hZ (hw _ (List.mem_of_getElem? (i := 24) rfl))) (mvT hZ (hw _ (List.mem_of_getElem? (i := 25) rfl))) (mvT hZ (hw _ (List.mem_of_getElem? (i := 26) rfl))) (by decide) (backOf (W := 0) (own_rm6 l Z a0 hw [] ac c0 c1 c2 c3 c4 c5 c6 h0 n0 Z0 Va hc0 hc1 hc2 hc3 hc4 hc5 hc6) hZ (hw _ (List.mem_of_getElem? (i := 26) rfl)) (hw _ (List.mem_of_getElem? (i := 25) rfl)) (by decide) (by decide)) (g := (mkF m 36 #[.val (.ref a), .val (.ref ac), .val (.int (0 : Int32)), .val (.int (7 : Int32)), .val .null, .unset] [(.int (7 : Int32)), (.int (0 : Int32)), (.ref ac)])) rfl (by rw [hml]; rfl) (argsL := [(.ref ac), (.int (0 : Int32)), (.int (7 : Int32))]) (rest := []) (lenOf own_pd13 rfl) rfl (by show 2 * 0 + _ ≤ _; exact Nat.le_of_eq rfl) (hb hby own_d4_36) (fun _ _ => ⟨rfl, e2, (by decide : 0 + 1 ≤ _), (by decide : 0 + 7 ≤ _)⟩)
  dsimp only [Pt.U, Pt.locs, Pt.cells, Pt.slots] at X3 l3 y3 z3 st3 hQ3
  subst l3 y3 z3
  obtain ⟨h3, e3⟩ : ∃ h, T3.heap = h := ⟨_, rfl⟩
  rw [e3] at hQ3
  obtain ⟨rfl, N3q, K3, V3⟩ := hQ3
  have N3 := Fr.app N0 N3q
  refine own_w (T' := T3) (g' := (mkF m 39 #[.val (.ref a), .val (.ref ac), .val (.int (0 : Int32)), .val (.int (7 : Int32)), .val .null, .unset] [(.ref h0.size)])) st3 ?_
  have Z3 : n0 ≤ h3.size := Nat.le_trans Z0 K3.1
  refine own_w (T' := T3) (g' := (mkF m 41 #[.val (.ref a), .val (.ref ac), .val (.int (0 : Int32)), .val (.int (7 : Int32)), .val .null, .val (.ref h0.size)] [])) (fun _ k_ => XS.astore X3.here hx rfl (hb hby own_d4_39) rfl rfl (l' := #[.val (.ref a), .val (.ref ac), .val (.int (0 : Int32)), .val (.int (7 : Int32)), .val .null, .val (.ref h0.size)]) rfl k_) ?_
  refine own_w (T' := T3) (g' := (mkF m 42 #[.val (.ref a), .val (.ref ac), .val (.int (0 : Int32)), .val (.int (7 : Int32)), .val .null, .val (.ref h0.size)] [(.ref a)])) (fun _ k_ => XS.aloadN X3.here hx rfl (hb hby own_d4_41) rfl rfl k_) ?_
  refine own_w (T' := T3) (g' := (mkF m 44 #[.val (.ref a), .val (.ref ac), .val (.int (0 : Int32)), .val (.int (7 : Int32)), .val .null, .val (.ref h0.size)] [(.ref h0.size), (.ref a)])) (fun _ k_ => XS.aload X3.here hx rfl (hb hby own_d4_42) rfl rfl k_) ?_
  refine own_w (T' := T3) (g' := (mkF m 45 #[.val (.ref a), .val (.ref ac), .val (.int (0 : Int32)), .val (.int (7 : Int32)), .val .null, .val (.ref h0.size)] [(.int (7 : Int32)), (.ref h0.size), (.ref a)])) (fun _ k_ => XS.iloadN X3.here hx rfl (hb hby own_d4_44) rfl k_) ?_
  obtain ⟨_, _, ⟨T4, L4, k4, n4⟩, -, X4, ⟨Lc4, hQ4, l4, y4, z4⟩, st4⟩ := Jvm.LawKit.callS X3 hx (y := (⟨"java/lang/StringUTF16", "coderFromArrayLen", "([BI)B"⟩ : MethodName)) hown (mvT hZ (hw _ (List.mem_of_getElem? (i := 31) rfl))) (mvT hZ (hw _ (List.mem_of_getElem? (i := 32) rfl))) (mvT hZ (hw _ (List.mem_of_getElem? (i := 25) rfl))) (mvT hZ (hw _ (List.mem_of_getElem? (i := 33) rfl))) (by decide) (backOf (W := 1) (own_rm8 l Z a0 hw [] h0.size _ h3 n0 Z3 V3 rfl) hZ (hw _ (List.mem_of_getElem? (i := 33) rfl)) (hw _ (List.mem_of_getElem? (i := 25) rfl)) (by decide) (by decide)) (g := (mkF m 45 #[.val (.ref a), .val (.ref ac), .val (.int (0 : Int32)), .val (.int (7 : Int32)), .val .null, .val (.ref h0.size)] [(.int (7 : Int32)), (.ref h0.size), (.ref a)])) rfl (by rw [hml]; rfl) (argsL := [(.ref h0.size), (.int (7 : Int32))]) (rest := [(.ref a)]) (lenOf own_pd14 rfl) rfl (by show 2 * 0 + _ ≤ _; exact Nat.le_of_eq rfl) (hb hby own_d4_45) (fun _ _ => ⟨rfl, e3, (by decide : 1 + 0 ≤ _), (by decide : 7 + 0 ≤ _)⟩)
  dsimp only [Pt.U, Pt.locs, Pt.cells, Pt.slots] at X4 l4 y4 z4 st4 hQ4
  subst l4 y4 z4
  obtain ⟨rfl, N4q, e4⟩ := hQ4
  have N4 := Fr.app N3 N4q
  refine own_w (T' := T4) (g' := (mkF m 48 #[.val (.ref a), .val (.ref ac), .val (.int (0 : Int32)), .val (.int (7 : Int32)), .val .null, .val (.ref h0.size)] [(.int (0 : Int32)), (.ref a)])) st4 ?_
  have ne : h0.size ≠ a := Nat.ne_of_gt E.lt
  obtain ⟨T5, h5, X5, e5, W5, st5⟩ := putFN X4 hx hZ hown (hw _ (List.mem_of_getElem? (i := 34) rfl)) Via.refl e4 (G.keep K3 (by simp)) (E.keep K3) (Or.inr ⟨(hw _ (List.mem_of_getElem? (i := 35) rfl)), rfl, hnm⟩) (hw _ (List.mem_of_getElem? (i := 10) rfl)) (ty := .byte) (v' := (.int (0 : Int32))) (by decide) rfl rfl (g := (mkF m 48 #[.val (.ref a), .val (.ref ac), .val (.int (0 : Int32)), .val (.int (7 : Int32)), .val .null, .val (.ref h0.size)] [(.int (0 : Int32)), (.ref a)])) rfl rfl (hb hby own_d4_48)
  have N5 := Fr.snoc X5 N4 g_a
  refine own_w (T' := T5) (g' := (mkF m 51 #[.val (.ref a), .val (.ref ac), .val (.int (0 : Int32)), .val (.int (7 : Int32)), .val .null, .val (.ref h0.size)] [])) st5 ?_
  refine own_w (T' := T5) (g' := (mkF m 52 #[.val (.ref a), .val (.ref ac), .val (.int (0 : Int32)), .val (.int (7 : Int32)), .val .null, .val (.ref h0.size)] [(.ref a)])) (fun _ k_ => XS.aloadN X5.here hx rfl (hb hby own_d4_51) rfl rfl k_) ?_
  refine own_w (T' := T5) (g' := (mkF m 54 #[.val (.ref a), .val (.ref ac), .val (.int (0 : Int32)), .val (.int (7 : Int32)), .val .null, .val (.ref h0.size)] [(.ref h0.size), (.ref a)])) (fun _ k_ => XS.aload X5.here hx rfl (hb hby own_d4_52) rfl rfl k_) ?_
  have F5 := (F.keep K3 (by simp)).other W5 (Or.inr (slot_ne (Or.inr (hw _ (List.mem_of_getElem? (i := 37) rfl))) (Or.inr (hw _ (List.mem_of_getElem? (i := 35) rfl))) (by decide) (t := (.array .byte)) (t' := .byte) (by decide) (by decide)))
  have G5 := (G.keep K3 (by simp)).same W5
  obtain ⟨T6, h6, X6, e6, W6, st6⟩ := putF X5 hx hZ hown (host := "") (Or.inl (hw _ (List.mem_of_getElem? (i := 36) rfl))) Via.refl e5 F5 ((E.keep K3).wr W5) (Or.inr ⟨(hw _ (List.mem_of_getElem? (i := 37) rfl)), rfl, hnm⟩) (hw _ (List.mem_of_getElem? (i := 10) rfl)) (ty := (.array .byte)) (by decide) rfl rfl (g := (mkF m 54 #[.val (.ref a), .val (.ref ac), .val (.int (0 : Int32)), .val (.int (7 : Int32)), .val .null, .val (.ref h0.size)] [(.ref h0.size), (.ref a)])) rfl rfl (hb hby own_d4_54)
  have N6 := Fr.snoc X6 N5 g_a
  refine own_w (T' := T6) (g' := (mkF m 57 #[.val (.ref a), .val (.ref ac), .val (.int (0 : Int32)), .val (.int (7 : Int32)), .val .null, .val (.ref h0.size)] [])) st6 ?_
  obtain ⟨fs, hr, hrun, hended, hW, hsame⟩ := X6.leave (v := none) (fun _ => rfl)
  exact ⟨_, _, X6.returnOut hx Bd.returns (hb hby own_d4_57) hr, hrun, hended, _, _, rfl, (by show own_Q4 Z a ac u u2 cs c0 c1 c2 c3 c4 c5 c6 h0 n0 _ T6.heap _; rw [e6]; exact ⟨rfl, N6, ((Keep.trans (ws := [a]) (Keep.refl h0 [a]) K3 (fun x hx => by cases hx)).wr W5 (Or.inl (List.mem_singleton.mpr rfl))).wr W6 (Or.inl (List.mem_singleton.mpr rfl)), ⟨((E.keep K3).wr W5).wr W6, G5.other W6 (Or.inr (slot_ne (Or.inr (hw _ (List.mem_of_getElem? (i := 35) rfl))) (Or.inr (hw _ (List.mem_of_getElem? (i := 37) rfl))) (by decide) (t := .byte) (t' := (.array .byte)) (by decide) (by decide))), _, F5.same W6, own_Ar_other (own_Ar_other V3 W5 ne) W6 ne⟩⟩), ⟨_, rfl⟩, hW, hsame.mono (by decide) (by decide)⟩
theorem own_d3_0 : decode jdk_42_method_3_code 0 = .ok (.aload_n 0, 1) := by decide +kernel
theorem own_d3_1 : decode jdk_42_method_3_code 1 = .ok (.aload_n 1, 1) := by decide +kernel
theorem own_d3_2 : decode jdk_42_method_3_code 2 = .ok (.iconst 0, 1) := by decide +kernel
theorem own_d3_3 : decode jdk_42_method_3_code 3 = .ok (.aload_n 1, 1) := by decide +kernel
theorem own_d3_4 : decode jdk_42_method_3_code 4 = .ok (.arraylength, 1) := by decide +kernel
theorem own_d3_5 : decode jdk_42_method_3_code 5 = .ok (.aconst_null, 1) := by decide +kernel
theorem own_d3_6 : decode jdk_42_method_3_code 6 = .ok (.invokespecial 27, 3) := by decide +kernel
theorem own_pd15 : parseMethodDescriptor "([CIILjava/lang/Void;)V" = some ⟨[(.array .char), .int, .int, (.object "java/lang/Void")], none⟩ := by decide +kernel
theorem own_d3_9 : decode jdk_42_method_3_code 9 = .ok (.return_, 1) := by decide +kernel
theorem own_rm3_ef (m : MethodId) (a : Addr) (ac : Addr) : entryFrame m #[(.ref a), (.ref ac)] 2 = mkF m 0 #[.val (.ref a), .val (.ref ac)] [] := by first | (simp [entryFrame, mkF, argsToLocals, Value.category]; done) | rfl
def own_Q3 (Z : State) (a : Addr) (ac : Addr) (u : Value) (u2 : Value) (cs : Int32) (c0 : Int32) (c1 : Int32) (c2 : Int32) (c3 : Int32) (c4 : Int32) (c5 : Int32) (c6 : Int32) (h0 : Heap) (n0 : Nat) (v_ : Option Value) (h : Heap) (L_ : List Loc) : Prop := v_ = none ∧ Fr n0 L_ ∧ (Keep h0 h [a]) ∧ (own_Str Z h a [c0.toInt8.toInt32, c1.toInt8.toInt32, c2.toInt8.toInt32, c3.toInt8.toInt32, c4.toInt8.toInt32, c5.toInt8.toInt32, c6.toInt8.toInt32])
set_option maxRecDepth 65536 in
set_option maxHeartbeats 40000000 in
theorem own_rm3 (l : Launch) (Z : State) (a0 : Array Value) (hw : ∀ d ∈ tables_1, d.before a0 Z = true) (ws : List Jvm.Cond) (a : Addr) (ac : Addr) (u : Value) (u2 : Value) (cs : Int32) (c0 : Int32) (c1 : Int32) (c2 : Int32) (c3 : Int32) (c4 : Int32) (c5 : Int32) (c6 : Int32) (h0 : Heap) (n0 : Nat) (Z0 : n0 ≤ h0.size) (F : Fld Z h0 a "java/lang/String" "value" "[B" u) (G : Fld Z h0 a "java/lang/String" "coder" "B" u2) (E : Exa Z h0 a "java/lang/String") (g_a : n0 ≤ a) (Va : own_Ar Z h0 ac .char [c0, c1, c2, c3, c4, c5, c6]) (hcs : ¬ cs = (0 : Int32)) (S : Sta Z h0 "java/lang/String" "COMPACT_STRINGS" "Z" (.int cs)) (hc0 : ¬ (255 : Int32) < c0) (hc1 : ¬ (255 : Int32) < c1) (hc2 : ¬ (255 : Int32) < c2) (hc3 : ¬ (255 : Int32) < c3) (hc4 : ¬ (255 : Int32) < c4) (hc5 : ¬ (255 : Int32) < c5) (hc6 : ¬ (255 : Int32) < c6) :
    MetFree l (⟨"java/lang/String", "<init>", "([C)V"⟩ : MethodName) (head1 (Jvm.Cond.code (⟨"java/lang/String", "<init>", "([C)V"⟩ : MethodName) jdk_42_method_3_code 2 none :: ws) ({ frames := 3, cells := 1, slots := 7, locals := 52 } : Room)) (fun a_ U_ => a_ = #[(.ref a), (.ref ac)] ∧ Z.Warmed39 U_.vm ∧ U_.heap = h0) (fun _ _ _ _ _ => True) (fun _ U_ o_ V_ => ∃ v_ L_, o_ = .returned v_ ∧ own_Q3 Z a ac u u2 cs c0 c1 c2 c3 c4 c5 c6 h0 n0 v_ V_.heap L_ ∧ FrameEnd U_ o_ V_ L_ ({ frames := 3, cells := 1, slots := 7, locals := 52 } : Room).cells ({ frames := 3, cells := 1, slots := 7, locals := 52 } : Room).slots) := by
  refine MetFree.of_bodySF (plainFor_of_name own_pn_java_lang_String) hisR ?_
  intro p e s m args below meth c s₁ Bd hml0 hP hK
  obtain ⟨rfl, hZ, hh⟩ := hP
  have hx := Bd.exec
  have hby := Bd.bytes
  have hml : c.maxLocals = 2 := hml0
  have hown : s.vm.findClass "java/lang/String" = some m.cls := findClass_of_methodNamed Bd.named
  have hnm := (name_of_methodNamed Bd.named Bd.method).1
  have X0 : Stand p l e ({ frames := 3, cells := 1, slots := 7, locals := 52 } : Room) s m #[(.ref a), (.ref ac)] below meth c s₁ [] 0 0 := Stand.of_body Bd
  have e0 : s₁.heap = h0 := by rw [← hh, Bd.state]; rfl
  have N0 := Fr.nil n0
  show own_G p e below s (own_Q3 Z a ac u u2 cs c0 c1 c2 c3 c4 c5 c6 h0 n0) ({ frames := 3, cells := 1, slots := 7, locals := 52 } : Room).cells ({ frames := 3, cells := 1, slots := 7, locals := 52 } : Room).slots s₁ (entryFrame m #[(.ref a), (.ref ac)] 2)
  rw [own_rm3_ef]
  refine own_w (T' := s₁) (g' := (mkF m 1 #[.val (.ref a), .val (.ref ac)] [(.ref a)])) (fun _ k_ => XS.aloadN X0.here hx rfl (hb hby own_d3_0) rfl rfl k_) ?_
  refine own_w (T' := s₁) (g' := (mkF m 2 #[.val (.ref a), .val (.ref ac)] [(.ref ac), (.ref a)])) (fun _ k_ => XS.aloadN X0.here hx rfl (hb hby own_d3_1) rfl rfl k_) ?_
  refine own_w (T' := s₁) (g' := (mkF m 3 #[.val (.ref a), .val (.ref ac)] [(.int (0 : Int32)), (.ref ac), (.ref a)])) (fun _ k_ => XS.iconst X0.here hx rfl (hb hby own_d3_2) k_) ?_
  refine own_w (T' := s₁) (g' := (mkF m 4 #[.val (.ref a), .val (.ref ac)] [(.ref ac), (.int (0 : Int32)), (.ref ac), (.ref a)])) (fun _ k_ => XS.aloadN X0.here hx rfl (hb hby own_d3_3) rfl rfl k_) ?_
  obtain ⟨cl1, Ar1, hs1⟩ := id Va
  have hl1 : cl1.slots.size.toInt32 = (7 : Int32) := by rw [hs1]; rfl
  refine own_w (T' := s₁) (g' := (mkF m 5 #[.val (.ref a), .val (.ref ac)] [(.int (7 : Int32)), (.int (0 : Int32)), (.ref ac), (.ref a)])) (fun t_ k_ => X0.arraylength hx (by rw [e0]; exact Ar1.1) (State.isArrayOf_alike hZ.alike Ar1.2.1) (g := (mkF m 4 #[.val (.ref a), .val (.ref ac)] [(.ref ac), (.int (0 : Int32)), (.ref ac), (.ref a)])) rfl rfl (hb hby own_d3_4) t_ (by rw [hl1]; exact k_)) ?_
  refine own_w (T' := s₁) (g' := (mkF m 6 #[.val (.ref a), .val (.ref ac)] [.null, (.int (7 : Int32)), (.int (0 : Int32)), (.ref ac), (.ref a)])) (fun _ k_ => XS.aconstNull X0.here hx rfl (hb hby own_d3_5) k_) ?_
  obtain ⟨_, _, ⟨T2, L2, k2, n2⟩, -, X2, ⟨Lc2, hQ2, l2, y2, z2⟩, st2⟩ := X0.specialBack hx (y := (⟨"java/lang/String", "<init>", "([CIILjava/lang/Void;)V"⟩ : MethodName)) rfl hown (mvT hZ (hw _ (List.mem_of_getElem? (i := 15) rfl))) (mvT hZ (hw _ (List.mem_of_getElem? (i := 16) rfl))) (mvT hZ (hw _ (List.mem_of_getElem? (i := 18) rfl))) (by decide) (backOf (W := 0) (own_rm4 l Z a0 hw [] a ac _ _ cs c0 c1 c2 c3 c4 c5 c6 h0 n0 Z0 F G E g_a Va hcs S hc0 hc1 hc2 hc3 hc4 hc5 hc6) hZ (hw _ (List.mem_of_getElem? (i := 18) rfl)) (hw _ (List.mem_of_getElem? (i := 11) rfl)) (by decide) (by decide)) (g := (mkF m 6 #[.val (.ref a), .val (.ref ac)] [.null, (.int (7 : Int32)), (.int (0 : Int32)), (.ref ac), (.ref a)])) rfl (by rw [hml]; rfl) (Steps.refl _) (a := a) (argsL := [(.ref ac), (.int (0 : Int32)), (.int (7 : Int32)), .null]) (rest := []) (lenOf own_pd15 rfl) rfl (by show 2 * 0 + _ ≤ _; exact Nat.le_of_eq rfl) (hb hby own_d3_6) (fun _ _ => ⟨rfl, e0, (by decide : 0 + 1 ≤ _), (by decide : 0 + 7 ≤ _)⟩)
  dsimp only [Pt.U, Pt.locs, Pt.cells, Pt.slots] at X2 l2 y2 z2 st2 hQ2
  subst l2 y2 z2
  obtain ⟨h2, e2⟩ : ∃ h, T2.heap = h := ⟨_, rfl⟩
  rw [e2] at hQ2
  obtain ⟨rfl, N2q, K2, Q2⟩ := hQ2
  have N2 := Fr.app N0 N2q
  refine own_t (T' := T2) (g' := (mkF m 9 #[.val (.ref a), .val (.ref ac)] [])) st2 ?_
  obtain ⟨fs, hr, hrun, hended, hW, hsame⟩ := X2.leave (v := none) (fun _ => rfl)
  exact ⟨_, _, X2.returnOut hx Bd.returns (hb hby own_d3_9) hr, hrun, hended, _, _, rfl, (by show own_Q3 Z a ac u u2 cs c0 c1 c2 c3 c4 c5 c6 h0 n0 _ T2.heap _; rw [e2]; exact ⟨rfl, N2, K2, Q2⟩), ⟨_, rfl⟩, hW, hsame.mono (by decide) (by decide)⟩
theorem own_d33_0 : decode jdk_43_method_3_code 0 = .ok (.iload_n 0, 1) := by decide +kernel
theorem own_d33_1 : decode jdk_43_method_3_code 1 = .ok (.sipush 255, 3) := by decide +kernel
theorem own_d33_4 : decode jdk_43_method_3_code 4 = .ok (.if_icmp .gt 7, 3) := by decide +kernel
theorem own_d33_7 : decode jdk_43_method_3_code 7 = .ok (.iconst 1, 1) := by decide +kernel
theorem own_d33_8 : decode jdk_43_method_3_code 8 = .ok (.goto 4, 3) := by decide +kernel
theorem own_d33_12 : decode jdk_43_method_3_code 12 = .ok (.ireturn, 1) := by decide +kernel
theorem own_rm33_ef (m : MethodId) (c' : Int32) : entryFrame m #[(.int c')] 1 = mkF m 0 #[.val (.int c')] [] := by first | (simp [entryFrame, mkF, argsToLocals, Value.category]; done) | rfl
def own_Q33 (Z : State) (c' : Int32) (h0 : Heap) (n0 : Nat) (v_ : Option Value) (h : Heap) (L_ : List Loc) : Prop := v_ = some (.int (1 : Int32)) ∧ Fr n0 L_ ∧ (h = h0)
set_option maxRecDepth 65536 in
set_option maxHeartbeats 40000000 in
theorem own_rm33 (l : Launch) (Z : State) (a0 : Array Value) (hw : ∀ d ∈ tables_1, d.before a0 Z = true) (ws : List Jvm.Cond) (c' : Int32) (h0 : Heap) (n0 : Nat) (Z0 : n0 ≤ h0.size) (hc' : ¬ (255 : Int32) < c') :
    MetFree l (⟨"java/lang/StringLatin1", "canEncode", "(C)Z"⟩ : MethodName) (head1 (Jvm.Cond.code (⟨"java/lang/StringLatin1", "canEncode", "(C)Z"⟩ : MethodName) jdk_43_method_3_code 1 (some .boolean) :: ws) ({ frames := 0, cells := 0, slots := 0, locals := 0 } : Room)) (fun a_ U_ => a_ = #[(.int c')] ∧ Z.Warmed39 U_.vm ∧ U_.heap = h0) (fun _ _ _ _ _ => True) (fun _ U_ o_ V_ => ∃ v_ L_, o_ = .returned v_ ∧ own_Q33 Z c' h0 n0 v_ V_.heap L_ ∧ FrameEnd U_ o_ V_ L_ ({ frames := 0, cells := 0, slots := 0, locals := 0 } : Room).cells ({ frames := 0, cells := 0, slots := 0, locals := 0 } : Room).slots) := by
  refine MetFree.of_bodySF (plainFor_of_name own_pn_java_lang_StringLatin1) hisR ?_
  intro p e s m args below meth c s₁ Bd hml0 hP hK
  obtain ⟨rfl, hZ, hh⟩ := hP
  have hx := Bd.exec
  have hby := Bd.bytes
  have hml : c.maxLocals = 1 := hml0
  have hown : s.vm.findClass "java/lang/StringLatin1" = some m.cls := findClass_of_methodNamed Bd.named
  have hnm := (name_of_methodNamed Bd.named Bd.method).1
  have X0 : Stand p l e ({ frames := 0, cells := 0, slots := 0, locals := 0 } : Room) s m #[(.int c')] below meth c s₁ [] 0 0 := Stand.of_body Bd
  have e0 : s₁.heap = h0 := by rw [← hh, Bd.state]; rfl
  have N0 := Fr.nil n0
  show own_G p e below s (own_Q33 Z c' h0 n0) ({ frames := 0, cells := 0, slots := 0, locals := 0 } : Room).cells ({ frames := 0, cells := 0, slots := 0, locals := 0 } : Room).slots s₁ (entryFrame m #[(.int c')] 1)
  rw [own_rm33_ef]
  refine own_w (T' := s₁) (g' := (mkF m 1 #[.val (.int c')] [(.int c')])) (fun _ k_ => XS.iloadN X0.here hx rfl (hb hby own_d33_0) rfl k_) ?_
  refine own_w (T' := s₁) (g' := (mkF m 4 #[.val (.int c')] [(.int (255 : Int32)), (.int c')])) (fun _ k_ => XS.sipush X0.here hx rfl (hb hby own_d33_1) k_) ?_
  refine own_w (T' := s₁) (g' := (mkF m 7 #[.val (.int c')] [])) (fun _ k_ => XS.icmpNo X0.here hx rfl (hb hby own_d33_4) rfl (flt hc').2.2.1 k_) ?_
  refine own_w (T' := s₁) (g' := (mkF m 8 #[.val (.int c')] [(.int (1 : Int32))])) (fun _ k_ => XS.iconst X0.here hx rfl (hb hby own_d33_7) k_) ?_
  refine own_w (T' := s₁) (g' := (mkF m 12 #[.val (.int c')] [(.int (1 : Int32))])) (fun _ k_ => XS.goto X0.here hx rfl (pc0 := 8) (pc' := 12) rfl (hb hby own_d33_8) (by decide) (by decide) k_) ?_
  obtain ⟨fs, hr, hrun, hended, hW, hsame⟩ := X0.leave (v := some (.int (1 : Int32))) (fun h => by rw [Bd.returns] at h; cases h)
  exact ⟨_, _, retOut X0 hx Bd.returns rfl (Or.inl ⟨rfl, Or.inr (Or.inl rfl), _, rfl⟩) (hb hby own_d33_12) hr, hrun, hended, _, _, rfl, (by show own_Q33 Z c' h0 n0 _ s₁.heap _; rw [e0]; exact ⟨rfl, N0, rfl⟩), ⟨_, rfl⟩, hW, hsame.mono (by decide) (by decide)⟩
theorem own_d34_0 : decode jdk_43_method_46_code 0 = .ok (.iconst 1, 1) := by decide +kernel
theorem own_d34_1 : decode jdk_43_method_46_code 1 = .ok (.newarray .byte, 2) := by decide +kernel
theorem own_d34_3 : decode jdk_43_method_46_code 3 = .ok (.dup, 1) := by decide +kernel
theorem own_d34_4 : decode jdk_43_method_46_code 4 = .ok (.iconst 0, 1) := by decide +kernel
theorem own_d34_5 : decode jdk_43_method_46_code 5 = .ok (.iload_n 0, 1) := by decide +kernel
theorem own_d34_6 : decode jdk_43_method_46_code 6 = .ok (.i2b, 1) := by decide +kernel
theorem own_d34_7 : decode jdk_43_method_46_code 7 = .ok (.bastore, 1) := by decide +kernel
theorem own_d34_8 : decode jdk_43_method_46_code 8 = .ok (.areturn, 1) := by decide +kernel
theorem own_rm34_ef (m : MethodId) (c' : Int32) : entryFrame m #[(.int c')] 1 = mkF m 0 #[.val (.int c')] [] := by first | (simp [entryFrame, mkF, argsToLocals, Value.category]; done) | rfl
def own_Q34 (Z : State) (c' : Int32) (h0 : Heap) (n0 : Nat) (v_ : Option Value) (h : Heap) (L_ : List Loc) : Prop := v_ = some (.ref h0.size) ∧ Fr n0 L_ ∧ (Keep h0 h []) ∧ (own_Ar Z h h0.size .byte [c'.toInt8.toInt32])
set_option maxRecDepth 65536 in
set_option maxHeartbeats 40000000 in
theorem own_rm34 (l : Launch) (Z : State) (a0 : Array Value) (hw : ∀ d ∈ tables_1, d.before a0 Z = true) (ws : List Jvm.Cond) (c' : Int32) (h0 : Heap) (n0 : Nat) (Z0 : n0 ≤ h0.size)  :
    MetFree l (⟨"java/lang/StringLatin1", "toBytes", "(C)[B"⟩ : MethodName) (head1 (Jvm.Cond.code (⟨"java/lang/StringLatin1", "toBytes", "(C)[B"⟩ : MethodName) jdk_43_method_46_code 1 (some (.array .byte)) :: ws) ({ frames := 0, cells := 1, slots := 1, locals := 0 } : Room)) (fun a_ U_ => a_ = #[(.int c')] ∧ Z.Warmed39 U_.vm ∧ U_.heap = h0) (fun _ _ _ _ _ => True) (fun _ U_ o_ V_ => ∃ v_ L_, o_ = .returned v_ ∧ own_Q34 Z c' h0 n0 v_ V_.heap L_ ∧ FrameEnd U_ o_ V_ L_ ({ frames := 0, cells := 1, slots := 1, locals := 0 } : Room).cells ({ frames := 0, cells := 1, slots := 1, locals := 0 } : Room).slots) := by
  refine MetFree.of_bodySF (plainFor_of_name own_pn_java_lang_StringLatin1) hisR ?_
  intro p e s m args below meth c s₁ Bd hml0 hP hK
  obtain ⟨rfl, hZ, hh⟩ := hP
  have hx := Bd.exec
  have hby := Bd.bytes
  have hml : c.maxLocals = 1 := hml0
  have hown : s.vm.findClass "java/lang/StringLatin1" = some m.cls := findClass_of_methodNamed Bd.named
  have hnm := (name_of_methodNamed Bd.named Bd.method).1
  have X0 : Stand p l e ({ frames := 0, cells := 1, slots := 1, locals := 0 } : Room) s m #[(.int c')] below meth c s₁ [] 0 0 := Stand.of_body Bd
  have e0 : s₁.heap = h0 := by rw [← hh, Bd.state]; rfl
  have N0 := Fr.nil n0
  show own_G p e below s (own_Q34 Z c' h0 n0) ({ frames := 0, cells := 1, slots := 1, locals := 0 } : Room).cells ({ frames := 0, cells := 1, slots := 1, locals := 0 } : Room).slots s₁ (entryFrame m #[(.int c')] 1)
  rw [own_rm34_ef]
  refine own_w (T' := s₁) (g' := (mkF m 1 #[.val (.int c')] [(.int (1 : Int32))])) (fun _ k_ => XS.iconst X0.here hx rfl (hb hby own_d34_0) k_) ?_
  obtain ⟨T1, h1, k1, X1, e1, E1, A1, st1⟩ := newP X0 hx hZ (hw _ (List.mem_of_getElem? (i := 27) rfl)) e0 (g := (mkF m 1 #[.val (.int c')] [(.int (1 : Int32))])) rfl (hb hby own_d34_1) rfl (by decide) (cap := 1) (by decide) (by decide) (by decide) (by decide)
  obtain ⟨b1, gq1⟩ : ∃ z, z = h0.size := ⟨_, rfl⟩
  rw [← gq1] at A1 st1
  have V_b1 := own_Ar_new A1 rfl (k := 1) rfl
  have g_b1 : n0 ≤ b1 := Nat.le_trans Z0 (Nat.le_of_eq gq1.symm)
  have Z1 : n0 ≤ h1.size := Nat.le_trans Z0 E1.1
  refine own_w (T' := T1) (g' := (mkF m 3 #[.val (.int c')] [(.ref b1)])) st1 ?_
  refine own_w (T' := T1) (g' := (mkF m 4 #[.val (.int c')] [(.ref b1), (.ref b1)])) (fun _ k_ => XS.dup X1.here hx rfl (hb hby own_d34_3) rfl rfl k_) ?_
  refine own_w (T' := T1) (g' := (mkF m 5 #[.val (.int c')] [(.int (0 : Int32)), (.ref b1), (.ref b1)])) (fun _ k_ => XS.iconst X1.here hx rfl (hb hby own_d34_4) k_) ?_
  refine own_w (T' := T1) (g' := (mkF m 6 #[.val (.int c')] [(.int c'), (.int (0 : Int32)), (.ref b1), (.ref b1)])) (fun _ k_ => XS.iloadN X1.here hx rfl (hb hby own_d34_5) rfl k_) ?_
  refine own_w (T' := T1) (g' := (mkF m 7 #[.val (.int c')] [(.int (c'.toInt8.toInt32)), (.int (0 : Int32)), (.ref b1), (.ref b1)])) (fun _ k_ => XS.i2b X1.here hx rfl (hb hby own_d34_6) rfl k_) ?_
  obtain ⟨cl2, Ar2, hs2⟩ := id V_b1
  obtain ⟨T2, h2, X2, e2, W2, st2⟩ := stB X1 hx hZ e1 Ar2 (j := (0 : Int32)) (own_Ar_in (i := 0) hs2 (by decide) (by simp)) (g := (mkF m 7 #[.val (.int c')] [(.int (c'.toInt8.toInt32)), (.int (0 : Int32)), (.ref b1), (.ref b1)])) rfl rfl (hb hby own_d34_7)
  have V2 := own_Ar_set (i := 0) V_b1 W2 (by decide) (own_n8 _)
  have N2 := Fr.snoc X2 N0 g_b1
  have Z2 : n0 ≤ h2.size := Nat.le_trans Z1 (Keep.of_wr W2).1
  refine own_w (T' := T2) (g' := (mkF m 8 #[.val (.int c')] [(.ref b1)])) st2 ?_
  obtain ⟨fs, hr, hrun, hended, hW, hsame⟩ := X2.leave (v := some (.ref b1)) (fun h => by rw [Bd.returns] at h; cases h)
  exact ⟨_, _, retOut X2 hx Bd.returns rfl (Or.inr (Or.inr (Or.inr (Or.inr ⟨rfl, rfl, rfl⟩)))) (hb hby own_d34_8) hr, hrun, hended, _, _, rfl, (by show own_Q34 Z c' h0 n0 _ T2.heap _; rw [e2]; exact ⟨(by rw [gq1]), N2, ((Keep.refl h0 []).ext E1).wr W2 (Or.inr (Nat.le_of_eq gq1.symm)), gq1 ▸ V2⟩), ⟨_, rfl⟩, hW, hsame.mono (by decide) (by decide)⟩
theorem own_d35_0 : decode jdk_42_method_151_code 0 = .ok (.aload_n 0, 1) := by decide +kernel
theorem own_d35_1 : decode jdk_42_method_151_code 1 = .ok (.invokespecial 1, 3) := by decide +kernel
theorem own_d35_4 : decode jdk_42_method_151_code 4 = .ok (.aload_n 0, 1) := by decide +kernel
theorem own_d35_5 : decode jdk_42_method_151_code 5 = .ok (.aload_n 1, 1) := by decide +kernel
theorem own_d35_6 : decode jdk_42_method_151_code 6 = .ok (.putfield 9, 3) := by decide +kernel
theorem own_d35_9 : decode jdk_42_method_151_code 9 = .ok (.aload_n 0, 1) := by decide +kernel
theorem own_d35_10 : decode jdk_42_method_151_code 10 = .ok (.iload_n 2, 1) := by decide +kernel
theorem own_d35_11 : decode jdk_42_method_151_code 11 = .ok (.putfield 15, 3) := by decide +kernel
theorem own_d35_14 : decode jdk_42_method_151_code 14 = .ok (.return_, 1) := by decide +kernel
theorem own_rm35_ef (m : MethodId) (a : Addr) (ab : Addr) : entryFrame m #[(.ref a), (.ref ab), (.int (0 : Int32))] 3 = mkF m 0 #[.val (.ref a), .val (.ref ab), .val (.int (0 : Int32))] [] := by first | (simp [entryFrame, mkF, argsToLocals, Value.category]; done) | rfl
def own_Q35 (Z : State) (a : Addr) (ab : Addr) (u : Value) (u2 : Value) (xs : List Int32) (h0 : Heap) (n0 : Nat) (v_ : Option Value) (h : Heap) (L_ : List Loc) : Prop := v_ = none ∧ Fr n0 L_ ∧ (Keep h0 h [a]) ∧ (own_Str Z h a xs)
set_option maxRecDepth 65536 in
set_option maxHeartbeats 40000000 in
theorem own_rm35 (l : Launch) (Z : State) (a0 : Array Value) (hw : ∀ d ∈ tables_1, d.before a0 Z = true) (ws : List Jvm.Cond) (a : Addr) (ab : Addr) (u : Value) (u2 : Value) (xs : List Int32) (h0 : Heap) (n0 : Nat) (Z0 : n0 ≤ h0.size) (F : Fld Z h0 a "java/lang/String" "value" "[B" u) (G : Fld Z h0 a "java/lang/String" "coder" "B" u2) (E : Exa Z h0 a "java/lang/String") (g_a : n0 ≤ a) (V : own_Ar Z h0 ab .byte xs) (ne : ab ≠ a) :
    MetFree l (⟨"java/lang/String", "<init>", "([BB)V"⟩ : MethodName) (head1 (Jvm.Cond.code (⟨"java/lang/String", "<init>", "([BB)V"⟩ : MethodName) jdk_42_method_151_code 3 none :: ws) ({ frames := 1, cells := 0, slots := 0, locals := 12 } : Room)) (fun a_ U_ => a_ = #[(.ref a), (.ref ab), (.int (0 : Int32))] ∧ Z.Warmed39 U_.vm ∧ U_.heap = h0) (fun _ _ _ _ _ => True) (fun _ U_ o_ V_ => ∃ v_ L_, o_ = .returned v_ ∧ own_Q35 Z a ab u u2 xs h0 n0 v_ V_.heap L_ ∧ FrameEnd U_ o_ V_ L_ ({ frames := 1, cells := 0, slots := 0, locals := 12 } : Room).cells ({ frames := 1, cells := 0, slots := 0, locals := 12 } : Room).slots) := by
  refine MetFree.of_bodySF (plainFor_of_name own_pn_java_lang_String) hisR ?_
  intro p e s m args below meth c s₁ Bd hml0 hP hK
  obtain ⟨rfl, hZ, hh⟩ := hP
  have hx := Bd.exec
  have hby := Bd.bytes
  have hml : c.maxLocals = 3 := hml0
  have hown : s.vm.findClass "java/lang/String" = some m.cls := findClass_of_methodNamed Bd.named
  have hnm := (name_of_methodNamed Bd.named Bd.method).1
  have X0 : Stand p l e ({ frames := 1, cells := 0, slots := 0, locals := 12 } : Room) s m #[(.ref a), (.ref ab), (.int (0 : Int32))] below meth c s₁ [] 0 0 := Stand.of_body Bd
  have e0 : s₁.heap = h0 := by rw [← hh, Bd.state]; rfl
  have N0 := Fr.nil n0
  show own_G p e below s (own_Q35 Z a ab u u2 xs h0 n0) ({ frames := 1, cells := 0, slots := 0, locals := 12 } : Room).cells ({ frames := 1, cells := 0, slots := 0, locals := 12 } : Room).slots s₁ (entryFrame m #[(.ref a), (.ref ab), (.int (0 : Int32))] 3)
  rw [own_rm35_ef]
  refine own_w (T' := s₁) (g' := (mkF m 1 #[.val (.ref a), .val (.ref ab), .val (.int (0 : Int32))] [(.ref a)])) (fun _ k_ => XS.aloadN X0.here hx rfl (hb hby own_d35_0) rfl rfl k_) ?_
  obtain ⟨T1, X1, e1, st1⟩ := initO X0 hx hZ hown (hw _ (List.mem_of_getElem? (i := 19) rfl)) (hw _ (List.mem_of_getElem? (i := 20) rfl)) (hw _ (List.mem_of_getElem? (i := 21) rfl)) e0 (g := (mkF m 1 #[.val (.ref a), .val (.ref ab), .val (.int (0 : Int32))] [(.ref a)])) rfl (by rw [hml]; rfl) rfl (hb hby own_d35_1) (by decide) (W := 0) (by show 2 * 0 + _ ≤ _; exact Nat.le_of_eq rfl) (by decide)
  refine own_w (T' := T1) (g' := (mkF m 4 #[.val (.ref a), .val (.ref ab), .val (.int (0 : Int32))] [])) st1 ?_
  refine own_w (T' := T1) (g' := (mkF m 5 #[.val (.ref a), .val (.ref ab), .val (.int (0 : Int32))] [(.ref a)])) (fun _ k_ => XS.aloadN X1.here hx rfl (hb hby own_d35_4) rfl rfl k_) ?_
  refine own_w (T' := T1) (g' := (mkF m 6 #[.val (.ref a), .val (.ref ab), .val (.int (0 : Int32))] [(.ref ab), (.ref a)])) (fun _ k_ => XS.aloadN X1.here hx rfl (hb hby own_d35_5) rfl rfl k_) ?_
  obtain ⟨T2, h2, X2, e2, W2, st2⟩ := putF X1 hx hZ hown (host := "") (Or.inl (hw _ (List.mem_of_getElem? (i := 36) rfl))) Via.refl e1 F E (Or.inr ⟨(hw _ (List.mem_of_getElem? (i := 37) rfl)), rfl, hnm⟩) (hw _ (List.mem_of_getElem? (i := 10) rfl)) (ty := (.array .byte)) (by decide) rfl rfl (g := (mkF m 6 #[.val (.ref a), .val (.ref ab), .val (.int (0 : Int32))] [(.ref ab), (.ref a)])) rfl rfl (hb hby own_d35_6)
  have N2 := Fr.snoc X2 N0 g_a
  refine own_w (T' := T2) (g' := (mkF m 9 #[.val (.ref a), .val (.ref ab), .val (.int (0 : Int32))] [])) st2 ?_
  refine own_w (T' := T2) (g' := (mkF m 10 #[.val (.ref a), .val (.ref ab), .val (.int (0 : Int32))] [(.ref a)])) (fun _ k_ => XS.aloadN X2.here hx rfl (hb hby own_d35_9) rfl rfl k_) ?_
  refine own_w (T' := T2) (g' := (mkF m 11 #[.val (.ref a), .val (.ref ab), .val (.int (0 : Int32))] [(.int (0 : Int32)), (.ref a)])) (fun _ k_ => XS.iloadN X2.here hx rfl (hb hby own_d35_10) rfl k_) ?_
  obtain ⟨T3, h3, X3, e3, W3, st3⟩ := putFN X2 hx hZ hown (hw _ (List.mem_of_getElem? (i := 34) rfl)) Via.refl e2 (G.other W2 (Or.inr (slot_ne (Or.inr (hw _ (List.mem_of_getElem? (i := 35) rfl))) (Or.inr (hw _ (List.mem_of_getElem? (i := 37) rfl))) (by decide) (t := .byte) (t' := (.array .byte)) (by decide) (by decide)))) (E.wr W2) (Or.inr ⟨(hw _ (List.mem_of_getElem? (i := 35) rfl)), rfl, hnm⟩) (hw _ (List.mem_of_getElem? (i := 10) rfl)) (ty := .byte) (v' := (.int (0 : Int32))) (by decide) rfl rfl (g := (mkF m 11 #[.val (.ref a), .val (.ref ab), .val (.int (0 : Int32))] [(.int (0 : Int32)), (.ref a)])) rfl rfl (hb hby own_d35_11)
  have N3 := Fr.snoc X3 N2 g_a
  refine own_w (T' := T3) (g' := (mkF m 14 #[.val (.ref a), .val (.ref ab), .val (.int (0 : Int32))] [])) st3 ?_
  obtain ⟨fs, hr, hrun, hended, hW, hsame⟩ := X3.leave (v := none) (fun _ => rfl)
  exact ⟨_, _, X3.returnOut hx Bd.returns (hb hby own_d35_14) hr, hrun, hended, _, _, rfl, (by show own_Q35 Z a ab u u2 xs h0 n0 _ T3.heap _; rw [e3]; exact ⟨rfl, N3, (Keep.of_wr W2).wr W3 (Or.inl (List.mem_singleton.mpr rfl)), ⟨(E.wr W2).wr W3, (G.other W2 (Or.inr (slot_ne (Or.inr (hw _ (List.mem_of_getElem? (i := 35) rfl))) (Or.inr (hw _ (List.mem_of_getElem? (i := 37) rfl))) (by decide) (t := .byte) (t' := (.array .byte)) (by decide) (by decide)))).same W3, _, (F.same W2).other W3 (Or.inr (slot_ne (Or.inr (hw _ (List.mem_of_getElem? (i := 37) rfl))) (Or.inr (hw _ (List.mem_of_getElem? (i := 35) rfl))) (by decide) (t := (.array .byte)) (t' := .byte) (by decide) (by decide))), own_Ar_other (own_Ar_other V W2 ne) W3 ne⟩⟩), ⟨_, rfl⟩, hW, hsame.mono (by decide) (by decide)⟩
theorem own_d32_0 : decode jdk_42_method_139_code 0 = .ok (.getstatic 38, 3) := by decide +kernel
theorem own_d32_3 : decode jdk_42_method_139_code 3 = .ok (.ifCond .eq 23, 3) := by decide +kernel
theorem own_d32_6 : decode jdk_42_method_139_code 6 = .ok (.iload_n 0, 1) := by decide +kernel
theorem own_d32_7 : decode jdk_42_method_139_code 7 = .ok (.invokestatic 1015, 3) := by decide +kernel
theorem own_pd16 : parseMethodDescriptor "(C)Z" = some ⟨[.char], some .boolean⟩ := by decide +kernel
theorem own_d32_10 : decode jdk_42_method_139_code 10 = .ok (.ifCond .eq 16, 3) := by decide +kernel
theorem own_d32_13 : decode jdk_42_method_139_code 13 = .ok (.new 10, 3) := by decide +kernel
theorem own_d32_16 : decode jdk_42_method_139_code 16 = .ok (.dup, 1) := by decide +kernel
theorem own_d32_17 : decode jdk_42_method_139_code 17 = .ok (.iload_n 0, 1) := by decide +kernel
theorem own_d32_18 : decode jdk_42_method_139_code 18 = .ok (.invokestatic 1018, 3) := by decide +kernel
theorem own_pd17 : parseMethodDescriptor "(C)[B" = some ⟨[.char], some (.array .byte)⟩ := by decide +kernel
theorem own_d32_21 : decode jdk_42_method_139_code 21 = .ok (.iconst 0, 1) := by decide +kernel
theorem own_d32_22 : decode jdk_42_method_139_code 22 = .ok (.invokespecial 209, 3) := by decide +kernel
theorem own_pd18 : parseMethodDescriptor "([BB)V" = some ⟨[(.array .byte), .byte], none⟩ := by decide +kernel
theorem own_d32_25 : decode jdk_42_method_139_code 25 = .ok (.areturn, 1) := by decide +kernel
theorem own_rm32_ef (m : MethodId) (c' : Int32) : entryFrame m #[(.int c')] 1 = mkF m 0 #[.val (.int c')] [] := by first | (simp [entryFrame, mkF, argsToLocals, Value.category]; done) | rfl
def own_Q32 (Z : State) (c' : Int32) (cs : Int32) (h0 : Heap) (n0 : Nat) (v_ : Option Value) (h : Heap) (L_ : List Loc) : Prop := ∃ r : Addr, v_ = some (.ref r) ∧ Fr n0 L_ ∧ (Keep h0 h []) ∧ (own_Str Z h r [c'.toInt8.toInt32])
set_option maxRecDepth 65536 in
set_option maxHeartbeats 40000000 in
theorem own_rm32 (l : Launch) (Z : State) (a0 : Array Value) (hw : ∀ d ∈ tables_1, d.before a0 Z = true) (ws : List Jvm.Cond) (c' : Int32) (cs : Int32) (h0 : Heap) (n0 : Nat) (Z0 : n0 ≤ h0.size) (hc' : ¬ (255 : Int32) < c') (hcs : ¬ cs = (0 : Int32)) (S : Sta Z h0 "java/lang/String" "COMPACT_STRINGS" "Z" (.int cs)) :
    MetFree l (⟨"java/lang/String", "valueOf", "(C)Ljava/lang/String;"⟩ : MethodName) (head1 (Jvm.Cond.code (⟨"java/lang/String", "valueOf", "(C)Ljava/lang/String;"⟩ : MethodName) jdk_42_method_139_code 1 (some (.object "java/lang/String")) :: ws) ({ frames := 2, cells := 2, slots := 5, locals := 27 } : Room)) (fun a_ U_ => a_ = #[(.int c')] ∧ Z.Warmed39 U_.vm ∧ U_.heap = h0) (fun _ _ _ _ _ => True) (fun _ U_ o_ V_ => ∃ v_ L_, o_ = .returned v_ ∧ own_Q32 Z c' cs h0 n0 v_ V_.heap L_ ∧ FrameEnd U_ o_ V_ L_ ({ frames := 2, cells := 2, slots := 5, locals := 27 } : Room).cells ({ frames := 2, cells := 2, slots := 5, locals := 27 } : Room).slots) := by
  refine MetFree.of_bodySF (plainFor_of_name own_pn_java_lang_String) hisR ?_
  intro p e s m args below meth c s₁ Bd hml0 hP hK
  obtain ⟨rfl, hZ, hh⟩ := hP
  have hx := Bd.exec
  have hby := Bd.bytes
  have hml : c.maxLocals = 1 := hml0
  have hown : s.vm.findClass "java/lang/String" = some m.cls := findClass_of_methodNamed Bd.named
  have hnm := (name_of_methodNamed Bd.named Bd.method).1
  have X0 : Stand p l e ({ frames := 2, cells := 2, slots := 5, locals := 27 } : Room) s m #[(.int c')] below meth c s₁ [] 0 0 := Stand.of_body Bd
  have e0 : s₁.heap = h0 := by rw [← hh, Bd.state]; rfl
  have N0 := Fr.nil n0
  show own_G p e below s (own_Q32 Z c' cs h0 n0) ({ frames := 2, cells := 2, slots := 5, locals := 27 } : Room).cells ({ frames := 2, cells := 2, slots := 5, locals := 27 } : Room).slots s₁ (entryFrame m #[(.int c')] 1)
  rw [own_rm32_ef]
  obtain ⟨T1, X1, e1, st1⟩ := getS2 X0 hx hZ hown (host := "") (Or.inl (hw _ (List.mem_of_getElem? (i := 22) rfl))) Via.refl e0 S (g := (mkF m 0 #[.val (.int c')] [])) rfl (hb hby own_d32_0)
  refine own_w (T' := T1) (g' := (mkF m 3 #[.val (.int c')] [(.int cs)])) st1 ?_
  refine own_w (T' := T1) (g' := (mkF m 6 #[.val (.int c')] [])) (fun _ k_ => XS.ifNo X1.here hx rfl (hb hby own_d32_3) rfl ((if0 _ _).trans (feq hcs).1) k_) ?_
  refine own_w (T' := T1) (g' := (mkF m 7 #[.val (.int c')] [(.int c')])) (fun _ k_ => XS.iloadN X1.here hx rfl (hb hby own_d32_6) rfl k_) ?_
  obtain ⟨_, _, ⟨T2, L2, k2, n2⟩, -, X2, ⟨Lc2, hQ2, l2, y2, z2⟩, st2⟩ := Jvm.LawKit.callS X1 hx (y := (⟨"java/lang/StringLatin1", "canEncode", "(C)Z"⟩ : MethodName)) hown (mvT hZ (hw _ (List.mem_of_getElem? (i := 146) rfl))) (mvT hZ (hw _ (List.mem_of_getElem? (i := 147) rfl))) (mvT hZ (hw _ (List.mem_of_getElem? (i := 74) rfl))) (mvT hZ (hw _ (List.mem_of_getElem? (i := 148) rfl))) (by decide) (backOf (W := 0) (own_rm33 l Z a0 hw [] c'  h0 n0 Z0 hc') hZ (hw _ (List.mem_of_getElem? (i := 148) rfl)) (hw _ (List.mem_of_getElem? (i := 74) rfl)) (by decide) (by decide)) (g := (mkF m 7 #[.val (.int c')] [(.int c')])) rfl (by rw [hml]; rfl) (argsL := [(.int c')]) (rest := []) (lenOf own_pd16 rfl) rfl (by show 2 * 0 + _ ≤ _; exact Nat.le_of_eq rfl) (hb hby own_d32_7) (fun _ _ => ⟨rfl, e1, (by decide : 0 + 0 ≤ _), (by decide : 0 + 0 ≤ _)⟩)
  dsimp only [Pt.U, Pt.locs, Pt.cells, Pt.slots] at X2 l2 y2 z2 st2 hQ2
  subst l2 y2 z2
  obtain ⟨rfl, N2q, e2⟩ := hQ2
  have N2 := Fr.app N0 N2q
  refine own_w (T' := T2) (g' := (mkF m 10 #[.val (.int c')] [(.int (1 : Int32))])) st2 ?_
  refine own_w (T' := T2) (g' := (mkF m 13 #[.val (.int c')] [])) (fun _ k_ => XS.ifNo X2.here hx rfl (hb hby own_d32_10) rfl ((if0 _ _).trans (feq (by decide)).1) k_) ?_
  obtain ⟨T3, h3, X3, e3, E3, A3, D3, -, st3⟩ := newO X2 hx hZ hown (hw _ (List.mem_of_getElem? (i := 149) rfl)) (hw _ (List.mem_of_getElem? (i := 10) rfl)) (hw _ (List.mem_of_getElem? (i := 11) rfl)) e2 (g := (mkF m 13 #[.val (.int c')] [])) rfl (hb hby own_d32_13) (by decide) (by decide)
  obtain ⟨b3, gq3⟩ : ∃ z, z = h0.size := ⟨_, rfl⟩
  rw [← gq3] at A3 D3 st3
  have g_b3 : n0 ≤ b3 := Nat.le_trans Z0 (Nat.le_of_eq gq3.symm)
  have Z3 : n0 ≤ h3.size := Nat.le_trans Z0 E3.1
  refine own_w (T' := T3) (g' := (mkF m 16 #[.val (.int c')] [(.ref b3)])) st3 ?_
  refine own_w (T' := T3) (g' := (mkF m 17 #[.val (.int c')] [(.ref b3), (.ref b3)])) (fun _ k_ => XS.dup X3.here hx rfl (hb hby own_d32_16) rfl rfl k_) ?_
  refine own_w (T' := T3) (g' := (mkF m 18 #[.val (.int c')] [(.int c'), (.ref b3), (.ref b3)])) (fun _ k_ => XS.iloadN X3.here hx rfl (hb hby own_d32_17) rfl k_) ?_
  obtain ⟨_, _, ⟨T4, L4, k4, n4⟩, -, X4, ⟨Lc4, hQ4, l4, y4, z4⟩, st4⟩ := Jvm.LawKit.callS X3 hx (y := (⟨"java/lang/StringLatin1", "toBytes", "(C)[B"⟩ : MethodName)) hown (mvT hZ (hw _ (List.mem_of_getElem? (i := 150) rfl))) (mvT hZ (hw _ (List.mem_of_getElem? (i := 151) rfl))) (mvT hZ (hw _ (List.mem_of_getElem? (i := 74) rfl))) (mvT hZ (hw _ (List.mem_of_getElem? (i := 152) rfl))) (by decide) (backOf (W := 2) (own_rm34 l Z a0 hw [] c'  h3 n0 Z3 ) hZ (hw _ (List.mem_of_getElem? (i := 152) rfl)) (hw _ (List.mem_of_getElem? (i := 74) rfl)) (by decide) (by decide)) (g := (mkF m 18 #[.val (.int c')] [(.int c'), (.ref b3), (.ref b3)])) rfl (by rw [hml]; rfl) (argsL := [(.int c')]) (rest := [(.ref b3), (.ref b3)]) (lenOf own_pd17 rfl) rfl (by show 2 * 0 + _ ≤ _; exact Nat.le_of_eq rfl) (hb hby own_d32_18) (fun _ _ => ⟨rfl, e3, (by decide : 1 + 1 ≤ _), (by decide : 4 + 1 ≤ _)⟩)
  dsimp only [Pt.U, Pt.locs, Pt.cells, Pt.slots] at X4 l4 y4 z4 st4 hQ4
  subst l4 y4 z4
  obtain ⟨h4, e4⟩ : ∃ h, T4.heap = h := ⟨_, rfl⟩
  rw [e4] at hQ4
  obtain ⟨rfl, N4q, K4, V4⟩ := hQ4
  have N4 := Fr.app N2 N4q
  refine own_w (T' := T4) (g' := (mkF m 21 #[.val (.int c')] [(.ref h3.size), (.ref b3), (.ref b3)])) st4 ?_
  have Z4 : n0 ≤ h4.size := Nat.le_trans Z3 K4.1
  refine own_w (T' := T4) (g' := (mkF m 22 #[.val (.int c')] [(.int (0 : Int32)), (.ref h3.size), (.ref b3), (.ref b3)])) (fun _ k_ => XS.iconst X4.here hx rfl (hb hby own_d32_21) k_) ?_
  obtain ⟨_, _, ⟨T5, L5, k5, n5⟩, -, X5, ⟨Lc5, hQ5, l5, y5, z5⟩, st5⟩ := X4.specialBack hx (y := (⟨"java/lang/String", "<init>", "([BB)V"⟩ : MethodName)) rfl hown (mvT hZ (hw _ (List.mem_of_getElem? (i := 153) rfl))) (mvT hZ (hw _ (List.mem_of_getElem? (i := 154) rfl))) (mvT hZ (hw _ (List.mem_of_getElem? (i := 155) rfl))) (by decide) (backOf (W := 1) (own_rm35 l Z a0 hw [] b3 h3.size _ _ _ h4 n0 Z4 ((D3 (Or.inr (hw _ (List.mem_of_getElem? (i := 37) rfl))) (ty := (.array .byte)) (by decide)).keep K4 (by simp)) ((D3 (Or.inr (hw _ (List.mem_of_getElem? (i := 35) rfl))) (ty := .byte) (by decide)).keep K4 (by simp)) (A3.keep K4) g_b3 V4 (Nat.ne_of_gt A3.lt)) hZ (hw _ (List.mem_of_getElem? (i := 155) rfl)) (hw _ (List.mem_of_getElem? (i := 11) rfl)) (by decide) (by decide)) (g := (mkF m 22 #[.val (.int c')] [(.int (0 : Int32)), (.ref h3.size), (.ref b3), (.ref b3)])) rfl (by rw [hml]; rfl) (Steps.refl _) (a := b3) (argsL := [(.ref h3.size), (.int (0 : Int32))]) (rest := [(.ref b3)]) (lenOf own_pd18 rfl) rfl (by show 2 * 0 + _ ≤ _; exact Nat.le_of_eq rfl) (hb hby own_d32_22) (fun _ _ => ⟨rfl, e4, (by decide : 2 + 0 ≤ _), (by decide : 5 + 0 ≤ _)⟩)
  dsimp only [Pt.U, Pt.locs, Pt.cells, Pt.slots] at X5 l5 y5 z5 st5 hQ5
  subst l5 y5 z5
  obtain ⟨h5, e5⟩ : ∃ h, T5.heap = h := ⟨_, rfl⟩
  rw [e5] at hQ5
  obtain ⟨rfl, N5q, K5, Q5⟩ := hQ5
  have N5 := Fr.app N4 N5q
  refine own_t (T' := T5) (g' := (mkF m 25 #[.val (.int c')] [(.ref b3)])) st5 ?_
  obtain ⟨fs, hr, hrun, hended, hW, hsame⟩ := X5.leave (v := some (.ref b3)) (fun h => by rw [Bd.returns] at h; cases h)
  exact ⟨_, _, retOut X5 hx Bd.returns rfl (Or.inr (Or.inr (Or.inr (Or.inr ⟨rfl, rfl, rfl⟩)))) (hb hby own_d32_25) hr, hrun, hended, _, _, rfl, (by show own_Q32 Z c' cs h0 n0 _ T5.heap _; rw [e5]; exact ⟨_, rfl, N5, (((Keep.refl h0 []).ext E3).trans K4 (fun x hx => by cases hx)).trans K5 (fun x hx => Or.inr (by rw [List.mem_singleton.mp hx]; exact Nat.le_of_eq gq3.symm)), Q5⟩), ⟨_, rfl⟩, hW, hsame.mono (by decide) (by decide)⟩
theorem own_rm {v d : Int64} (dn : Nat) (hd : d.toInt = (dn : Int)) (h0 : 0 < dn) (h1 : dn < 100) : 0 ≤ ((v &&& (1048575 : Int64)) - (v &&& (1048575 : Int64)) / d * d).toInt32.toInt ∧ ((v &&& (1048575 : Int64)) - (v &&& (1048575 : Int64)) / d * d).toInt32.toInt < dn := by
  have m := c_maskL v 1048575 20 (by decide) (by decide)
  have r := (c_lrem (v &&& (1048575 : Int64)) d dn hd).1 (by omega)
  have l := c_l2i ((v &&& (1048575 : Int64)) - (v &&& (1048575 : Int64)) / d * d)
  have b1 := ((v &&& (1048575 : Int64)) - (v &&& (1048575 : Int64)) / d * d).toInt32.toInt_lt; have b2 := ((v &&& (1048575 : Int64)) - (v &&& (1048575 : Int64)) / d * d).toInt32.le_toInt
  rw [r] at l
  have e1 := Int.emod_nonneg (v &&& (1048575 : Int64)).toInt (show (dn : Int) ≠ 0 by omega)
  have e2 := Int.emod_lt_of_pos (v &&& (1048575 : Int64)).toInt (show (0 : Int) < dn by omega)
  omega
theorem own_okc_of {x : Int32} (h : (97 ≤ x.toInt ∧ x.toInt ≤ 122) ∨ (48 ≤ x.toInt ∧ x.toInt ≤ 57) ∨ x.toInt = 45) : own_okc x = true := by
  unfold own_okc
  simp only [Bool.or_eq_true, Bool.and_eq_true, decide_eq_true_eq, Int32.lt_iff_toInt_lt, ← Int32.toInt_inj, show (97 : Int32).toInt = 97 by decide, show (122 : Int32).toInt = 122 by decide, show (48 : Int32).toInt = 48 by decide, show (57 : Int32).toInt = 57 by decide, show (45 : Int32).toInt = 45 by decide]
  omega
theorem own_okc_rng {x : Int32} (h : own_okc x = true) : 45 ≤ x.toInt ∧ x.toInt ≤ 122 ∧ x.toInt ≠ 46 := by
  have q := own_okc_spec h
  simp only [Int32.lt_iff_toInt_lt, ← Int32.toInt_inj, show (97 : Int32).toInt = 97 by decide, show (122 : Int32).toInt = 122 by decide, show (48 : Int32).toInt = 48 by decide, show (57 : Int32).toInt = 57 by decide, show (45 : Int32).toInt = 45 by decide] at q
  omega
theorem own_c97 {r : Int32} (h0 : 0 ≤ r.toInt) (h1 : r < (26 : Int32)) : own_okc (own_i2c ((97 : Int32) + r)) = true ∧ ¬ own_i2c ((97 : Int32) + r) = 45 := by
  have a := c_iadd 97 r
  have l1 := ((97 : Int32) + r).toInt_lt; have l2 := ((97 : Int32) + r).le_toInt
  simp only [Int32.lt_iff_toInt_lt, show (26 : Int32).toInt = 26 by decide, show (97 : Int32).toInt = 97 by decide] at h1 a
  rw [own_i2c_small (by omega) (by omega)]
  refine ⟨own_okc_of (Or.inl (by omega)), fun q => ?_⟩
  rw [q, show (45 : Int32).toInt = 45 by decide] at a; omega
theorem own_c48 {r : Int32} (h0 : ¬ r < (26 : Int32)) (h1 : r < (36 : Int32)) : own_okc (own_i2c ((48 : Int32) + (r - (26 : Int32)))) = true ∧ ¬ own_i2c ((48 : Int32) + (r - (26 : Int32))) = 45 := by
  have s := c_isub r 26
  have a := c_iadd 48 (r - 26)
  have l1 := ((48 : Int32) + (r - 26)).toInt_lt; have l2 := ((48 : Int32) + (r - 26)).le_toInt; have l3 := (r - 26).toInt_lt; have l4 := (r - 26).le_toInt
  simp only [Int32.lt_iff_toInt_lt, show (26 : Int32).toInt = 26 by decide, show (36 : Int32).toInt = 36 by decide, show (48 : Int32).toInt = 48 by decide] at h0 h1 a s
  rw [own_i2c_small (by omega) (by omega)]
  refine ⟨own_okc_of (Or.inr (Or.inl (by omega))), fun q => ?_⟩
  rw [q, show (45 : Int32).toInt = 45 by decide] at a; omega
theorem own_d2_0 : decode method_2_code 0 = .ok (.lload_n 0, 1) := by decide +kernel
theorem own_d2_1 : decode method_2_code 1 = .ok (.ldc2_w 7, 3) := by decide +kernel
theorem own_d2_4 : decode method_2_code 4 = .ok (.land, 1) := by decide +kernel
theorem own_d2_5 : decode method_2_code 5 = .ok (.iload_n 2, 1) := by decide +kernel
theorem own_d2_6 : decode method_2_code 6 = .ok (.ifCond .eq 8, 3) := by decide +kernel
theorem own_d2_14 : decode method_2_code 14 = .ok (.bipush 36, 2) := by decide +kernel
theorem own_d2_16 : decode method_2_code 16 = .ok (.i2l, 1) := by decide +kernel
theorem own_d2_17 : decode method_2_code 17 = .ok (.lrem, 1) := by decide +kernel
theorem own_d2_18 : decode method_2_code 18 = .ok (.l2i, 1) := by decide +kernel
theorem own_d2_19 : decode method_2_code 19 = .ok (.istore_n 3, 1) := by decide +kernel
theorem own_d2_20 : decode method_2_code 20 = .ok (.iload_n 3, 1) := by decide +kernel
theorem own_d2_21 : decode method_2_code 21 = .ok (.bipush 26, 2) := by decide +kernel
theorem own_d2_23 : decode method_2_code 23 = .ok (.if_icmp .ge 9, 3) := by decide +kernel
theorem own_d2_26 : decode method_2_code 26 = .ok (.bipush 97, 2) := by decide +kernel
theorem own_d2_28 : decode method_2_code 28 = .ok (.iload_n 3, 1) := by decide +kernel
theorem own_d2_29 : decode method_2_code 29 = .ok (.iadd, 1) := by decide +kernel
theorem own_d2_30 : decode method_2_code 30 = .ok (.i2c, 1) := by decide +kernel
theorem own_d2_31 : decode method_2_code 31 = .ok (.ireturn, 1) := by decide +kernel
theorem own_d2_32 : decode method_2_code 32 = .ok (.iload_n 3, 1) := by decide +kernel
theorem own_d2_33 : decode method_2_code 33 = .ok (.bipush 36, 2) := by decide +kernel
theorem own_d2_35 : decode method_2_code 35 = .ok (.if_icmp .ge 12, 3) := by decide +kernel
theorem own_d2_38 : decode method_2_code 38 = .ok (.bipush 48, 2) := by decide +kernel
theorem own_d2_40 : decode method_2_code 40 = .ok (.iload_n 3, 1) := by decide +kernel
theorem own_d2_41 : decode method_2_code 41 = .ok (.bipush 26, 2) := by decide +kernel
theorem own_d2_43 : decode method_2_code 43 = .ok (.isub, 1) := by decide +kernel
theorem own_d2_44 : decode method_2_code 44 = .ok (.iadd, 1) := by decide +kernel
theorem own_d2_45 : decode method_2_code 45 = .ok (.i2c, 1) := by decide +kernel
theorem own_d2_46 : decode method_2_code 46 = .ok (.ireturn, 1) := by decide +kernel
theorem own_d2_9 : decode method_2_code 9 = .ok (.bipush 37, 2) := by decide +kernel
theorem own_d2_11 : decode method_2_code 11 = .ok (.goto 5, 3) := by decide +kernel
theorem own_d2_47 : decode method_2_code 47 = .ok (.bipush 45, 2) := by decide +kernel
theorem own_d2_49 : decode method_2_code 49 = .ok (.ireturn, 1) := by decide +kernel
theorem own_pn_com_example_adjacency_adjacency_identity_NodeNameParsePinLaw : plainName "com/example/adjacency/adjacency/identity/NodeNameParsePinLaw" = true := by first | (simp [plainName, overriddenIn]; done) | decide +kernel
theorem own_rm2_ef (m : MethodId) (v : Int64) (b' : Int32) : entryFrame m #[(.long v), (.int b')] 4 = mkF m 0 #[.val (.long v), .second, .val (.int b'), .unset] [] := by first | (simp [entryFrame, mkF, argsToLocals, Value.category]; done) | rfl
def own_Q2 (Z : State) (v : Int64) (b' : Int32) (h0 : Heap) (n0 : Nat) (v_ : Option Value) (h : Heap) (L_ : List Loc) : Prop := ∃ c : Int32, v_ = some (.int c) ∧ Fr n0 L_ ∧ (h = h0) ∧ (own_okc c = true) ∧ (b' = (0 : Int32) → ¬ c = 45)
set_option maxRecDepth 65536 in
set_option maxHeartbeats 40000000 in
theorem own_rm2 (l : Launch) (Z : State) (a0 : Array Value) (hw : ∀ d ∈ tables_1, d.before a0 Z = true) (ws : List Jvm.Cond) (v : Int64) (b' : Int32) (h0 : Heap) (n0 : Nat) (Z0 : n0 ≤ h0.size)  :
    MetFree l (⟨"com/example/adjacency/adjacency/identity/NodeNameParsePinLaw", "ch", "(JZ)C"⟩ : MethodName) (head1 (Jvm.Cond.code (⟨"com/example/adjacency/adjacency/identity/NodeNameParsePinLaw", "ch", "(JZ)C"⟩ : MethodName) method_2_code 4 (some .char) :: ws) ({ frames := 0, cells := 0, slots := 0, locals := 0 } : Room)) (fun a_ U_ => a_ = #[(.long v), (.int b')] ∧ Z.Warmed39 U_.vm ∧ U_.heap = h0) (fun _ _ _ _ _ => True) (fun _ U_ o_ V_ => ∃ v_ L_, o_ = .returned v_ ∧ own_Q2 Z v b' h0 n0 v_ V_.heap L_ ∧ FrameEnd U_ o_ V_ L_ ({ frames := 0, cells := 0, slots := 0, locals := 0 } : Room).cells ({ frames := 0, cells := 0, slots := 0, locals := 0 } : Room).slots) := by
  refine MetFree.of_bodySF (plainFor_of_name own_pn_com_example_adjacency_adjacency_identity_NodeNameParsePinLaw) hisR ?_
  intro p e s m args below meth c s₁ Bd hml0 hP hK
  obtain ⟨rfl, hZ, hh⟩ := hP
  have hx := Bd.exec
  have hby := Bd.bytes
  have hml : c.maxLocals = 4 := hml0
  have hown : s.vm.findClass "com/example/adjacency/adjacency/identity/NodeNameParsePinLaw" = some m.cls := findClass_of_methodNamed Bd.named
  have hnm := (name_of_methodNamed Bd.named Bd.method).1
  have X0 : Stand p l e ({ frames := 0, cells := 0, slots := 0, locals := 0 } : Room) s m #[(.long v), (.int b')] below meth c s₁ [] 0 0 := Stand.of_body Bd
  have e0 : s₁.heap = h0 := by rw [← hh, Bd.state]; rfl
  have N0 := Fr.nil n0
  show own_G p e below s (own_Q2 Z v b' h0 n0) ({ frames := 0, cells := 0, slots := 0, locals := 0 } : Room).cells ({ frames := 0, cells := 0, slots := 0, locals := 0 } : Room).slots s₁ (entryFrame m #[(.long v), (.int b')] 4)
  rw [own_rm2_ef]
  refine own_w (T' := s₁) (g' := (mkF m 1 #[.val (.long v), .second, .val (.int b'), .unset] [(.long v)])) (fun _ k_ => XS.lloadN X0.here hx rfl (hb hby own_d2_0) rfl k_) ?_
  refine own_w (T' := s₁) (g' := (mkF m 4 #[.val (.long v), .second, .val (.int b'), .unset] [(.long (1048575 : Int64)), (.long v)])) (X0.ldc2Long hx hown (mvT hZ (hw _ (List.mem_of_getElem? (i := 8) rfl))) (g := (mkF m 1 #[.val (.long v), .second, .val (.int b'), .unset] [(.long v)])) rfl (hb hby own_d2_1)) ?_
  refine own_w (T' := s₁) (g' := (mkF m 5 #[.val (.long v), .second, .val (.int b'), .unset] [(.long (v &&& (1048575 : Int64)))])) (fun _ k_ => XS.land X0.here hx rfl (hb hby own_d2_4) rfl k_) ?_
  refine own_w (T' := s₁) (g' := (mkF m 6 #[.val (.long v), .second, .val (.int b'), .unset] [(.int b'), (.long (v &&& (1048575 : Int64)))])) (fun _ k_ => XS.iloadN X0.here hx rfl (hb hby own_d2_5) rfl k_) ?_
  by_cases hc6 : b' = (0 : Int32)
  · refine own_w (T' := s₁) (g' := (mkF m 14 #[.val (.long v), .second, .val (.int b'), .unset] [(.long (v &&& (1048575 : Int64)))])) (fun _ k_ => XS.ifYes X0.here hx rfl (pc0 := 6) (pc' := 14) rfl (hb hby own_d2_6) rfl ((if0 _ _).trans (teq hc6).1) (by decide) (by decide) k_) ?_
    refine own_w (T' := s₁) (g' := (mkF m 16 #[.val (.long v), .second, .val (.int b'), .unset] [(.int (36 : Int32)), (.long (v &&& (1048575 : Int64)))])) (fun _ k_ => XS.bipush X0.here hx rfl (hb hby own_d2_14) k_) ?_
    refine own_w (T' := s₁) (g' := (mkF m 17 #[.val (.long v), .second, .val (.int b'), .unset] [(.long (36 : Int64)), (.long (v &&& (1048575 : Int64)))])) (fun _ k_ => XS.i2l X0.here hx rfl (hb hby own_d2_16) rfl k_) ?_
    refine own_w (T' := s₁) (g' := (mkF m 18 #[.val (.long v), .second, .val (.int b'), .unset] [(.long ((v &&& (1048575 : Int64)) - ((v &&& (1048575 : Int64)) / (36 : Int64)) * (36 : Int64)))])) (fun _ k_ => XS.lrem X0.here hx rfl (hb hby own_d2_17) rfl (by decide) k_) ?_
    refine own_w (T' := s₁) (g' := (mkF m 19 #[.val (.long v), .second, .val (.int b'), .unset] [(.int (((v &&& (1048575 : Int64)) - ((v &&& (1048575 : Int64)) / (36 : Int64)) * (36 : Int64)).toInt32))])) (fun _ k_ => XS.l2i X0.here hx rfl (hb hby own_d2_18) rfl k_) ?_
    refine own_w (T' := s₁) (g' := (mkF m 20 #[.val (.long v), .second, .val (.int b'), .val (.int (((v &&& (1048575 : Int64)) - ((v &&& (1048575 : Int64)) / (36 : Int64)) * (36 : Int64)).toInt32))] [])) (fun _ k_ => XS.istoreN X0.here hx rfl (hb hby own_d2_19) rfl (l' := #[.val (.long v), .second, .val (.int b'), .val (.int (((v &&& (1048575 : Int64)) - ((v &&& (1048575 : Int64)) / (36 : Int64)) * (36 : Int64)).toInt32))]) rfl k_) ?_
    refine own_w (T' := s₁) (g' := (mkF m 21 #[.val (.long v), .second, .val (.int b'), .val (.int (((v &&& (1048575 : Int64)) - ((v &&& (1048575 : Int64)) / (36 : Int64)) * (36 : Int64)).toInt32))] [(.int (((v &&& (1048575 : Int64)) - ((v &&& (1048575 : Int64)) / (36 : Int64)) * (36 : Int64)).toInt32))])) (fun _ k_ => XS.iloadN X0.here hx rfl (hb hby own_d2_20) rfl k_) ?_
    refine own_w (T' := s₁) (g' := (mkF m 23 #[.val (.long v), .second, .val (.int b'), .val (.int (((v &&& (1048575 : Int64)) - ((v &&& (1048575 : Int64)) / (36 : Int64)) * (36 : Int64)).toInt32))] [(.int (26 : Int32)), (.int (((v &&& (1048575 : Int64)) - ((v &&& (1048575 : Int64)) / (36 : Int64)) * (36 : Int64)).toInt32))])) (fun _ k_ => XS.bipush X0.here hx rfl (hb hby own_d2_21) k_) ?_
    have hr' := own_rm (v := v) (d := (36 : Int64)) 36 (by decide) (by decide) (by decide)
    by_cases hc23 : (((v &&& (1048575 : Int64)) - ((v &&& (1048575 : Int64)) / (36 : Int64)) * (36 : Int64)).toInt32) < (26 : Int32)
    · refine own_w (T' := s₁) (g' := (mkF m 26 #[.val (.long v), .second, .val (.int b'), .val (.int (((v &&& (1048575 : Int64)) - ((v &&& (1048575 : Int64)) / (36 : Int64)) * (36 : Int64)).toInt32))] [])) (fun _ k_ => XS.icmpNo X0.here hx rfl (hb hby own_d2_23) rfl (tlt hc23).2.1 k_) ?_
      refine own_w (T' := s₁) (g' := (mkF m 28 #[.val (.long v), .second, .val (.int b'), .val (.int (((v &&& (1048575 : Int64)) - ((v &&& (1048575 : Int64)) / (36 : Int64)) * (36 : Int64)).toInt32))] [(.int (97 : Int32))])) (fun _ k_ => XS.bipush X0.here hx rfl (hb hby own_d2_26) k_) ?_
      refine own_w (T' := s₁) (g' := (mkF m 29 #[.val (.long v), .second, .val (.int b'), .val (.int (((v &&& (1048575 : Int64)) - ((v &&& (1048575 : Int64)) / (36 : Int64)) * (36 : Int64)).toInt32))] [(.int (((v &&& (1048575 : Int64)) - ((v &&& (1048575 : Int64)) / (36 : Int64)) * (36 : Int64)).toInt32)), (.int (97 : Int32))])) (fun _ k_ => XS.iloadN X0.here hx rfl (hb hby own_d2_28) rfl k_) ?_
      refine own_w (T' := s₁) (g' := (mkF m 30 #[.val (.long v), .second, .val (.int b'), .val (.int (((v &&& (1048575 : Int64)) - ((v &&& (1048575 : Int64)) / (36 : Int64)) * (36 : Int64)).toInt32))] [(.int ((97 : Int32) + (((v &&& (1048575 : Int64)) - ((v &&& (1048575 : Int64)) / (36 : Int64)) * (36 : Int64)).toInt32)))])) (fun _ k_ => XS.iadd X0.here hx rfl (hb hby own_d2_29) rfl k_) ?_
      refine own_w (T' := s₁) (g' := (mkF m 31 #[.val (.long v), .second, .val (.int b'), .val (.int (((v &&& (1048575 : Int64)) - ((v &&& (1048575 : Int64)) / (36 : Int64)) * (36 : Int64)).toInt32))] [(.int (((97 : Int32) + (((v &&& (1048575 : Int64)) - ((v &&& (1048575 : Int64)) / (36 : Int64)) * (36 : Int64)).toInt32)).toUInt32.toUInt16.toUInt32.toInt32))])) (fun _ k_ => XS.i2c X0.here hx rfl (hb hby own_d2_30) rfl k_) ?_
      obtain ⟨fs, hr, hrun, hended, hW, hsame⟩ := X0.leave (v := some (.int (((97 : Int32) + (((v &&& (1048575 : Int64)) - ((v &&& (1048575 : Int64)) / (36 : Int64)) * (36 : Int64)).toInt32)).toUInt32.toUInt16.toUInt32.toInt32))) (fun h => by rw [Bd.returns] at h; cases h)
      exact ⟨_, _, retOut X0 hx Bd.returns (show narrow .char (.int (((97 : Int32) + (((v &&& (1048575 : Int64)) - ((v &&& (1048575 : Int64)) / (36 : Int64)) * (36 : Int64)).toInt32)).toUInt32.toUInt16.toUInt32.toInt32)) = (.int (((97 : Int32) + (((v &&& (1048575 : Int64)) - ((v &&& (1048575 : Int64)) / (36 : Int64)) * (36 : Int64)).toInt32)).toUInt32.toUInt16.toUInt32.toInt32)) from congrArg Value.int (own_i2c2 _)) (Or.inl ⟨rfl, Or.inr (Or.inr (Or.inr (Or.inl rfl))), _, rfl⟩) (hb hby own_d2_31) hr, hrun, hended, _, _, rfl, (by show own_Q2 Z v b' h0 n0 _ s₁.heap _; rw [e0]; exact ⟨_, rfl, N0, rfl, (own_c97 hr'.1 hc23).1, (fun _ => (own_c97 hr'.1 hc23).2)⟩), ⟨_, rfl⟩, hW, hsame.mono (by decide) (by decide)⟩
    · refine own_w (T' := s₁) (g' := (mkF m 32 #[.val (.long v), .second, .val (.int b'), .val (.int (((v &&& (1048575 : Int64)) - ((v &&& (1048575 : Int64)) / (36 : Int64)) * (36 : Int64)).toInt32))] [])) (fun _ k_ => XS.icmpYes X0.here hx rfl (pc0 := 23) (pc' := 32) rfl (hb hby own_d2_23) rfl (flt hc23).2.1 (by decide) (by decide) k_) ?_
      refine own_w (T' := s₁) (g' := (mkF m 33 #[.val (.long v), .second, .val (.int b'), .val (.int (((v &&& (1048575 : Int64)) - ((v &&& (1048575 : Int64)) / (36 : Int64)) * (36 : Int64)).toInt32))] [(.int (((v &&& (1048575 : Int64)) - ((v &&& (1048575 : Int64)) / (36 : Int64)) * (36 : Int64)).toInt32))])) (fun _ k_ => XS.iloadN X0.here hx rfl (hb hby own_d2_32) rfl k_) ?_
      refine own_w (T' := s₁) (g' := (mkF m 35 #[.val (.long v), .second, .val (.int b'), .val (.int (((v &&& (1048575 : Int64)) - ((v &&& (1048575 : Int64)) / (36 : Int64)) * (36 : Int64)).toInt32))] [(.int (36 : Int32)), (.int (((v &&& (1048575 : Int64)) - ((v &&& (1048575 : Int64)) / (36 : Int64)) * (36 : Int64)).toInt32))])) (fun _ k_ => XS.bipush X0.here hx rfl (hb hby own_d2_33) k_) ?_
      have hlt : (((v &&& (1048575 : Int64)) - ((v &&& (1048575 : Int64)) / (36 : Int64)) * (36 : Int64)).toInt32) < (36 : Int32) := by rw [Int32.lt_iff_toInt_lt, show (36 : Int32).toInt = 36 by decide]; exact hr'.2
      refine own_w (T' := s₁) (g' := (mkF m 38 #[.val (.long v), .second, .val (.int b'), .val (.int (((v &&& (1048575 : Int64)) - ((v &&& (1048575 : Int64)) / (36 : Int64)) * (36 : Int64)).toInt32))] [])) (fun _ k_ => XS.icmpNo X0.here hx rfl (hb hby own_d2_35) rfl (tlt hlt).2.1 k_) ?_
      refine own_w (T' := s₁) (g' := (mkF m 40 #[.val (.long v), .second, .val (.int b'), .val (.int (((v &&& (1048575 : Int64)) - ((v &&& (1048575 : Int64)) / (36 : Int64)) * (36 : Int64)).toInt32))] [(.int (48 : Int32))])) (fun _ k_ => XS.bipush X0.here hx rfl (hb hby own_d2_38) k_) ?_
      refine own_w (T' := s₁) (g' := (mkF m 41 #[.val (.long v), .second, .val (.int b'), .val (.int (((v &&& (1048575 : Int64)) - ((v &&& (1048575 : Int64)) / (36 : Int64)) * (36 : Int64)).toInt32))] [(.int (((v &&& (1048575 : Int64)) - ((v &&& (1048575 : Int64)) / (36 : Int64)) * (36 : Int64)).toInt32)), (.int (48 : Int32))])) (fun _ k_ => XS.iloadN X0.here hx rfl (hb hby own_d2_40) rfl k_) ?_
      refine own_w (T' := s₁) (g' := (mkF m 43 #[.val (.long v), .second, .val (.int b'), .val (.int (((v &&& (1048575 : Int64)) - ((v &&& (1048575 : Int64)) / (36 : Int64)) * (36 : Int64)).toInt32))] [(.int (26 : Int32)), (.int (((v &&& (1048575 : Int64)) - ((v &&& (1048575 : Int64)) / (36 : Int64)) * (36 : Int64)).toInt32)), (.int (48 : Int32))])) (fun _ k_ => XS.bipush X0.here hx rfl (hb hby own_d2_41) k_) ?_
      refine own_w (T' := s₁) (g' := (mkF m 44 #[.val (.long v), .second, .val (.int b'), .val (.int (((v &&& (1048575 : Int64)) - ((v &&& (1048575 : Int64)) / (36 : Int64)) * (36 : Int64)).toInt32))] [(.int ((((v &&& (1048575 : Int64)) - ((v &&& (1048575 : Int64)) / (36 : Int64)) * (36 : Int64)).toInt32) - (26 : Int32))), (.int (48 : Int32))])) (fun _ k_ => XS.isub X0.here hx rfl (hb hby own_d2_43) rfl k_) ?_
      refine own_w (T' := s₁) (g' := (mkF m 45 #[.val (.long v), .second, .val (.int b'), .val (.int (((v &&& (1048575 : Int64)) - ((v &&& (1048575 : Int64)) / (36 : Int64)) * (36 : Int64)).toInt32))] [(.int ((48 : Int32) + ((((v &&& (1048575 : Int64)) - ((v &&& (1048575 : Int64)) / (36 : Int64)) * (36 : Int64)).toInt32) - (26 : Int32))))])) (fun _ k_ => XS.iadd X0.here hx rfl (hb hby own_d2_44) rfl k_) ?_
      refine own_w (T' := s₁) (g' := (mkF m 46 #[.val (.long v), .second, .val (.int b'), .val (.int (((v &&& (1048575 : Int64)) - ((v &&& (1048575 : Int64)) / (36 : Int64)) * (36 : Int64)).toInt32))] [(.int (((48 : Int32) + ((((v &&& (1048575 : Int64)) - ((v &&& (1048575 : Int64)) / (36 : Int64)) * (36 : Int64)).toInt32) - (26 : Int32))).toUInt32.toUInt16.toUInt32.toInt32))])) (fun _ k_ => XS.i2c X0.here hx rfl (hb hby own_d2_45) rfl k_) ?_
      obtain ⟨fs, hr, hrun, hended, hW, hsame⟩ := X0.leave (v := some (.int (((48 : Int32) + ((((v &&& (1048575 : Int64)) - ((v &&& (1048575 : Int64)) / (36 : Int64)) * (36 : Int64)).toInt32) - (26 : Int32))).toUInt32.toUInt16.toUInt32.toInt32))) (fun h => by rw [Bd.returns] at h; cases h)
      exact ⟨_, _, retOut X0 hx Bd.returns (show narrow .char (.int (((48 : Int32) + ((((v &&& (1048575 : Int64)) - ((v &&& (1048575 : Int64)) / (36 : Int64)) * (36 : Int64)).toInt32) - (26 : Int32))).toUInt32.toUInt16.toUInt32.toInt32)) = (.int (((48 : Int32) + ((((v &&& (1048575 : Int64)) - ((v &&& (1048575 : Int64)) / (36 : Int64)) * (36 : Int64)).toInt32) - (26 : Int32))).toUInt32.toUInt16.toUInt32.toInt32)) from congrArg Value.int (own_i2c2 _)) (Or.inl ⟨rfl, Or.inr (Or.inr (Or.inr (Or.inl rfl))), _, rfl⟩) (hb hby own_d2_46) hr, hrun, hended, _, _, rfl, (by show own_Q2 Z v b' h0 n0 _ s₁.heap _; rw [e0]; exact ⟨_, rfl, N0, rfl, (own_c48 hc23 hlt).1, (fun _ => (own_c48 hc23 hlt).2)⟩), ⟨_, rfl⟩, hW, hsame.mono (by decide) (by decide)⟩
  · refine own_w (T' := s₁) (g' := (mkF m 9 #[.val (.long v), .second, .val (.int b'), .unset] [(.long (v &&& (1048575 : Int64)))])) (fun _ k_ => XS.ifNo X0.here hx rfl (hb hby own_d2_6) rfl ((if0 _ _).trans (feq hc6).1) k_) ?_
    refine own_w (T' := s₁) (g' := (mkF m 11 #[.val (.long v), .second, .val (.int b'), .unset] [(.int (37 : Int32)), (.long (v &&& (1048575 : Int64)))])) (fun _ k_ => XS.bipush X0.here hx rfl (hb hby own_d2_9) k_) ?_
    refine own_w (T' := s₁) (g' := (mkF m 16 #[.val (.long v), .second, .val (.int b'), .unset] [(.int (37 : Int32)), (.long (v &&& (1048575 : Int64)))])) (fun _ k_ => XS.goto X0.here hx rfl (pc0 := 11) (pc' := 16) rfl (hb hby own_d2_11) (by decide) (by decide) k_) ?_
    refine own_w (T' := s₁) (g' := (mkF m 17 #[.val (.long v), .second, .val (.int b'), .unset] [(.long (37 : Int64)), (.long (v &&& (1048575 : Int64)))])) (fun _ k_ => XS.i2l X0.here hx rfl (hb hby own_d2_16) rfl k_) ?_
    refine own_w (T' := s₁) (g' := (mkF m 18 #[.val (.long v), .second, .val (.int b'), .unset] [(.long ((v &&& (1048575 : Int64)) - ((v &&& (1048575 : Int64)) / (37 : Int64)) * (37 : Int64)))])) (fun _ k_ => XS.lrem X0.here hx rfl (hb hby own_d2_17) rfl (by decide) k_) ?_
    refine own_w (T' := s₁) (g' := (mkF m 19 #[.val (.long v), .second, .val (.int b'), .unset] [(.int (((v &&& (1048575 : Int64)) - ((v &&& (1048575 : Int64)) / (37 : Int64)) * (37 : Int64)).toInt32))])) (fun _ k_ => XS.l2i X0.here hx rfl (hb hby own_d2_18) rfl k_) ?_
    refine own_w (T' := s₁) (g' := (mkF m 20 #[.val (.long v), .second, .val (.int b'), .val (.int (((v &&& (1048575 : Int64)) - ((v &&& (1048575 : Int64)) / (37 : Int64)) * (37 : Int64)).toInt32))] [])) (fun _ k_ => XS.istoreN X0.here hx rfl (hb hby own_d2_19) rfl (l' := #[.val (.long v), .second, .val (.int b'), .val (.int (((v &&& (1048575 : Int64)) - ((v &&& (1048575 : Int64)) / (37 : Int64)) * (37 : Int64)).toInt32))]) rfl k_) ?_
    refine own_w (T' := s₁) (g' := (mkF m 21 #[.val (.long v), .second, .val (.int b'), .val (.int (((v &&& (1048575 : Int64)) - ((v &&& (1048575 : Int64)) / (37 : Int64)) * (37 : Int64)).toInt32))] [(.int (((v &&& (1048575 : Int64)) - ((v &&& (1048575 : Int64)) / (37 : Int64)) * (37 : Int64)).toInt32))])) (fun _ k_ => XS.iloadN X0.here hx rfl (hb hby own_d2_20) rfl k_) ?_
    refine own_w (T' := s₁) (g' := (mkF m 23 #[.val (.long v), .second, .val (.int b'), .val (.int (((v &&& (1048575 : Int64)) - ((v &&& (1048575 : Int64)) / (37 : Int64)) * (37 : Int64)).toInt32))] [(.int (26 : Int32)), (.int (((v &&& (1048575 : Int64)) - ((v &&& (1048575 : Int64)) / (37 : Int64)) * (37 : Int64)).toInt32))])) (fun _ k_ => XS.bipush X0.here hx rfl (hb hby own_d2_21) k_) ?_
    have hr' := own_rm (v := v) (d := (37 : Int64)) 37 (by decide) (by decide) (by decide)
    by_cases hc23 : (((v &&& (1048575 : Int64)) - ((v &&& (1048575 : Int64)) / (37 : Int64)) * (37 : Int64)).toInt32) < (26 : Int32)
    · refine own_w (T' := s₁) (g' := (mkF m 26 #[.val (.long v), .second, .val (.int b'), .val (.int (((v &&& (1048575 : Int64)) - ((v &&& (1048575 : Int64)) / (37 : Int64)) * (37 : Int64)).toInt32))] [])) (fun _ k_ => XS.icmpNo X0.here hx rfl (hb hby own_d2_23) rfl (tlt hc23).2.1 k_) ?_
      refine own_w (T' := s₁) (g' := (mkF m 28 #[.val (.long v), .second, .val (.int b'), .val (.int (((v &&& (1048575 : Int64)) - ((v &&& (1048575 : Int64)) / (37 : Int64)) * (37 : Int64)).toInt32))] [(.int (97 : Int32))])) (fun _ k_ => XS.bipush X0.here hx rfl (hb hby own_d2_26) k_) ?_
      refine own_w (T' := s₁) (g' := (mkF m 29 #[.val (.long v), .second, .val (.int b'), .val (.int (((v &&& (1048575 : Int64)) - ((v &&& (1048575 : Int64)) / (37 : Int64)) * (37 : Int64)).toInt32))] [(.int (((v &&& (1048575 : Int64)) - ((v &&& (1048575 : Int64)) / (37 : Int64)) * (37 : Int64)).toInt32)), (.int (97 : Int32))])) (fun _ k_ => XS.iloadN X0.here hx rfl (hb hby own_d2_28) rfl k_) ?_
      refine own_w (T' := s₁) (g' := (mkF m 30 #[.val (.long v), .second, .val (.int b'), .val (.int (((v &&& (1048575 : Int64)) - ((v &&& (1048575 : Int64)) / (37 : Int64)) * (37 : Int64)).toInt32))] [(.int ((97 : Int32) + (((v &&& (1048575 : Int64)) - ((v &&& (1048575 : Int64)) / (37 : Int64)) * (37 : Int64)).toInt32)))])) (fun _ k_ => XS.iadd X0.here hx rfl (hb hby own_d2_29) rfl k_) ?_
      refine own_w (T' := s₁) (g' := (mkF m 31 #[.val (.long v), .second, .val (.int b'), .val (.int (((v &&& (1048575 : Int64)) - ((v &&& (1048575 : Int64)) / (37 : Int64)) * (37 : Int64)).toInt32))] [(.int (((97 : Int32) + (((v &&& (1048575 : Int64)) - ((v &&& (1048575 : Int64)) / (37 : Int64)) * (37 : Int64)).toInt32)).toUInt32.toUInt16.toUInt32.toInt32))])) (fun _ k_ => XS.i2c X0.here hx rfl (hb hby own_d2_30) rfl k_) ?_
      obtain ⟨fs, hr, hrun, hended, hW, hsame⟩ := X0.leave (v := some (.int (((97 : Int32) + (((v &&& (1048575 : Int64)) - ((v &&& (1048575 : Int64)) / (37 : Int64)) * (37 : Int64)).toInt32)).toUInt32.toUInt16.toUInt32.toInt32))) (fun h => by rw [Bd.returns] at h; cases h)
      exact ⟨_, _, retOut X0 hx Bd.returns (show narrow .char (.int (((97 : Int32) + (((v &&& (1048575 : Int64)) - ((v &&& (1048575 : Int64)) / (37 : Int64)) * (37 : Int64)).toInt32)).toUInt32.toUInt16.toUInt32.toInt32)) = (.int (((97 : Int32) + (((v &&& (1048575 : Int64)) - ((v &&& (1048575 : Int64)) / (37 : Int64)) * (37 : Int64)).toInt32)).toUInt32.toUInt16.toUInt32.toInt32)) from congrArg Value.int (own_i2c2 _)) (Or.inl ⟨rfl, Or.inr (Or.inr (Or.inr (Or.inl rfl))), _, rfl⟩) (hb hby own_d2_31) hr, hrun, hended, _, _, rfl, (by show own_Q2 Z v b' h0 n0 _ s₁.heap _; rw [e0]; exact ⟨_, rfl, N0, rfl, (own_c97 hr'.1 hc23).1, (fun _ => (own_c97 hr'.1 hc23).2)⟩), ⟨_, rfl⟩, hW, hsame.mono (by decide) (by decide)⟩
    · refine own_w (T' := s₁) (g' := (mkF m 32 #[.val (.long v), .second, .val (.int b'), .val (.int (((v &&& (1048575 : Int64)) - ((v &&& (1048575 : Int64)) / (37 : Int64)) * (37 : Int64)).toInt32))] [])) (fun _ k_ => XS.icmpYes X0.here hx rfl (pc0 := 23) (pc' := 32) rfl (hb hby own_d2_23) rfl (flt hc23).2.1 (by decide) (by decide) k_) ?_
      refine own_w (T' := s₁) (g' := (mkF m 33 #[.val (.long v), .second, .val (.int b'), .val (.int (((v &&& (1048575 : Int64)) - ((v &&& (1048575 : Int64)) / (37 : Int64)) * (37 : Int64)).toInt32))] [(.int (((v &&& (1048575 : Int64)) - ((v &&& (1048575 : Int64)) / (37 : Int64)) * (37 : Int64)).toInt32))])) (fun _ k_ => XS.iloadN X0.here hx rfl (hb hby own_d2_32) rfl k_) ?_
      refine own_w (T' := s₁) (g' := (mkF m 35 #[.val (.long v), .second, .val (.int b'), .val (.int (((v &&& (1048575 : Int64)) - ((v &&& (1048575 : Int64)) / (37 : Int64)) * (37 : Int64)).toInt32))] [(.int (36 : Int32)), (.int (((v &&& (1048575 : Int64)) - ((v &&& (1048575 : Int64)) / (37 : Int64)) * (37 : Int64)).toInt32))])) (fun _ k_ => XS.bipush X0.here hx rfl (hb hby own_d2_33) k_) ?_
      by_cases hc35 : (((v &&& (1048575 : Int64)) - ((v &&& (1048575 : Int64)) / (37 : Int64)) * (37 : Int64)).toInt32) < (36 : Int32)
      · refine own_w (T' := s₁) (g' := (mkF m 38 #[.val (.long v), .second, .val (.int b'), .val (.int (((v &&& (1048575 : Int64)) - ((v &&& (1048575 : Int64)) / (37 : Int64)) * (37 : Int64)).toInt32))] [])) (fun _ k_ => XS.icmpNo X0.here hx rfl (hb hby own_d2_35) rfl (tlt hc35).2.1 k_) ?_
        refine own_w (T' := s₁) (g' := (mkF m 40 #[.val (.long v), .second, .val (.int b'), .val (.int (((v &&& (1048575 : Int64)) - ((v &&& (1048575 : Int64)) / (37 : Int64)) * (37 : Int64)).toInt32))] [(.int (48 : Int32))])) (fun _ k_ => XS.bipush X0.here hx rfl (hb hby own_d2_38) k_) ?_
        refine own_w (T' := s₁) (g' := (mkF m 41 #[.val (.long v), .second, .val (.int b'), .val (.int (((v &&& (1048575 : Int64)) - ((v &&& (1048575 : Int64)) / (37 : Int64)) * (37 : Int64)).toInt32))] [(.int (((v &&& (1048575 : Int64)) - ((v &&& (1048575 : Int64)) / (37 : Int64)) * (37 : Int64)).toInt32)), (.int (48 : Int32))])) (fun _ k_ => XS.iloadN X0.here hx rfl (hb hby own_d2_40) rfl k_) ?_
        refine own_w (T' := s₁) (g' := (mkF m 43 #[.val (.long v), .second, .val (.int b'), .val (.int (((v &&& (1048575 : Int64)) - ((v &&& (1048575 : Int64)) / (37 : Int64)) * (37 : Int64)).toInt32))] [(.int (26 : Int32)), (.int (((v &&& (1048575 : Int64)) - ((v &&& (1048575 : Int64)) / (37 : Int64)) * (37 : Int64)).toInt32)), (.int (48 : Int32))])) (fun _ k_ => XS.bipush X0.here hx rfl (hb hby own_d2_41) k_) ?_
        refine own_w (T' := s₁) (g' := (mkF m 44 #[.val (.long v), .second, .val (.int b'), .val (.int (((v &&& (1048575 : Int64)) - ((v &&& (1048575 : Int64)) / (37 : Int64)) * (37 : Int64)).toInt32))] [(.int ((((v &&& (1048575 : Int64)) - ((v &&& (1048575 : Int64)) / (37 : Int64)) * (37 : Int64)).toInt32) - (26 : Int32))), (.int (48 : Int32))])) (fun _ k_ => XS.isub X0.here hx rfl (hb hby own_d2_43) rfl k_) ?_
        refine own_w (T' := s₁) (g' := (mkF m 45 #[.val (.long v), .second, .val (.int b'), .val (.int (((v &&& (1048575 : Int64)) - ((v &&& (1048575 : Int64)) / (37 : Int64)) * (37 : Int64)).toInt32))] [(.int ((48 : Int32) + ((((v &&& (1048575 : Int64)) - ((v &&& (1048575 : Int64)) / (37 : Int64)) * (37 : Int64)).toInt32) - (26 : Int32))))])) (fun _ k_ => XS.iadd X0.here hx rfl (hb hby own_d2_44) rfl k_) ?_
        refine own_w (T' := s₁) (g' := (mkF m 46 #[.val (.long v), .second, .val (.int b'), .val (.int (((v &&& (1048575 : Int64)) - ((v &&& (1048575 : Int64)) / (37 : Int64)) * (37 : Int64)).toInt32))] [(.int (((48 : Int32) + ((((v &&& (1048575 : Int64)) - ((v &&& (1048575 : Int64)) / (37 : Int64)) * (37 : Int64)).toInt32) - (26 : Int32))).toUInt32.toUInt16.toUInt32.toInt32))])) (fun _ k_ => XS.i2c X0.here hx rfl (hb hby own_d2_45) rfl k_) ?_
        obtain ⟨fs, hr, hrun, hended, hW, hsame⟩ := X0.leave (v := some (.int (((48 : Int32) + ((((v &&& (1048575 : Int64)) - ((v &&& (1048575 : Int64)) / (37 : Int64)) * (37 : Int64)).toInt32) - (26 : Int32))).toUInt32.toUInt16.toUInt32.toInt32))) (fun h => by rw [Bd.returns] at h; cases h)
        exact ⟨_, _, retOut X0 hx Bd.returns (show narrow .char (.int (((48 : Int32) + ((((v &&& (1048575 : Int64)) - ((v &&& (1048575 : Int64)) / (37 : Int64)) * (37 : Int64)).toInt32) - (26 : Int32))).toUInt32.toUInt16.toUInt32.toInt32)) = (.int (((48 : Int32) + ((((v &&& (1048575 : Int64)) - ((v &&& (1048575 : Int64)) / (37 : Int64)) * (37 : Int64)).toInt32) - (26 : Int32))).toUInt32.toUInt16.toUInt32.toInt32)) from congrArg Value.int (own_i2c2 _)) (Or.inl ⟨rfl, Or.inr (Or.inr (Or.inr (Or.inl rfl))), _, rfl⟩) (hb hby own_d2_46) hr, hrun, hended, _, _, rfl, (by show own_Q2 Z v b' h0 n0 _ s₁.heap _; rw [e0]; exact ⟨_, rfl, N0, rfl, (own_c48 hc23 hc35).1, (fun _ => (own_c48 hc23 hc35).2)⟩), ⟨_, rfl⟩, hW, hsame.mono (by decide) (by decide)⟩
      · refine own_w (T' := s₁) (g' := (mkF m 47 #[.val (.long v), .second, .val (.int b'), .val (.int (((v &&& (1048575 : Int64)) - ((v &&& (1048575 : Int64)) / (37 : Int64)) * (37 : Int64)).toInt32))] [])) (fun _ k_ => XS.icmpYes X0.here hx rfl (pc0 := 35) (pc' := 47) rfl (hb hby own_d2_35) rfl (flt hc35).2.1 (by decide) (by decide) k_) ?_
        refine own_w (T' := s₁) (g' := (mkF m 49 #[.val (.long v), .second, .val (.int b'), .val (.int (((v &&& (1048575 : Int64)) - ((v &&& (1048575 : Int64)) / (37 : Int64)) * (37 : Int64)).toInt32))] [(.int (45 : Int32))])) (fun _ k_ => XS.bipush X0.here hx rfl (hb hby own_d2_47) k_) ?_
        obtain ⟨fs, hr, hrun, hended, hW, hsame⟩ := X0.leave (v := some (.int (45 : Int32))) (fun h => by rw [Bd.returns] at h; cases h)
        exact ⟨_, _, retOut X0 hx Bd.returns rfl (Or.inl ⟨rfl, Or.inr (Or.inr (Or.inr (Or.inl rfl))), _, rfl⟩) (hb hby own_d2_49) hr, hrun, hended, _, _, rfl, (by show own_Q2 Z v b' h0 n0 _ s₁.heap _; rw [e0]; exact ⟨_, rfl, N0, rfl, (by decide), (fun q => absurd q hc6)⟩), ⟨_, rfl⟩, hW, hsame.mono (by decide) (by decide)⟩
theorem own_d1_0 : decode method_3_code 0 = .ok (.iload_n 0, 1) := by decide +kernel
theorem own_d1_1 : decode method_3_code 1 = .ok (.iload_n 1, 1) := by decide +kernel
theorem own_d1_2 : decode method_3_code 2 = .ok (.ishr, 1) := by decide +kernel
theorem own_d1_3 : decode method_3_code 3 = .ok (.iconst 1, 1) := by decide +kernel
theorem own_d1_4 : decode method_3_code 4 = .ok (.iand, 1) := by decide +kernel
theorem own_d1_5 : decode method_3_code 5 = .ok (.ifCond .eq 6, 3) := by decide +kernel
theorem own_d1_8 : decode method_3_code 8 = .ok (.bipush 46, 2) := by decide +kernel
theorem own_d1_10 : decode method_3_code 10 = .ok (.ireturn, 1) := by decide +kernel
theorem own_rm1_d_ef (m : MethodId) (m' : Int32) (i' : Int32) (v : Int64) : entryFrame m #[(.int m'), (.int i'), (.long v)] 5 = mkF m 0 #[.val (.int m'), .val (.int i'), .val (.long v), .second, .unset] [] := by first | (simp [entryFrame, mkF, argsToLocals, Value.category]; done) | rfl
def own_Q1_d (Z : State) (m' : Int32) (i' : Int32) (v : Int64) (h0 : Heap) (n0 : Nat) (v_ : Option Value) (h : Heap) (L_ : List Loc) : Prop := v_ = some (.int (46 : Int32)) ∧ Fr n0 L_ ∧ (h = h0)
set_option maxRecDepth 65536 in
set_option maxHeartbeats 40000000 in
theorem own_rm1_d (l : Launch) (Z : State) (a0 : Array Value) (hw : ∀ d ∈ tables_1, d.before a0 Z = true) (ws : List Jvm.Cond) (m' : Int32) (i' : Int32) (v : Int64) (h0 : Heap) (n0 : Nat) (Z0 : n0 ≤ h0.size) (hd : ¬ ((m' >>> (i' &&& 31)) &&& (1 : Int32)) = (0 : Int32)) :
    MetFree l (⟨"com/example/adjacency/adjacency/identity/NodeNameParsePinLaw", "pos", "(IIJ)C"⟩ : MethodName) (head1 (Jvm.Cond.code (⟨"com/example/adjacency/adjacency/identity/NodeNameParsePinLaw", "pos", "(IIJ)C"⟩ : MethodName) method_3_code 5 (some .char) :: ws) ({ frames := 0, cells := 0, slots := 0, locals := 0 } : Room)) (fun a_ U_ => a_ = #[(.int m'), (.int i'), (.long v)] ∧ Z.Warmed39 U_.vm ∧ U_.heap = h0) (fun _ _ _ _ _ => True) (fun _ U_ o_ V_ => ∃ v_ L_, o_ = .returned v_ ∧ own_Q1_d Z m' i' v h0 n0 v_ V_.heap L_ ∧ FrameEnd U_ o_ V_ L_ ({ frames := 0, cells := 0, slots := 0, locals := 0 } : Room).cells ({ frames := 0, cells := 0, slots := 0, locals := 0 } : Room).slots) := by
  refine MetFree.of_bodySF (plainFor_of_name own_pn_com_example_adjacency_adjacency_identity_NodeNameParsePinLaw) hisR ?_
  intro p e s m args below meth c s₁ Bd hml0 hP hK
  obtain ⟨rfl, hZ, hh⟩ := hP
  have hx := Bd.exec
  have hby := Bd.bytes
  have hml : c.maxLocals = 5 := hml0
  have hown : s.vm.findClass "com/example/adjacency/adjacency/identity/NodeNameParsePinLaw" = some m.cls := findClass_of_methodNamed Bd.named
  have hnm := (name_of_methodNamed Bd.named Bd.method).1
  have X0 : Stand p l e ({ frames := 0, cells := 0, slots := 0, locals := 0 } : Room) s m #[(.int m'), (.int i'), (.long v)] below meth c s₁ [] 0 0 := Stand.of_body Bd
  have e0 : s₁.heap = h0 := by rw [← hh, Bd.state]; rfl
  have N0 := Fr.nil n0
  show own_G p e below s (own_Q1_d Z m' i' v h0 n0) ({ frames := 0, cells := 0, slots := 0, locals := 0 } : Room).cells ({ frames := 0, cells := 0, slots := 0, locals := 0 } : Room).slots s₁ (entryFrame m #[(.int m'), (.int i'), (.long v)] 5)
  rw [own_rm1_d_ef]
  refine own_w (T' := s₁) (g' := (mkF m 1 #[.val (.int m'), .val (.int i'), .val (.long v), .second, .unset] [(.int m')])) (fun _ k_ => XS.iloadN X0.here hx rfl (hb hby own_d1_0) rfl k_) ?_
  refine own_w (T' := s₁) (g' := (mkF m 2 #[.val (.int m'), .val (.int i'), .val (.long v), .second, .unset] [(.int i'), (.int m')])) (fun _ k_ => XS.iloadN X0.here hx rfl (hb hby own_d1_1) rfl k_) ?_
  refine own_w (T' := s₁) (g' := (mkF m 3 #[.val (.int m'), .val (.int i'), .val (.long v), .second, .unset] [(.int (m' >>> (i' &&& 31)))])) (fun _ k_ => XS.ishr X0.here hx rfl (hb hby own_d1_2) rfl k_) ?_
  refine own_w (T' := s₁) (g' := (mkF m 4 #[.val (.int m'), .val (.int i'), .val (.long v), .second, .unset] [(.int (1 : Int32)), (.int (m' >>> (i' &&& 31)))])) (fun _ k_ => XS.iconst X0.here hx rfl (hb hby own_d1_3) k_) ?_
  refine own_w (T' := s₁) (g' := (mkF m 5 #[.val (.int m'), .val (.int i'), .val (.long v), .second, .unset] [(.int ((m' >>> (i' &&& 31)) &&& (1 : Int32)))])) (fun _ k_ => XS.iand X0.here hx rfl (hb hby own_d1_4) rfl k_) ?_
  refine own_w (T' := s₁) (g' := (mkF m 8 #[.val (.int m'), .val (.int i'), .val (.long v), .second, .unset] [])) (fun _ k_ => XS.ifNo X0.here hx rfl (hb hby own_d1_5) rfl ((if0 _ _).trans (feq hd).1) k_) ?_
  refine own_w (T' := s₁) (g' := (mkF m 10 #[.val (.int m'), .val (.int i'), .val (.long v), .second, .unset] [(.int (46 : Int32))])) (fun _ k_ => XS.bipush X0.here hx rfl (hb hby own_d1_8) k_) ?_
  obtain ⟨fs, hr, hrun, hended, hW, hsame⟩ := X0.leave (v := some (.int (46 : Int32))) (fun h => by rw [Bd.returns] at h; cases h)
  exact ⟨_, _, retOut X0 hx Bd.returns rfl (Or.inl ⟨rfl, Or.inr (Or.inr (Or.inr (Or.inl rfl))), _, rfl⟩) (hb hby own_d1_10) hr, hrun, hended, _, _, rfl, (by show own_Q1_d Z m' i' v h0 n0 _ s₁.heap _; rw [e0]; exact ⟨rfl, N0, rfl⟩), ⟨_, rfl⟩, hW, hsame.mono (by decide) (by decide)⟩
theorem own_d1_11 : decode method_3_code 11 = .ok (.iload_n 1, 1) := by decide +kernel
theorem own_d1_12 : decode method_3_code 12 = .ok (.ifCond .le 33, 3) := by decide +kernel
theorem own_d1_15 : decode method_3_code 15 = .ok (.iload_n 1, 1) := by decide +kernel
theorem own_d1_16 : decode method_3_code 16 = .ok (.bipush 6, 2) := by decide +kernel
theorem own_d1_18 : decode method_3_code 18 = .ok (.if_icmp .ge 27, 3) := by decide +kernel
theorem own_d1_21 : decode method_3_code 21 = .ok (.iload_n 0, 1) := by decide +kernel
theorem own_d1_22 : decode method_3_code 22 = .ok (.iload_n 1, 1) := by decide +kernel
theorem own_d1_23 : decode method_3_code 23 = .ok (.iconst 1, 1) := by decide +kernel
theorem own_d1_24 : decode method_3_code 24 = .ok (.isub, 1) := by decide +kernel
theorem own_d1_25 : decode method_3_code 25 = .ok (.ishr, 1) := by decide +kernel
theorem own_d1_26 : decode method_3_code 26 = .ok (.iconst 1, 1) := by decide +kernel
theorem own_d1_27 : decode method_3_code 27 = .ok (.iand, 1) := by decide +kernel
theorem own_d1_28 : decode method_3_code 28 = .ok (.ifCond .ne 17, 3) := by decide +kernel
theorem own_d1_31 : decode method_3_code 31 = .ok (.iload_n 0, 1) := by decide +kernel
theorem own_d1_32 : decode method_3_code 32 = .ok (.iload_n 1, 1) := by decide +kernel
theorem own_d1_33 : decode method_3_code 33 = .ok (.iconst 1, 1) := by decide +kernel
theorem own_d1_34 : decode method_3_code 34 = .ok (.iadd, 1) := by decide +kernel
theorem own_d1_35 : decode method_3_code 35 = .ok (.ishr, 1) := by decide +kernel
theorem own_d1_36 : decode method_3_code 36 = .ok (.iconst 1, 1) := by decide +kernel
theorem own_d1_37 : decode method_3_code 37 = .ok (.iand, 1) := by decide +kernel
theorem own_d1_38 : decode method_3_code 38 = .ok (.ifCond .ne 7, 3) := by decide +kernel
theorem own_d1_41 : decode method_3_code 41 = .ok (.iconst 1, 1) := by decide +kernel
theorem own_d1_42 : decode method_3_code 42 = .ok (.goto 4, 3) := by decide +kernel
theorem own_d1_46 : decode method_3_code 46 = .ok (.istore 4, 2) := by decide +kernel
theorem own_d1_48 : decode method_3_code 48 = .ok (.lload_n 2, 1) := by decide +kernel
theorem own_d1_49 : decode method_3_code 49 = .ok (.iload 4, 2) := by decide +kernel
theorem own_d1_51 : decode method_3_code 51 = .ok (.invokestatic 9, 3) := by decide +kernel
theorem own_pd19 : parseMethodDescriptor "(JZ)C" = some ⟨[.long, .boolean], some .char⟩ := by decide +kernel
theorem own_d1_54 : decode method_3_code 54 = .ok (.ireturn, 1) := by decide +kernel
theorem own_d1_45 : decode method_3_code 45 = .ok (.iconst 0, 1) := by decide +kernel
theorem own_rm1_c_ef (m : MethodId) (m' : Int32) (i' : Int32) (v : Int64) : entryFrame m #[(.int m'), (.int i'), (.long v)] 5 = mkF m 0 #[.val (.int m'), .val (.int i'), .val (.long v), .second, .unset] [] := by first | (simp [entryFrame, mkF, argsToLocals, Value.category]; done) | rfl
def own_Q1_c (Z : State) (m' : Int32) (i' : Int32) (v : Int64) (h0 : Heap) (n0 : Nat) (v_ : Option Value) (h : Heap) (L_ : List Loc) : Prop := ∃ c : Int32, v_ = some (.int c) ∧ Fr n0 L_ ∧ (h = h0) ∧ (own_okc c = true) ∧ (¬ ((0 : Int32) < i' ∧ i' < (6 : Int32) ∧ ((m' >>> ((i' - (1 : Int32)) &&& 31)) &&& (1 : Int32)) = (0 : Int32) ∧ ((m' >>> ((i' + (1 : Int32)) &&& 31)) &&& (1 : Int32)) = (0 : Int32)) → ¬ c = 45)
set_option maxRecDepth 65536 in
set_option maxHeartbeats 40000000 in
theorem own_rm1_c (l : Launch) (Z : State) (a0 : Array Value) (hw : ∀ d ∈ tables_1, d.before a0 Z = true) (ws : List Jvm.Cond) (m' : Int32) (i' : Int32) (v : Int64) (h0 : Heap) (n0 : Nat) (Z0 : n0 ≤ h0.size) (hd : ((m' >>> (i' &&& 31)) &&& (1 : Int32)) = (0 : Int32)) :
    MetFree l (⟨"com/example/adjacency/adjacency/identity/NodeNameParsePinLaw", "pos", "(IIJ)C"⟩ : MethodName) (head1 (Jvm.Cond.code (⟨"com/example/adjacency/adjacency/identity/NodeNameParsePinLaw", "pos", "(IIJ)C"⟩ : MethodName) method_3_code 5 (some .char) :: ws) ({ frames := 1, cells := 0, slots := 0, locals := 15 } : Room)) (fun a_ U_ => a_ = #[(.int m'), (.int i'), (.long v)] ∧ Z.Warmed39 U_.vm ∧ U_.heap = h0) (fun _ _ _ _ _ => True) (fun _ U_ o_ V_ => ∃ v_ L_, o_ = .returned v_ ∧ own_Q1_c Z m' i' v h0 n0 v_ V_.heap L_ ∧ FrameEnd U_ o_ V_ L_ ({ frames := 1, cells := 0, slots := 0, locals := 15 } : Room).cells ({ frames := 1, cells := 0, slots := 0, locals := 15 } : Room).slots) := by
  refine MetFree.of_bodySF (plainFor_of_name own_pn_com_example_adjacency_adjacency_identity_NodeNameParsePinLaw) hisR ?_
  intro p e s m args below meth c s₁ Bd hml0 hP hK
  obtain ⟨rfl, hZ, hh⟩ := hP
  have hx := Bd.exec
  have hby := Bd.bytes
  have hml : c.maxLocals = 5 := hml0
  have hown : s.vm.findClass "com/example/adjacency/adjacency/identity/NodeNameParsePinLaw" = some m.cls := findClass_of_methodNamed Bd.named
  have hnm := (name_of_methodNamed Bd.named Bd.method).1
  have X0 : Stand p l e ({ frames := 1, cells := 0, slots := 0, locals := 15 } : Room) s m #[(.int m'), (.int i'), (.long v)] below meth c s₁ [] 0 0 := Stand.of_body Bd
  have e0 : s₁.heap = h0 := by rw [← hh, Bd.state]; rfl
  have N0 := Fr.nil n0
  show own_G p e below s (own_Q1_c Z m' i' v h0 n0) ({ frames := 1, cells := 0, slots := 0, locals := 15 } : Room).cells ({ frames := 1, cells := 0, slots := 0, locals := 15 } : Room).slots s₁ (entryFrame m #[(.int m'), (.int i'), (.long v)] 5)
  rw [own_rm1_c_ef]
  refine own_w (T' := s₁) (g' := (mkF m 1 #[.val (.int m'), .val (.int i'), .val (.long v), .second, .unset] [(.int m')])) (fun _ k_ => XS.iloadN X0.here hx rfl (hb hby own_d1_0) rfl k_) ?_
  refine own_w (T' := s₁) (g' := (mkF m 2 #[.val (.int m'), .val (.int i'), .val (.long v), .second, .unset] [(.int i'), (.int m')])) (fun _ k_ => XS.iloadN X0.here hx rfl (hb hby own_d1_1) rfl k_) ?_
  refine own_w (T' := s₁) (g' := (mkF m 3 #[.val (.int m'), .val (.int i'), .val (.long v), .second, .unset] [(.int (m' >>> (i' &&& 31)))])) (fun _ k_ => XS.ishr X0.here hx rfl (hb hby own_d1_2) rfl k_) ?_
  refine own_w (T' := s₁) (g' := (mkF m 4 #[.val (.int m'), .val (.int i'), .val (.long v), .second, .unset] [(.int (1 : Int32)), (.int (m' >>> (i' &&& 31)))])) (fun _ k_ => XS.iconst X0.here hx rfl (hb hby own_d1_3) k_) ?_
  refine own_w (T' := s₁) (g' := (mkF m 5 #[.val (.int m'), .val (.int i'), .val (.long v), .second, .unset] [(.int ((m' >>> (i' &&& 31)) &&& (1 : Int32)))])) (fun _ k_ => XS.iand X0.here hx rfl (hb hby own_d1_4) rfl k_) ?_
  refine own_w (T' := s₁) (g' := (mkF m 11 #[.val (.int m'), .val (.int i'), .val (.long v), .second, .unset] [])) (fun _ k_ => XS.ifYes X0.here hx rfl (pc0 := 5) (pc' := 11) rfl (hb hby own_d1_5) rfl ((if0 _ _).trans (teq hd).1) (by decide) (by decide) k_) ?_
  refine own_w (T' := s₁) (g' := (mkF m 12 #[.val (.int m'), .val (.int i'), .val (.long v), .second, .unset] [(.int i')])) (fun _ k_ => XS.iloadN X0.here hx rfl (hb hby own_d1_11) rfl k_) ?_
  by_cases hc12 : (0 : Int32) < i'
  · refine own_w (T' := s₁) (g' := (mkF m 15 #[.val (.int m'), .val (.int i'), .val (.long v), .second, .unset] [])) (fun _ k_ => XS.ifNo X0.here hx rfl (hb hby own_d1_12) rfl ((if0 _ _).trans (tlt hc12).2.2.2) k_) ?_
    refine own_w (T' := s₁) (g' := (mkF m 16 #[.val (.int m'), .val (.int i'), .val (.long v), .second, .unset] [(.int i')])) (fun _ k_ => XS.iloadN X0.here hx rfl (hb hby own_d1_15) rfl k_) ?_
    refine own_w (T' := s₁) (g' := (mkF m 18 #[.val (.int m'), .val (.int i'), .val (.long v), .second, .unset] [(.int (6 : Int32)), (.int i')])) (fun _ k_ => XS.bipush X0.here hx rfl (hb hby own_d1_16) k_) ?_
    by_cases hc18 : i' < (6 : Int32)
    · refine own_w (T' := s₁) (g' := (mkF m 21 #[.val (.int m'), .val (.int i'), .val (.long v), .second, .unset] [])) (fun _ k_ => XS.icmpNo X0.here hx rfl (hb hby own_d1_18) rfl (tlt hc18).2.1 k_) ?_
      refine own_w (T' := s₁) (g' := (mkF m 22 #[.val (.int m'), .val (.int i'), .val (.long v), .second, .unset] [(.int m')])) (fun _ k_ => XS.iloadN X0.here hx rfl (hb hby own_d1_21) rfl k_) ?_
      refine own_w (T' := s₁) (g' := (mkF m 23 #[.val (.int m'), .val (.int i'), .val (.long v), .second, .unset] [(.int i'), (.int m')])) (fun _ k_ => XS.iloadN X0.here hx rfl (hb hby own_d1_22) rfl k_) ?_
      refine own_w (T' := s₁) (g' := (mkF m 24 #[.val (.int m'), .val (.int i'), .val (.long v), .second, .unset] [(.int (1 : Int32)), (.int i'), (.int m')])) (fun _ k_ => XS.iconst X0.here hx rfl (hb hby own_d1_23) k_) ?_
      refine own_w (T' := s₁) (g' := (mkF m 25 #[.val (.int m'), .val (.int i'), .val (.long v), .second, .unset] [(.int (i' - (1 : Int32))), (.int m')])) (fun _ k_ => XS.isub X0.here hx rfl (hb hby own_d1_24) rfl k_) ?_
      refine own_w (T' := s₁) (g' := (mkF m 26 #[.val (.int m'), .val (.int i'), .val (.long v), .second, .unset] [(.int (m' >>> ((i' - (1 : Int32)) &&& 31)))])) (fun _ k_ => XS.ishr X0.here hx rfl (hb hby own_d1_25) rfl k_) ?_
      refine own_w (T' := s₁) (g' := (mkF m 27 #[.val (.int m'), .val (.int i'), .val (.long v), .second, .unset] [(.int (1 : Int32)), (.int (m' >>> ((i' - (1 : Int32)) &&& 31)))])) (fun _ k_ => XS.iconst X0.here hx rfl (hb hby own_d1_26) k_) ?_
      refine own_w (T' := s₁) (g' := (mkF m 28 #[.val (.int m'), .val (.int i'), .val (.long v), .second, .unset] [(.int ((m' >>> ((i' - (1 : Int32)) &&& 31)) &&& (1 : Int32)))])) (fun _ k_ => XS.iand X0.here hx rfl (hb hby own_d1_27) rfl k_) ?_
      by_cases hc28 : ((m' >>> ((i' - (1 : Int32)) &&& 31)) &&& (1 : Int32)) = (0 : Int32)
      · refine own_w (T' := s₁) (g' := (mkF m 31 #[.val (.int m'), .val (.int i'), .val (.long v), .second, .unset] [])) (fun _ k_ => XS.ifNo X0.here hx rfl (hb hby own_d1_28) rfl ((if0 _ _).trans (teq hc28).2) k_) ?_
        refine own_w (T' := s₁) (g' := (mkF m 32 #[.val (.int m'), .val (.int i'), .val (.long v), .second, .unset] [(.int m')])) (fun _ k_ => XS.iloadN X0.here hx rfl (hb hby own_d1_31) rfl k_) ?_
        refine own_w (T' := s₁) (g' := (mkF m 33 #[.val (.int m'), .val (.int i'), .val (.long v), .second, .unset] [(.int i'), (.int m')])) (fun _ k_ => XS.iloadN X0.here hx rfl (hb hby own_d1_32) rfl k_) ?_
        refine own_w (T' := s₁) (g' := (mkF m 34 #[.val (.int m'), .val (.int i'), .val (.long v), .second, .unset] [(.int (1 : Int32)), (.int i'), (.int m')])) (fun _ k_ => XS.iconst X0.here hx rfl (hb hby own_d1_33) k_) ?_
        refine own_w (T' := s₁) (g' := (mkF m 35 #[.val (.int m'), .val (.int i'), .val (.long v), .second, .unset] [(.int (i' + (1 : Int32))), (.int m')])) (fun _ k_ => XS.iadd X0.here hx rfl (hb hby own_d1_34) rfl k_) ?_
        refine own_w (T' := s₁) (g' := (mkF m 36 #[.val (.int m'), .val (.int i'), .val (.long v), .second, .unset] [(.int (m' >>> ((i' + (1 : Int32)) &&& 31)))])) (fun _ k_ => XS.ishr X0.here hx rfl (hb hby own_d1_35) rfl k_) ?_
        refine own_w (T' := s₁) (g' := (mkF m 37 #[.val (.int m'), .val (.int i'), .val (.long v), .second, .unset] [(.int (1 : Int32)), (.int (m' >>> ((i' + (1 : Int32)) &&& 31)))])) (fun _ k_ => XS.iconst X0.here hx rfl (hb hby own_d1_36) k_) ?_
        refine own_w (T' := s₁) (g' := (mkF m 38 #[.val (.int m'), .val (.int i'), .val (.long v), .second, .unset] [(.int ((m' >>> ((i' + (1 : Int32)) &&& 31)) &&& (1 : Int32)))])) (fun _ k_ => XS.iand X0.here hx rfl (hb hby own_d1_37) rfl k_) ?_
        by_cases hc38 : ((m' >>> ((i' + (1 : Int32)) &&& 31)) &&& (1 : Int32)) = (0 : Int32)
        · refine own_w (T' := s₁) (g' := (mkF m 41 #[.val (.int m'), .val (.int i'), .val (.long v), .second, .unset] [])) (fun _ k_ => XS.ifNo X0.here hx rfl (hb hby own_d1_38) rfl ((if0 _ _).trans (teq hc38).2) k_) ?_
          refine own_w (T' := s₁) (g' := (mkF m 42 #[.val (.int m'), .val (.int i'), .val (.long v), .second, .unset] [(.int (1 : Int32))])) (fun _ k_ => XS.iconst X0.here hx rfl (hb hby own_d1_41) k_) ?_
          refine own_w (T' := s₁) (g' := (mkF m 46 #[.val (.int m'), .val (.int i'), .val (.long v), .second, .unset] [(.int (1 : Int32))])) (fun _ k_ => XS.goto X0.here hx rfl (pc0 := 42) (pc' := 46) rfl (hb hby own_d1_42) (by decide) (by decide) k_) ?_
          refine own_w (T' := s₁) (g' := (mkF m 48 #[.val (.int m'), .val (.int i'), .val (.long v), .second, .val (.int (1 : Int32))] [])) (fun _ k_ => XS.istore X0.here hx rfl (hb hby own_d1_46) rfl (l' := #[.val (.int m'), .val (.int i'), .val (.long v), .second, .val (.int (1 : Int32))]) rfl k_) ?_
          refine own_w (T' := s₁) (g' := (mkF m 49 #[.val (.int m'), .val (.int i'), .val (.long v), .second, .val (.int (1 : Int32))] [(.long v)])) (fun _ k_ => XS.lloadN X0.here hx rfl (hb hby own_d1_48) rfl k_) ?_
          refine own_w (T' := s₁) (g' := (mkF m 51 #[.val (.int m'), .val (.int i'), .val (.long v), .second, .val (.int (1 : Int32))] [(.int (1 : Int32)), (.long v)])) (fun _ k_ => XS.iload X0.here hx rfl (hb hby own_d1_49) rfl k_) ?_
          obtain ⟨_, _, ⟨T1, L1, k1, n1⟩, -, X1, ⟨Lc1, hQ1, l1, y1, z1⟩, st1⟩ := Jvm.LawKit.callS X0 hx (y := (⟨"com/example/adjacency/adjacency/identity/NodeNameParsePinLaw", "ch", "(JZ)C"⟩ : MethodName)) hown (mvT hZ (hw _ (List.mem_of_getElem? (i := 5) rfl))) (mvT hZ (hw _ (List.mem_of_getElem? (i := 6) rfl))) (mvT hZ (hw _ (List.mem_of_getElem? (i := 3) rfl))) (mvT hZ (hw _ (List.mem_of_getElem? (i := 7) rfl))) (by decide) (backOf (W := 0) (own_rm2 l Z a0 hw [] v (1 : Int32)  h0 n0 Z0 ) hZ (hw _ (List.mem_of_getElem? (i := 7) rfl)) (hw _ (List.mem_of_getElem? (i := 3) rfl)) (by decide) (by decide)) (g := (mkF m 51 #[.val (.int m'), .val (.int i'), .val (.long v), .second, .val (.int (1 : Int32))] [(.int (1 : Int32)), (.long v)])) rfl (by rw [hml]; rfl) (argsL := [(.long v), (.int (1 : Int32))]) (rest := []) (lenOf own_pd19 rfl) rfl (by show 2 * 0 + _ ≤ _; exact Nat.le_of_eq rfl) (hb hby own_d1_51) (fun _ _ => ⟨rfl, e0, (by decide : 0 + 0 ≤ _), (by decide : 0 + 0 ≤ _)⟩)
          dsimp only [Pt.U, Pt.locs, Pt.cells, Pt.slots] at X1 l1 y1 z1 st1 hQ1
          subst l1 y1 z1
          obtain ⟨r1, rfl, N1q, e1, ok1, nh1⟩ := hQ1
          have N1 := Fr.app N0 N1q
          refine own_w (T' := T1) (g' := (mkF m 54 #[.val (.int m'), .val (.int i'), .val (.long v), .second, .val (.int (1 : Int32))] [(.int r1)])) st1 ?_
          obtain ⟨fs, hr, hrun, hended, hW, hsame⟩ := X1.leave (v := some (.int r1)) (fun h => by rw [Bd.returns] at h; cases h)
          exact ⟨_, _, retOut X1 hx Bd.returns (show narrow .char (.int r1) = .int r1 from congrArg Value.int (own_i2c_small (by have := own_okc_rng ok1; omega) (by have := own_okc_rng ok1; omega))) (Or.inl ⟨rfl, Or.inr (Or.inr (Or.inr (Or.inl rfl))), _, rfl⟩) (hb hby own_d1_54) hr, hrun, hended, _, _, rfl, (by show own_Q1_c Z m' i' v h0 n0 _ T1.heap _; rw [e1]; exact ⟨_, rfl, N1, rfl, ok1, (fun q => absurd ⟨hc12, hc18, hc28, hc38⟩ q)⟩), ⟨_, rfl⟩, hW, hsame.mono (by decide) (by decide)⟩
        · refine own_w (T' := s₁) (g' := (mkF m 45 #[.val (.int m'), .val (.int i'), .val (.long v), .second, .unset] [])) (fun _ k_ => XS.ifYes X0.here hx rfl (pc0 := 38) (pc' := 45) rfl (hb hby own_d1_38) rfl ((if0 _ _).trans (feq hc38).2) (by decide) (by decide) k_) ?_
          refine own_w (T' := s₁) (g' := (mkF m 46 #[.val (.int m'), .val (.int i'), .val (.long v), .second, .unset] [(.int (0 : Int32))])) (fun _ k_ => XS.iconst X0.here hx rfl (hb hby own_d1_45) k_) ?_
          refine own_w (T' := s₁) (g' := (mkF m 48 #[.val (.int m'), .val (.int i'), .val (.long v), .second, .val (.int (0 : Int32))] [])) (fun _ k_ => XS.istore X0.here hx rfl (hb hby own_d1_46) rfl (l' := #[.val (.int m'), .val (.int i'), .val (.long v), .second, .val (.int (0 : Int32))]) rfl k_) ?_
          refine own_w (T' := s₁) (g' := (mkF m 49 #[.val (.int m'), .val (.int i'), .val (.long v), .second, .val (.int (0 : Int32))] [(.long v)])) (fun _ k_ => XS.lloadN X0.here hx rfl (hb hby own_d1_48) rfl k_) ?_
          refine own_w (T' := s₁) (g' := (mkF m 51 #[.val (.int m'), .val (.int i'), .val (.long v), .second, .val (.int (0 : Int32))] [(.int (0 : Int32)), (.long v)])) (fun _ k_ => XS.iload X0.here hx rfl (hb hby own_d1_49) rfl k_) ?_
          obtain ⟨_, _, ⟨T2, L2, k2, n2⟩, -, X2, ⟨Lc2, hQ2, l2, y2, z2⟩, st2⟩ := Jvm.LawKit.callS X0 hx (y := (⟨"com/example/adjacency/adjacency/identity/NodeNameParsePinLaw", "ch", "(JZ)C"⟩ : MethodName)) hown (mvT hZ (hw _ (List.mem_of_getElem? (i := 5) rfl))) (mvT hZ (hw _ (List.mem_of_getElem? (i := 6) rfl))) (mvT hZ (hw _ (List.mem_of_getElem? (i := 3) rfl))) (mvT hZ (hw _ (List.mem_of_getElem? (i := 7) rfl))) (by decide) (backOf (W := 0) (own_rm2 l Z a0 hw [] v (0 : Int32)  h0 n0 Z0 ) hZ (hw _ (List.mem_of_getElem? (i := 7) rfl)) (hw _ (List.mem_of_getElem? (i := 3) rfl)) (by decide) (by decide)) (g := (mkF m 51 #[.val (.int m'), .val (.int i'), .val (.long v), .second, .val (.int (0 : Int32))] [(.int (0 : Int32)), (.long v)])) rfl (by rw [hml]; rfl) (argsL := [(.long v), (.int (0 : Int32))]) (rest := []) (lenOf own_pd19 rfl) rfl (by show 2 * 0 + _ ≤ _; exact Nat.le_of_eq rfl) (hb hby own_d1_51) (fun _ _ => ⟨rfl, e0, (by decide : 0 + 0 ≤ _), (by decide : 0 + 0 ≤ _)⟩)
          dsimp only [Pt.U, Pt.locs, Pt.cells, Pt.slots] at X2 l2 y2 z2 st2 hQ2
          subst l2 y2 z2
          obtain ⟨r2, rfl, N2q, e2, ok2, nh2⟩ := hQ2
          have N2 := Fr.app N0 N2q
          refine own_w (T' := T2) (g' := (mkF m 54 #[.val (.int m'), .val (.int i'), .val (.long v), .second, .val (.int (0 : Int32))] [(.int r2)])) st2 ?_
          obtain ⟨fs, hr, hrun, hended, hW, hsame⟩ := X2.leave (v := some (.int r2)) (fun h => by rw [Bd.returns] at h; cases h)
          exact ⟨_, _, retOut X2 hx Bd.returns (show narrow .char (.int r2) = .int r2 from congrArg Value.int (own_i2c_small (by have := own_okc_rng ok2; omega) (by have := own_okc_rng ok2; omega))) (Or.inl ⟨rfl, Or.inr (Or.inr (Or.inr (Or.inl rfl))), _, rfl⟩) (hb hby own_d1_54) hr, hrun, hended, _, _, rfl, (by show own_Q1_c Z m' i' v h0 n0 _ T2.heap _; rw [e2]; exact ⟨_, rfl, N2, rfl, ok2, (fun _ => nh2 rfl)⟩), ⟨_, rfl⟩, hW, hsame.mono (by decide) (by decide)⟩
      · refine own_w (T' := s₁) (g' := (mkF m 45 #[.val (.int m'), .val (.int i'), .val (.long v), .second, .unset] [])) (fun _ k_ => XS.ifYes X0.here hx rfl (pc0 := 28) (pc' := 45) rfl (hb hby own_d1_28) rfl ((if0 _ _).trans (feq hc28).2) (by decide) (by decide) k_) ?_
        refine own_w (T' := s₁) (g' := (mkF m 46 #[.val (.int m'), .val (.int i'), .val (.long v), .second, .unset] [(.int (0 : Int32))])) (fun _ k_ => XS.iconst X0.here hx rfl (hb hby own_d1_45) k_) ?_
        refine own_w (T' := s₁) (g' := (mkF m 48 #[.val (.int m'), .val (.int i'), .val (.long v), .second, .val (.int (0 : Int32))] [])) (fun _ k_ => XS.istore X0.here hx rfl (hb hby own_d1_46) rfl (l' := #[.val (.int m'), .val (.int i'), .val (.long v), .second, .val (.int (0 : Int32))]) rfl k_) ?_
        refine own_w (T' := s₁) (g' := (mkF m 49 #[.val (.int m'), .val (.int i'), .val (.long v), .second, .val (.int (0 : Int32))] [(.long v)])) (fun _ k_ => XS.lloadN X0.here hx rfl (hb hby own_d1_48) rfl k_) ?_
        refine own_w (T' := s₁) (g' := (mkF m 51 #[.val (.int m'), .val (.int i'), .val (.long v), .second, .val (.int (0 : Int32))] [(.int (0 : Int32)), (.long v)])) (fun _ k_ => XS.iload X0.here hx rfl (hb hby own_d1_49) rfl k_) ?_
        obtain ⟨_, _, ⟨T3, L3, k3, n3⟩, -, X3, ⟨Lc3, hQ3, l3, y3, z3⟩, st3⟩ := Jvm.LawKit.callS X0 hx (y := (⟨"com/example/adjacency/adjacency/identity/NodeNameParsePinLaw", "ch", "(JZ)C"⟩ : MethodName)) hown (mvT hZ (hw _ (List.mem_of_getElem? (i := 5) rfl))) (mvT hZ (hw _ (List.mem_of_getElem? (i := 6) rfl))) (mvT hZ (hw _ (List.mem_of_getElem? (i := 3) rfl))) (mvT hZ (hw _ (List.mem_of_getElem? (i := 7) rfl))) (by decide) (backOf (W := 0) (own_rm2 l Z a0 hw [] v (0 : Int32)  h0 n0 Z0 ) hZ (hw _ (List.mem_of_getElem? (i := 7) rfl)) (hw _ (List.mem_of_getElem? (i := 3) rfl)) (by decide) (by decide)) (g := (mkF m 51 #[.val (.int m'), .val (.int i'), .val (.long v), .second, .val (.int (0 : Int32))] [(.int (0 : Int32)), (.long v)])) rfl (by rw [hml]; rfl) (argsL := [(.long v), (.int (0 : Int32))]) (rest := []) (lenOf own_pd19 rfl) rfl (by show 2 * 0 + _ ≤ _; exact Nat.le_of_eq rfl) (hb hby own_d1_51) (fun _ _ => ⟨rfl, e0, (by decide : 0 + 0 ≤ _), (by decide : 0 + 0 ≤ _)⟩)
        dsimp only [Pt.U, Pt.locs, Pt.cells, Pt.slots] at X3 l3 y3 z3 st3 hQ3
        subst l3 y3 z3
        obtain ⟨r3, rfl, N3q, e3, ok3, nh3⟩ := hQ3
        have N3 := Fr.app N0 N3q
        refine own_w (T' := T3) (g' := (mkF m 54 #[.val (.int m'), .val (.int i'), .val (.long v), .second, .val (.int (0 : Int32))] [(.int r3)])) st3 ?_
        obtain ⟨fs, hr, hrun, hended, hW, hsame⟩ := X3.leave (v := some (.int r3)) (fun h => by rw [Bd.returns] at h; cases h)
        exact ⟨_, _, retOut X3 hx Bd.returns (show narrow .char (.int r3) = .int r3 from congrArg Value.int (own_i2c_small (by have := own_okc_rng ok3; omega) (by have := own_okc_rng ok3; omega))) (Or.inl ⟨rfl, Or.inr (Or.inr (Or.inr (Or.inl rfl))), _, rfl⟩) (hb hby own_d1_54) hr, hrun, hended, _, _, rfl, (by show own_Q1_c Z m' i' v h0 n0 _ T3.heap _; rw [e3]; exact ⟨_, rfl, N3, rfl, ok3, (fun _ => nh3 rfl)⟩), ⟨_, rfl⟩, hW, hsame.mono (by decide) (by decide)⟩
    · refine own_w (T' := s₁) (g' := (mkF m 45 #[.val (.int m'), .val (.int i'), .val (.long v), .second, .unset] [])) (fun _ k_ => XS.icmpYes X0.here hx rfl (pc0 := 18) (pc' := 45) rfl (hb hby own_d1_18) rfl (flt hc18).2.1 (by decide) (by decide) k_) ?_
      refine own_w (T' := s₁) (g' := (mkF m 46 #[.val (.int m'), .val (.int i'), .val (.long v), .second, .unset] [(.int (0 : Int32))])) (fun _ k_ => XS.iconst X0.here hx rfl (hb hby own_d1_45) k_) ?_
      refine own_w (T' := s₁) (g' := (mkF m 48 #[.val (.int m'), .val (.int i'), .val (.long v), .second, .val (.int (0 : Int32))] [])) (fun _ k_ => XS.istore X0.here hx rfl (hb hby own_d1_46) rfl (l' := #[.val (.int m'), .val (.int i'), .val (.long v), .second, .val (.int (0 : Int32))]) rfl k_) ?_
      refine own_w (T' := s₁) (g' := (mkF m 49 #[.val (.int m'), .val (.int i'), .val (.long v), .second, .val (.int (0 : Int32))] [(.long v)])) (fun _ k_ => XS.lloadN X0.here hx rfl (hb hby own_d1_48) rfl k_) ?_
      refine own_w (T' := s₁) (g' := (mkF m 51 #[.val (.int m'), .val (.int i'), .val (.long v), .second, .val (.int (0 : Int32))] [(.int (0 : Int32)), (.long v)])) (fun _ k_ => XS.iload X0.here hx rfl (hb hby own_d1_49) rfl k_) ?_
      obtain ⟨_, _, ⟨T4, L4, k4, n4⟩, -, X4, ⟨Lc4, hQ4, l4, y4, z4⟩, st4⟩ := Jvm.LawKit.callS X0 hx (y := (⟨"com/example/adjacency/adjacency/identity/NodeNameParsePinLaw", "ch", "(JZ)C"⟩ : MethodName)) hown (mvT hZ (hw _ (List.mem_of_getElem? (i := 5) rfl))) (mvT hZ (hw _ (List.mem_of_getElem? (i := 6) rfl))) (mvT hZ (hw _ (List.mem_of_getElem? (i := 3) rfl))) (mvT hZ (hw _ (List.mem_of_getElem? (i := 7) rfl))) (by decide) (backOf (W := 0) (own_rm2 l Z a0 hw [] v (0 : Int32)  h0 n0 Z0 ) hZ (hw _ (List.mem_of_getElem? (i := 7) rfl)) (hw _ (List.mem_of_getElem? (i := 3) rfl)) (by decide) (by decide)) (g := (mkF m 51 #[.val (.int m'), .val (.int i'), .val (.long v), .second, .val (.int (0 : Int32))] [(.int (0 : Int32)), (.long v)])) rfl (by rw [hml]; rfl) (argsL := [(.long v), (.int (0 : Int32))]) (rest := []) (lenOf own_pd19 rfl) rfl (by show 2 * 0 + _ ≤ _; exact Nat.le_of_eq rfl) (hb hby own_d1_51) (fun _ _ => ⟨rfl, e0, (by decide : 0 + 0 ≤ _), (by decide : 0 + 0 ≤ _)⟩)
      dsimp only [Pt.U, Pt.locs, Pt.cells, Pt.slots] at X4 l4 y4 z4 st4 hQ4
      subst l4 y4 z4
      obtain ⟨r4, rfl, N4q, e4, ok4, nh4⟩ := hQ4
      have N4 := Fr.app N0 N4q
      refine own_w (T' := T4) (g' := (mkF m 54 #[.val (.int m'), .val (.int i'), .val (.long v), .second, .val (.int (0 : Int32))] [(.int r4)])) st4 ?_
      obtain ⟨fs, hr, hrun, hended, hW, hsame⟩ := X4.leave (v := some (.int r4)) (fun h => by rw [Bd.returns] at h; cases h)
      exact ⟨_, _, retOut X4 hx Bd.returns (show narrow .char (.int r4) = .int r4 from congrArg Value.int (own_i2c_small (by have := own_okc_rng ok4; omega) (by have := own_okc_rng ok4; omega))) (Or.inl ⟨rfl, Or.inr (Or.inr (Or.inr (Or.inl rfl))), _, rfl⟩) (hb hby own_d1_54) hr, hrun, hended, _, _, rfl, (by show own_Q1_c Z m' i' v h0 n0 _ T4.heap _; rw [e4]; exact ⟨_, rfl, N4, rfl, ok4, (fun _ => nh4 rfl)⟩), ⟨_, rfl⟩, hW, hsame.mono (by decide) (by decide)⟩
  · refine own_w (T' := s₁) (g' := (mkF m 45 #[.val (.int m'), .val (.int i'), .val (.long v), .second, .unset] [])) (fun _ k_ => XS.ifYes X0.here hx rfl (pc0 := 12) (pc' := 45) rfl (hb hby own_d1_12) rfl ((if0 _ _).trans (flt hc12).2.2.2) (by decide) (by decide) k_) ?_
    refine own_w (T' := s₁) (g' := (mkF m 46 #[.val (.int m'), .val (.int i'), .val (.long v), .second, .unset] [(.int (0 : Int32))])) (fun _ k_ => XS.iconst X0.here hx rfl (hb hby own_d1_45) k_) ?_
    refine own_w (T' := s₁) (g' := (mkF m 48 #[.val (.int m'), .val (.int i'), .val (.long v), .second, .val (.int (0 : Int32))] [])) (fun _ k_ => XS.istore X0.here hx rfl (hb hby own_d1_46) rfl (l' := #[.val (.int m'), .val (.int i'), .val (.long v), .second, .val (.int (0 : Int32))]) rfl k_) ?_
    refine own_w (T' := s₁) (g' := (mkF m 49 #[.val (.int m'), .val (.int i'), .val (.long v), .second, .val (.int (0 : Int32))] [(.long v)])) (fun _ k_ => XS.lloadN X0.here hx rfl (hb hby own_d1_48) rfl k_) ?_
    refine own_w (T' := s₁) (g' := (mkF m 51 #[.val (.int m'), .val (.int i'), .val (.long v), .second, .val (.int (0 : Int32))] [(.int (0 : Int32)), (.long v)])) (fun _ k_ => XS.iload X0.here hx rfl (hb hby own_d1_49) rfl k_) ?_
    obtain ⟨_, _, ⟨T5, L5, k5, n5⟩, -, X5, ⟨Lc5, hQ5, l5, y5, z5⟩, st5⟩ := Jvm.LawKit.callS X0 hx (y := (⟨"com/example/adjacency/adjacency/identity/NodeNameParsePinLaw", "ch", "(JZ)C"⟩ : MethodName)) hown (mvT hZ (hw _ (List.mem_of_getElem? (i := 5) rfl))) (mvT hZ (hw _ (List.mem_of_getElem? (i := 6) rfl))) (mvT hZ (hw _ (List.mem_of_getElem? (i := 3) rfl))) (mvT hZ (hw _ (List.mem_of_getElem? (i := 7) rfl))) (by decide) (backOf (W := 0) (own_rm2 l Z a0 hw [] v (0 : Int32)  h0 n0 Z0 ) hZ (hw _ (List.mem_of_getElem? (i := 7) rfl)) (hw _ (List.mem_of_getElem? (i := 3) rfl)) (by decide) (by decide)) (g := (mkF m 51 #[.val (.int m'), .val (.int i'), .val (.long v), .second, .val (.int (0 : Int32))] [(.int (0 : Int32)), (.long v)])) rfl (by rw [hml]; rfl) (argsL := [(.long v), (.int (0 : Int32))]) (rest := []) (lenOf own_pd19 rfl) rfl (by show 2 * 0 + _ ≤ _; exact Nat.le_of_eq rfl) (hb hby own_d1_51) (fun _ _ => ⟨rfl, e0, (by decide : 0 + 0 ≤ _), (by decide : 0 + 0 ≤ _)⟩)
    dsimp only [Pt.U, Pt.locs, Pt.cells, Pt.slots] at X5 l5 y5 z5 st5 hQ5
    subst l5 y5 z5
    obtain ⟨r5, rfl, N5q, e5, ok5, nh5⟩ := hQ5
    have N5 := Fr.app N0 N5q
    refine own_w (T' := T5) (g' := (mkF m 54 #[.val (.int m'), .val (.int i'), .val (.long v), .second, .val (.int (0 : Int32))] [(.int r5)])) st5 ?_
    obtain ⟨fs, hr, hrun, hended, hW, hsame⟩ := X5.leave (v := some (.int r5)) (fun h => by rw [Bd.returns] at h; cases h)
    exact ⟨_, _, retOut X5 hx Bd.returns (show narrow .char (.int r5) = .int r5 from congrArg Value.int (own_i2c_small (by have := own_okc_rng ok5; omega) (by have := own_okc_rng ok5; omega))) (Or.inl ⟨rfl, Or.inr (Or.inr (Or.inr (Or.inl rfl))), _, rfl⟩) (hb hby own_d1_54) hr, hrun, hended, _, _, rfl, (by show own_Q1_c Z m' i' v h0 n0 _ T5.heap _; rw [e5]; exact ⟨_, rfl, N5, rfl, ok5, (fun _ => nh5 rfl)⟩), ⟨_, rfl⟩, hW, hsame.mono (by decide) (by decide)⟩
theorem own_end_at {xs : List Int32} {i j : Nat} (h : own_io xs i = j.toInt32) (hj : j < 1000) : own_end xs i = j := by
  have q : (j.toInt32).toInt = (j : Int) := own_i32 hj
  unfold own_end
  rw [h, if_neg (fun z => by rw [Int32.lt_iff_toInt_lt, q, show (0 : Int32).toInt = 0 from rfl] at z; omega), q]; rfl
theorem own_end_no {xs : List Int32} {i : Nat} (h : own_io xs i = -1) : own_end xs i = xs.length := by
  unfold own_end
  rw [h, if_pos (by decide)]
theorem own_end_lt {xs : List Int32} {i : Nat} (h : own_io xs i < 0) (lx : xs.length < 1000) : (xs.length.toInt32).toInt = (own_end xs i : Int) := by
  unfold own_end
  rw [if_pos h]; exact own_i32 lx
theorem own_end_ge {xs : List Int32} {i : Nat} (h : ¬ own_io xs i < 0) : (own_io xs i).toInt = (own_end xs i : Int) := by
  unfold own_end
  rw [if_neg h]
  rw [Int32.lt_iff_toInt_lt, show (0 : Int32).toInt = 0 from rfl] at h
  omega
theorem own_asc_nil : own_asc [] := fun x hx => by cases hx
theorem own_asc_cons {x : Int32} {xs : List Int32} (h : 0 ≤ x.toInt ∧ x.toInt < 128) (t : own_asc xs) : own_asc (x :: xs) := fun y hy => by
  rcases List.mem_cons.mp hy with q | q
  · rw [q]; exact h
  · exact t y q
theorem own_ok128 {x : Int32} (h : own_okc x = true) : 0 ≤ x.toInt ∧ x.toInt < 128 := by have := own_okc_rng h; omega
theorem own_ok46 {x : Int32} (h : own_okc x = true) : ¬ x = 46 := fun q => by have := (own_okc_rng h).2.2; rw [q] at this; exact this (by decide)
theorem own_ok255 {x : Int32} (h : own_okc x = true) : ¬ (255 : Int32) < x := fun q => by
  have := own_okc_rng h
  rw [Int32.lt_iff_toInt_lt, show (255 : Int32).toInt = 255 by decide] at q; omega
theorem own_okp_s {xs : List Int32} {n i en : Nat} (h : own_end xs i = en) (hL : own_lab xs i en = true) (ho : own_okp xs n (en + 1) = true) : own_okp xs (n + 1) i = true := by
  unfold own_okp
  rw [h, hL, ho]; simp
theorem own_okp_e {xs : List Int32} {n i : Nat} (h : xs.length < i) : own_okp xs n i = true := by
  cases n <;> simp [own_okp, h]
theorem own_okp_z {xs : List Int32} {i : Nat} (h : own_okp xs 0 i = true) : xs.length < i := by
  unfold own_okp at h; exact of_decide_eq_true h
theorem own_okp_n {xs : List Int32} {n i : Nat} (h : own_okp xs (n + 1) i = true) (q : ¬ xs.length < i) : own_lab xs i (own_end xs i) = true ∧ own_okp xs n (own_end xs i + 1) = true := by
  unfold own_okp at h
  simpa [q] using h
theorem own_Ar_of {Z : State} {h : Heap} {a : Addr} {k : ClassId} {ty : FieldType} {z : Int32} {xs : List Int32} {d : Value} (A : Arv Z h a k ty z (xs.map Value.int) d) (hl : z.toNatClampNeg = xs.length) : own_Ar Z h a ty xs := by
  obtain ⟨c, A, -, hs, -, H, -⟩ := A
  refine ⟨c, A, ?_⟩
  apply Array.ext_getElem?
  intro i
  by_cases hi : i < c.slots.size
  · rw [H i hi]
    have q : i < xs.length := by omega
    simp [List.getD, q]
  · have q : ¬ i < xs.length := by omega
    rw [Array.getElem?_eq_none (by omega)]
    simp [q]
theorem own_pl_0 {c0 : Int32} {c1 : Int32} {c2 : Int32} {c3 : Int32} {c4 : Int32} {c5 : Int32} {c6 : Int32} (o0 : own_okc c0 = true) (o1 : own_okc c1 = true) (o2 : own_okc c2 = true) (o3 : own_okc c3 = true) (o4 : own_okc c4 = true) (o5 : own_okc c5 = true) (o6 : own_okc c6 = true) (n0 : ¬ c0 = 45) (n6 : ¬ c6 = 45) : own_asc [c0, c1, c2, c3, c4, c5, c6] ∧ own_okp [c0, c1, c2, c3, c4, c5, c6] 4 0 = true ∧ own_cl [c0, c1, c2, c3, c4, c5, c6] = 1 ∧ own_io [c0, c1, c2, c3, c4, c5, c6] 0 = -1 := by
  have x0 := own_ok46 o0
  have x1 := own_ok46 o1
  have x2 := own_ok46 o2
  have x3 := own_ok46 o3
  have x4 := own_ok46 o4
  have x5 := own_ok46 o5
  have x6 := own_ok46 o6
  have i0 : own_io [c0, c1, c2, c3, c4, c5, c6] 0 = -1 := by simp [own_io, own_fd, x0, x1, x2, x3, x4, x5, x6]
  have e0 : own_end [c0, c1, c2, c3, c4, c5, c6] 0 = 7 := own_end_no i0
  have l0 : own_lab [c0, c1, c2, c3, c4, c5, c6] 0 7 = true := by simp [own_lab, List.range_succ, o0, o1, o2, o3, o4, o5, o6, n0, n6]
  refine ⟨(own_asc_cons (own_ok128 o0) (own_asc_cons (own_ok128 o1) (own_asc_cons (own_ok128 o2) (own_asc_cons (own_ok128 o3) (own_asc_cons (own_ok128 o4) (own_asc_cons (own_ok128 o5) (own_asc_cons (own_ok128 o6) own_asc_nil))))))), (own_okp_s e0 l0 (own_okp_e (show 7 < 8 by decide))), ?_, i0⟩
  simp [own_cl, own_cg, x0, x1, x2, x3, x4, x5, x6]
theorem own_pl_8 {c0 : Int32} {c1 : Int32} {c2 : Int32} {c4 : Int32} {c5 : Int32} {c6 : Int32} (o0 : own_okc c0 = true) (o1 : own_okc c1 = true) (o2 : own_okc c2 = true) (o4 : own_okc c4 = true) (o5 : own_okc c5 = true) (o6 : own_okc c6 = true) (n0 : ¬ c0 = 45) (n2 : ¬ c2 = 45) (n4 : ¬ c4 = 45) (n6 : ¬ c6 = 45) : own_asc [c0, c1, c2, 46, c4, c5, c6] ∧ own_okp [c0, c1, c2, 46, c4, c5, c6] 4 0 = true ∧ own_cl [c0, c1, c2, 46, c4, c5, c6] = 2 ∧ own_io [c0, c1, c2, 46, c4, c5, c6] 0 = (3 : Nat).toInt32 := by
  have x0 := own_ok46 o0
  have x1 := own_ok46 o1
  have x2 := own_ok46 o2
  have x4 := own_ok46 o4
  have x5 := own_ok46 o5
  have x6 := own_ok46 o6
  have i0 : own_io [c0, c1, c2, 46, c4, c5, c6] 0 = (3 : Nat).toInt32 := by simp [own_io, own_fd, x0, x1, x2, x4, x5, x6]
  have e0 : own_end [c0, c1, c2, 46, c4, c5, c6] 0 = 3 := own_end_at i0 (by decide)
  have l0 : own_lab [c0, c1, c2, 46, c4, c5, c6] 0 3 = true := by simp [own_lab, List.range_succ, o0, o1, o2, o4, o5, o6, n0, n2, n4, n6]
  have i1 : own_io [c0, c1, c2, 46, c4, c5, c6] 4 = -1 := by simp [own_io, own_fd, x0, x1, x2, x4, x5, x6]
  have e1 : own_end [c0, c1, c2, 46, c4, c5, c6] 4 = 7 := own_end_no i1
  have l1 : own_lab [c0, c1, c2, 46, c4, c5, c6] 4 7 = true := by simp [own_lab, List.range_succ, o0, o1, o2, o4, o5, o6, n0, n2, n4, n6]
  refine ⟨(own_asc_cons (own_ok128 o0) (own_asc_cons (own_ok128 o1) (own_asc_cons (own_ok128 o2) (own_asc_cons (by decide) (own_asc_cons (own_ok128 o4) (own_asc_cons (own_ok128 o5) (own_asc_cons (own_ok128 o6) own_asc_nil))))))), (own_okp_s e0 l0 (own_okp_s e1 l1 (own_okp_e (show 7 < 8 by decide)))), ?_, i0⟩
  simp [own_cl, own_cg, x0, x1, x2, x4, x5, x6]
theorem own_pl_34 {c0 : Int32} {c2 : Int32} {c3 : Int32} {c4 : Int32} {c6 : Int32} (o0 : own_okc c0 = true) (o2 : own_okc c2 = true) (o3 : own_okc c3 = true) (o4 : own_okc c4 = true) (o6 : own_okc c6 = true) (n0 : ¬ c0 = 45) (n2 : ¬ c2 = 45) (n4 : ¬ c4 = 45) (n6 : ¬ c6 = 45) : own_asc [c0, 46, c2, c3, c4, 46, c6] ∧ own_okp [c0, 46, c2, c3, c4, 46, c6] 4 0 = true ∧ own_cl [c0, 46, c2, c3, c4, 46, c6] = 3 ∧ own_io [c0, 46, c2, c3, c4, 46, c6] 0 = (1 : Nat).toInt32 := by
  have x0 := own_ok46 o0
  have x2 := own_ok46 o2
  have x3 := own_ok46 o3
  have x4 := own_ok46 o4
  have x6 := own_ok46 o6
  have i0 : own_io [c0, 46, c2, c3, c4, 46, c6] 0 = (1 : Nat).toInt32 := by simp [own_io, own_fd, x0, x2, x3, x4, x6]
  have e0 : own_end [c0, 46, c2, c3, c4, 46, c6] 0 = 1 := own_end_at i0 (by decide)
  have l0 : own_lab [c0, 46, c2, c3, c4, 46, c6] 0 1 = true := by simp [own_lab, List.range_succ, o0, o2, o3, o4, o6, n0, n2, n4, n6]
  have i1 : own_io [c0, 46, c2, c3, c4, 46, c6] 2 = (5 : Nat).toInt32 := by simp [own_io, own_fd, x0, x2, x3, x4, x6]
  have e1 : own_end [c0, 46, c2, c3, c4, 46, c6] 2 = 5 := own_end_at i1 (by decide)
  have l1 : own_lab [c0, 46, c2, c3, c4, 46, c6] 2 5 = true := by simp [own_lab, List.range_succ, o0, o2, o3, o4, o6, n0, n2, n4, n6]
  have i2 : own_io [c0, 46, c2, c3, c4, 46, c6] 6 = -1 := by simp [own_io, own_fd, x0, x2, x3, x4, x6]
  have e2 : own_end [c0, 46, c2, c3, c4, 46, c6] 6 = 7 := own_end_no i2
  have l2 : own_lab [c0, 46, c2, c3, c4, 46, c6] 6 7 = true := by simp [own_lab, List.range_succ, o0, o2, o3, o4, o6, n0, n2, n4, n6]
  refine ⟨(own_asc_cons (own_ok128 o0) (own_asc_cons (by decide) (own_asc_cons (own_ok128 o2) (own_asc_cons (own_ok128 o3) (own_asc_cons (own_ok128 o4) (own_asc_cons (by decide) (own_asc_cons (own_ok128 o6) own_asc_nil))))))), (own_okp_s e0 l0 (own_okp_s e1 l1 (own_okp_s e2 l2 (own_okp_e (show 7 < 8 by decide))))), ?_, i0⟩
  simp [own_cl, own_cg, x0, x2, x3, x4, x6]
theorem own_pl_42 {c0 : Int32} {c2 : Int32} {c4 : Int32} {c6 : Int32} (o0 : own_okc c0 = true) (o2 : own_okc c2 = true) (o4 : own_okc c4 = true) (o6 : own_okc c6 = true) (n0 : ¬ c0 = 45) (n2 : ¬ c2 = 45) (n4 : ¬ c4 = 45) (n6 : ¬ c6 = 45) : own_asc [c0, 46, c2, 46, c4, 46, c6] ∧ own_okp [c0, 46, c2, 46, c4, 46, c6] 4 0 = true ∧ own_cl [c0, 46, c2, 46, c4, 46, c6] = 4 ∧ own_io [c0, 46, c2, 46, c4, 46, c6] 0 = (1 : Nat).toInt32 := by
  have x0 := own_ok46 o0
  have x2 := own_ok46 o2
  have x4 := own_ok46 o4
  have x6 := own_ok46 o6
  have i0 : own_io [c0, 46, c2, 46, c4, 46, c6] 0 = (1 : Nat).toInt32 := by simp [own_io, own_fd, x0, x2, x4, x6]
  have e0 : own_end [c0, 46, c2, 46, c4, 46, c6] 0 = 1 := own_end_at i0 (by decide)
  have l0 : own_lab [c0, 46, c2, 46, c4, 46, c6] 0 1 = true := by simp [own_lab, List.range_succ, o0, o2, o4, o6, n0, n2, n4, n6]
  have i1 : own_io [c0, 46, c2, 46, c4, 46, c6] 2 = (3 : Nat).toInt32 := by simp [own_io, own_fd, x0, x2, x4, x6]
  have e1 : own_end [c0, 46, c2, 46, c4, 46, c6] 2 = 3 := own_end_at i1 (by decide)
  have l1 : own_lab [c0, 46, c2, 46, c4, 46, c6] 2 3 = true := by simp [own_lab, List.range_succ, o0, o2, o4, o6, n0, n2, n4, n6]
  have i2 : own_io [c0, 46, c2, 46, c4, 46, c6] 4 = (5 : Nat).toInt32 := by simp [own_io, own_fd, x0, x2, x4, x6]
  have e2 : own_end [c0, 46, c2, 46, c4, 46, c6] 4 = 5 := own_end_at i2 (by decide)
  have l2 : own_lab [c0, 46, c2, 46, c4, 46, c6] 4 5 = true := by simp [own_lab, List.range_succ, o0, o2, o4, o6, n0, n2, n4, n6]
  have i3 : own_io [c0, 46, c2, 46, c4, 46, c6] 6 = -1 := by simp [own_io, own_fd, x0, x2, x4, x6]
  have e3 : own_end [c0, 46, c2, 46, c4, 46, c6] 6 = 7 := own_end_no i3
  have l3 : own_lab [c0, 46, c2, 46, c4, 46, c6] 6 7 = true := by simp [own_lab, List.range_succ, o0, o2, o4, o6, n0, n2, n4, n6]
  refine ⟨(own_asc_cons (own_ok128 o0) (own_asc_cons (by decide) (own_asc_cons (own_ok128 o2) (own_asc_cons (by decide) (own_asc_cons (own_ok128 o4) (own_asc_cons (by decide) (own_asc_cons (own_ok128 o6) own_asc_nil))))))), (own_okp_s e0 l0 (own_okp_s e1 l1 (own_okp_s e2 l2 (own_okp_s e3 l3 (own_okp_e (show 7 < 8 by decide)))))), ?_, i0⟩
  simp [own_cl, own_cg, x0, x2, x4, x6]
theorem own_pl_32 {c0 : Int32} {c1 : Int32} {c2 : Int32} {c3 : Int32} {c4 : Int32} {c6 : Int32} (o0 : own_okc c0 = true) (o1 : own_okc c1 = true) (o2 : own_okc c2 = true) (o3 : own_okc c3 = true) (o4 : own_okc c4 = true) (o6 : own_okc c6 = true) (n0 : ¬ c0 = 45) (n4 : ¬ c4 = 45) (n6 : ¬ c6 = 45) : own_asc [c0, c1, c2, c3, c4, 46, c6] ∧ own_okp [c0, c1, c2, c3, c4, 46, c6] 4 0 = true ∧ own_cl [c0, c1, c2, c3, c4, 46, c6] = 2 ∧ own_io [c0, c1, c2, c3, c4, 46, c6] 0 = (5 : Nat).toInt32 := by
  have x0 := own_ok46 o0
  have x1 := own_ok46 o1
  have x2 := own_ok46 o2
  have x3 := own_ok46 o3
  have x4 := own_ok46 o4
  have x6 := own_ok46 o6
  have i0 : own_io [c0, c1, c2, c3, c4, 46, c6] 0 = (5 : Nat).toInt32 := by simp [own_io, own_fd, x0, x1, x2, x3, x4, x6]
  have e0 : own_end [c0, c1, c2, c3, c4, 46, c6] 0 = 5 := own_end_at i0 (by decide)
  have l0 : own_lab [c0, c1, c2, c3, c4, 46, c6] 0 5 = true := by simp [own_lab, List.range_succ, o0, o1, o2, o3, o4, o6, n0, n4, n6]
  have i1 : own_io [c0, c1, c2, c3, c4, 46, c6] 6 = -1 := by simp [own_io, own_fd, x0, x1, x2, x3, x4, x6]
  have e1 : own_end [c0, c1, c2, c3, c4, 46, c6] 6 = 7 := own_end_no i1
  have l1 : own_lab [c0, c1, c2, c3, c4, 46, c6] 6 7 = true := by simp [own_lab, List.range_succ, o0, o1, o2, o3, o4, o6, n0, n4, n6]
  refine ⟨(own_asc_cons (own_ok128 o0) (own_asc_cons (own_ok128 o1) (own_asc_cons (own_ok128 o2) (own_asc_cons (own_ok128 o3) (own_asc_cons (own_ok128 o4) (own_asc_cons (by decide) (own_asc_cons (own_ok128 o6) own_asc_nil))))))), (own_okp_s e0 l0 (own_okp_s e1 l1 (own_okp_e (show 7 < 8 by decide)))), ?_, i0⟩
  simp [own_cl, own_cg, x0, x1, x2, x3, x4, x6]
theorem own_pl_v {c0 : Int32} (o0 : own_okc c0 = true) (n0 : ¬ c0 = 45) : own_asc [c0] ∧ own_okp [c0] 4 0 = true ∧ own_cl [c0] = 1 ∧ own_io [c0] 0 = -1 := by
  have x0 := own_ok46 o0
  have i0 : own_io [c0] 0 = -1 := by simp [own_io, own_fd, x0]
  have e0 : own_end [c0] 0 = 1 := own_end_no i0
  have l0 : own_lab [c0] 0 1 = true := by simp [own_lab, List.range_succ, o0, n0]
  refine ⟨(own_asc_cons (own_ok128 o0) own_asc_nil), (own_okp_s e0 l0 (own_okp_e (show 1 < 2 by decide))), ?_, i0⟩
  simp [own_cl, own_cg, x0]
def own_t21 : List Int32 := ("abcdefghijklmnopqrstuvwxyz0123456789-abcdefghijklmnopqrstuvwxyz" : String).toList.map (fun c => Jvm.Lit.byteI c.toNat.toUInt16)
set_option maxRecDepth 65536 in
theorem own_pl_21 : own_asc own_t21 ∧ own_okp own_t21 4 0 = true ∧ own_cl own_t21 = 1 ∧ own_io own_t21 0 = -1 ∧ own_t21.length = 63 := ⟨show ∀ x ∈ own_t21, 0 ≤ x.toInt ∧ x.toInt < 128 by decide +kernel, by decide +kernel, by decide +kernel, by decide +kernel, by decide +kernel⟩
def own_t23 : List Int32 := ("abcdefghijklmnopqrstuvwxyz0123456789-abcdefghijklmnopqrstuvwxyz.abcdefghijklmnopqrstuvwxyz0123456789-abcdefghijklmnopqrstuvwxyz.abcdefghijklmnopqrstuvwxyz0123456789-abcdefghijklmnopqrstuvwxyz.abcdefghijklmnopqrstuvwxyz0123456789-abcdefghijklmnopqrstuvwxyz" : String).toList.map (fun c => Jvm.Lit.byteI c.toNat.toUInt16)
set_option maxRecDepth 65536 in
theorem own_pl_23 : own_asc own_t23 ∧ own_okp own_t23 4 0 = true ∧ own_cl own_t23 = 4 ∧ own_io own_t23 0 = 63 ∧ own_t23.length = 255 := ⟨show ∀ x ∈ own_t23, 0 ≤ x.toInt ∧ x.toInt < 128 by decide +kernel, by decide +kernel, by decide +kernel, by decide +kernel, by decide +kernel⟩
theorem own_d9_0 : decode prog_13_method_2_code 0 = .ok (.aload_n 0, 1) := by decide +kernel
theorem own_d9_1 : decode prog_13_method_2_code 1 = .ok (.ldc 13, 2) := by decide +kernel
theorem own_d9_3 : decode prog_13_method_2_code 3 = .ok (.invokestatic 14, 3) := by decide +kernel
theorem own_pd20 : parseMethodDescriptor "(Ljava/lang/Object;Ljava/lang/String;)Ljava/lang/Object;" = some ⟨[(.object "java/lang/Object"), (.object "java/lang/String")], some (.object "java/lang/Object")⟩ := by decide +kernel
theorem own_d9_6 : decode prog_13_method_2_code 6 = .ok (.pop, 1) := by decide +kernel
theorem own_d9_7 : decode prog_13_method_2_code 7 = .ok (.aload_n 0, 1) := by decide +kernel
theorem own_d9_8 : decode prog_13_method_2_code 8 = .ok (.invokestatic 20, 3) := by decide +kernel
theorem own_d9_11 : decode prog_13_method_2_code 11 = .ok (.istore_n 1, 1) := by decide +kernel
theorem own_d9_12 : decode prog_13_method_2_code 12 = .ok (.iload_n 1, 1) := by decide +kernel
theorem own_d9_13 : decode prog_13_method_2_code 13 = .ok (.iconst 4, 1) := by decide +kernel
theorem own_d9_14 : decode prog_13_method_2_code 14 = .ok (.if_icmp .le 14, 3) := by decide +kernel
theorem own_d9_28 : decode prog_13_method_2_code 28 = .ok (.iconst 0, 1) := by decide +kernel
theorem own_d9_29 : decode prog_13_method_2_code 29 = .ok (.istore_n 2, 1) := by decide +kernel
theorem own_d9_30 : decode prog_13_method_2_code 30 = .ok (.iload_n 2, 1) := by decide +kernel
theorem own_d9_31 : decode prog_13_method_2_code 31 = .ok (.aload_n 0, 1) := by decide +kernel
theorem own_d9_32 : decode prog_13_method_2_code 32 = .ok (.invokevirtual 32, 3) := by decide +kernel
theorem own_d9_35 : decode prog_13_method_2_code 35 = .ok (.if_icmp .gt 60, 3) := by decide +kernel
theorem own_d9_95 : decode prog_13_method_2_code 95 = .ok (.new 1, 3) := by decide +kernel
theorem own_d9_98 : decode prog_13_method_2_code 98 = .ok (.dup, 1) := by decide +kernel
theorem own_d9_99 : decode prog_13_method_2_code 99 = .ok (.aload_n 0, 1) := by decide +kernel
theorem own_d9_100 : decode prog_13_method_2_code 100 = .ok (.invokespecial 53, 3) := by decide +kernel
theorem own_pd21 : parseMethodDescriptor "(Ljava/lang/String;)V" = some ⟨[(.object "java/lang/String")], none⟩ := by decide +kernel
theorem own_d9_103 : decode prog_13_method_2_code 103 = .ok (.areturn, 1) := by decide +kernel
theorem own_d9_38 : decode prog_13_method_2_code 38 = .ok (.aload_n 0, 1) := by decide +kernel
theorem own_d9_39 : decode prog_13_method_2_code 39 = .ok (.bipush 46, 2) := by decide +kernel
theorem own_d9_41 : decode prog_13_method_2_code 41 = .ok (.iload_n 2, 1) := by decide +kernel
theorem own_d9_42 : decode prog_13_method_2_code 42 = .ok (.invokevirtual 38, 3) := by decide +kernel
theorem own_d9_45 : decode prog_13_method_2_code 45 = .ok (.istore_n 3, 1) := by decide +kernel
theorem own_d9_46 : decode prog_13_method_2_code 46 = .ok (.iload_n 3, 1) := by decide +kernel
theorem own_d9_47 : decode prog_13_method_2_code 47 = .ok (.ifCond .ge 10, 3) := by decide +kernel
theorem own_d9_50 : decode prog_13_method_2_code 50 = .ok (.aload_n 0, 1) := by decide +kernel
theorem own_d9_51 : decode prog_13_method_2_code 51 = .ok (.invokevirtual 32, 3) := by decide +kernel
theorem own_d9_54 : decode prog_13_method_2_code 54 = .ok (.goto 4, 3) := by decide +kernel
theorem own_d9_58 : decode prog_13_method_2_code 58 = .ok (.istore 4, 2) := by decide +kernel
theorem own_d9_60 : decode prog_13_method_2_code 60 = .ok (.aload_n 0, 1) := by decide +kernel
theorem own_d9_61 : decode prog_13_method_2_code 61 = .ok (.iload_n 2, 1) := by decide +kernel
theorem own_d9_62 : decode prog_13_method_2_code 62 = .ok (.iload 4, 2) := by decide +kernel
theorem own_d9_64 : decode prog_13_method_2_code 64 = .ok (.invokestatic 42, 3) := by decide +kernel
theorem own_pd22 : parseMethodDescriptor "(Ljava/lang/String;II)Z" = some ⟨[(.object "java/lang/String"), .int, .int], some .boolean⟩ := by decide +kernel
theorem own_d9_67 : decode prog_13_method_2_code 67 = .ok (.ifCond .ne 20, 3) := by decide +kernel
theorem own_d9_87 : decode prog_13_method_2_code 87 = .ok (.iload 4, 2) := by decide +kernel
theorem own_d9_89 : decode prog_13_method_2_code 89 = .ok (.iconst 1, 1) := by decide +kernel
theorem own_d9_90 : decode prog_13_method_2_code 90 = .ok (.iadd, 1) := by decide +kernel
theorem own_d9_91 : decode prog_13_method_2_code 91 = .ok (.istore_n 2, 1) := by decide +kernel
theorem own_d9_92 : decode prog_13_method_2_code 92 = .ok (.goto (-62), 3) := by decide +kernel
theorem own_d9_57 : decode prog_13_method_2_code 57 = .ok (.iload_n 3, 1) := by decide +kernel
theorem own_rm9_ef (m : MethodId) (a : Addr) : entryFrame m #[(.ref a)] 5 = mkF m 0 #[.val (.ref a), .unset, .unset, .unset, .unset] [] := by first | (simp [entryFrame, mkF, argsToLocals, Value.category]; done) | rfl
def own_Q9 (Z : State) (a : Addr) (xs : List Int32) (cs : Int32) (sf : Value) (h0 : Heap) (n0 : Nat) (v_ : Option Value) (h : Heap) (L_ : List Loc) : Prop := ∃ r : Addr, v_ = some (.ref r) ∧ Fr n0 L_ ∧ (Keep h0 h []) ∧ (Exa Z h r "com/example/adjacency/adjacency/identity/NodeName") ∧ (Fld Z h r "com/example/adjacency/adjacency/identity/NodeName" "text" "Ljava/lang/String;" (.ref a))
set_option maxRecDepth 65536 in
set_option maxHeartbeats 40000000 in
theorem own_rm9 (l : Launch) (Z : State) (a0 : Array Value) (hw : ∀ d ∈ tables_1, d.before a0 Z = true) (ws : List Jvm.Cond) (a : Addr) (xs : List Int32) (cs : Int32) (sf : Value) (h0 : Heap) (n0 : Nat) (Z0 : n0 ≤ h0.size) (Sa : own_Str Z h0 a xs) (lx : xs.length < 1000) (hcs : ¬ cs = (0 : Int32)) (S : Sta Z h0 "java/lang/String" "COMPACT_STRINGS" "Z" (.int cs)) (hsf : sf.isRef = true) (SF : Sta Z h0 "jdk/internal/util/Preconditions" "SIOOBE_FORMATTER" "Ljava/util/function/BiFunction;" sf) (hasc : own_asc xs) (hok : own_okp xs 4 0 = true) (hc4 : ¬ (4 : Int32) < own_cl xs) :
    MetFree l (⟨"com/example/adjacency/adjacency/identity/NodeName", "parse", "(Ljava/lang/String;)Lcom/example/adjacency/adjacency/identity/NodeName;"⟩ : MethodName) (head1 (Jvm.Cond.code (⟨"com/example/adjacency/adjacency/identity/NodeName", "parse", "(Ljava/lang/String;)Lcom/example/adjacency/adjacency/identity/NodeName;"⟩ : MethodName) prog_13_method_2_code 5 (some (.object "com/example/adjacency/adjacency/identity/NodeName")) :: ws) ({ frames := 5, cells := 3, slots := 21, locals := 70 } : Room)) (fun a_ U_ => a_ = #[(.ref a)] ∧ Z.Warmed39 U_.vm ∧ U_.heap = h0 ∧ CHv Z own_EL U_.vm h0) (fun _ _ _ _ _ => True) (fun _ U_ o_ V_ => ∃ v_ L_, o_ = .returned v_ ∧ own_Q9 Z a xs cs sf h0 n0 v_ V_.heap L_ ∧ CHr Z own_EL U_.vm U_.heap V_.vm V_.heap ∧ ReturnedEndW U_ o_ V_ L_ ({ frames := 5, cells := 3, slots := 21, locals := 70 } : Room).cells ({ frames := 5, cells := 3, slots := 21, locals := 70 } : Room).slots) := by
  refine MetFree.of_bodySF (plainFor_of_name own_pn_com_example_adjacency_adjacency_identity_NodeName) hisR ?_
  intro p e s m args below meth c s₁ Bd hml0 hP hK
  obtain ⟨rfl, hZ, hh, hCH⟩ := hP
  have hx := Bd.exec
  have hby := Bd.bytes
  have hml : c.maxLocals = 5 := hml0
  have hown : s.vm.findClass "com/example/adjacency/adjacency/identity/NodeName" = some m.cls := findClass_of_methodNamed Bd.named
  have hnm := (name_of_methodNamed Bd.named Bd.method).1
  have X0 : Stand p l e ({ frames := 5, cells := 3, slots := 21, locals := 70 } : Room) s m #[(.ref a)] below meth c s₁ [] 0 0 := Stand.of_body Bd
  have e0 : s₁.heap = h0 := by rw [← hh, Bd.state]; rfl
  have N0 := Fr.nil n0
  show own_GW Z own_EL p e below s (own_Q9 Z a xs cs sf h0 n0) ({ frames := 5, cells := 3, slots := 21, locals := 70 } : Room).cells ({ frames := 5, cells := 3, slots := 21, locals := 70 } : Room).slots s₁ (entryFrame m #[(.ref a)] 5)
  rw [own_rm9_ef]
  have hS0 : s.Since s.vm h0.size := (State.WarmedH.refl s).since _
  have CB0 : CHr Z own_EL s.vm h0 s.vm h0 := CHr.refl hCH
  refine own_ww (T' := s₁) (g' := (mkF m 1 #[.val (.ref a), .unset, .unset, .unset, .unset] [(.ref a)])) (fun _ k_ => XS.aloadN X0.here hx rfl (hb hby own_d9_0) rfl rfl k_) ?_
  obtain ⟨a1, T1, h1, k11, b1, kc1, X1, e1, E1, hs1, hk1, hZ1, ho1, Es1, Fc1, Fv1, Av1, la1, lb1, cr1, Li1, sn1, st1⟩ := ldcCH X0 hx hZ hown (hw _ (List.mem_of_getElem? (i := 42) rfl)) (own_wS hw) e0 hS0 CB0.2.1 (own_EW hw) (by decide) CB0.1 (vs := [.int 116, .int 101, .int 120, .int 116]) (z := (4 : Int32)) ⟨by decide, rfl⟩ (by decide) (by decide) (g := (mkF m 1 #[.val (.ref a), .unset, .unset, .unset, .unset] [(.ref a)])) rfl (hb hby own_d9_1) (n := 16) (by decide) (by decide) (by decide) (by decide)
  have hS1 := own_since hs1 hk1
  have CB1 : CHr Z own_EL s.vm h0 T1.vm h1 := CB0.trans cr1
  have CS1 : CHr Z own_EL T1.vm h1 T1.vm h1 := CHr.refl CB1.1
  have Z1 : n0 ≤ h1.size := Nat.le_trans Z0 E1.1
  refine own_ww (T' := T1) (g' := (mkF m 3 #[.val (.ref a), .unset, .unset, .unset, .unset] [(.ref a1), (.ref a)])) st1 ?_
  have Sb := own_Str_ext Sa E1
  have S' := S.ext E1
  have SF' := SF.ext E1
  obtain ⟨_, _, ⟨T2, L2, k2, n2⟩, -, X2, ⟨Lc2, hQ2, l2, y2, z2⟩, st2⟩ := Jvm.LawKit.callS X1 hx (y := (⟨"java/util/Objects", "requireNonNull", "(Ljava/lang/Object;Ljava/lang/String;)Ljava/lang/Object;"⟩ : MethodName)) ho1 (mvT hZ1 (hw _ (List.mem_of_getElem? (i := 45) rfl))) (mvT hZ1 (hw _ (List.mem_of_getElem? (i := 46) rfl))) (mvT hZ1 (hw _ (List.mem_of_getElem? (i := 47) rfl))) (mvT hZ1 (hw _ (List.mem_of_getElem? (i := 48) rfl))) (by decide) (backOf (W := 0) (own_rm10 l Z a0 hw [] a a1  h1 n0 Z1 ) hZ1 (hw _ (List.mem_of_getElem? (i := 48) rfl)) (hw _ (List.mem_of_getElem? (i := 47) rfl)) (by decide) (by decide)) (g := (mkF m 3 #[.val (.ref a), .unset, .unset, .unset, .unset] [(.ref a1), (.ref a)])) rfl (by rw [hml]; rfl) (argsL := [(.ref a), (.ref a1)]) (rest := []) (lenOf own_pd20 rfl) rfl (by show 2 * 0 + _ ≤ _; exact Nat.le_of_eq rfl) (hb hby own_d9_3) (fun _ _ => ⟨rfl, e1, (by decide : 2 + 0 ≤ _), (by decide : 20 + 0 ≤ _)⟩)
  dsimp only [Pt.U, Pt.locs, Pt.cells, Pt.slots] at X2 l2 y2 z2 st2 hQ2
  subst l2 y2 z2
  obtain ⟨rfl, N2q, e2⟩ := hQ2
  have N2 := Fr.app N0 N2q
  refine own_ww (T' := T2) (g' := (mkF m 6 #[.val (.ref a), .unset, .unset, .unset, .unset] [(.ref a)])) st2 ?_
  refine own_ww (T' := T2) (g' := (mkF m 7 #[.val (.ref a), .unset, .unset, .unset, .unset] [])) (fun _ k_ => XS.pop X2.here hx rfl (hb hby own_d9_6) rfl rfl k_) ?_
  refine own_ww (T' := T2) (g' := (mkF m 8 #[.val (.ref a), .unset, .unset, .unset, .unset] [(.ref a)])) (fun _ k_ => XS.aloadN X2.here hx rfl (hb hby own_d9_7) rfl rfl k_) ?_
  obtain ⟨_, _, ⟨T3, L3, k3, n3⟩, -, X3, ⟨Lc3, hQ3, l3, y3, z3⟩, st3⟩ := Jvm.LawKit.callS X2 hx (y := (⟨"com/example/adjacency/adjacency/identity/NodeName", "countLabels", "(Ljava/lang/String;)I"⟩ : MethodName)) ho1 (mvT hZ1 (hw _ (List.mem_of_getElem? (i := 49) rfl))) (mvT hZ1 (hw _ (List.mem_of_getElem? (i := 50) rfl))) (mvT hZ1 (hw _ (List.mem_of_getElem? (i := 40) rfl))) (mvT hZ1 (hw _ (List.mem_of_getElem? (i := 51) rfl))) (by decide) (backOf (W := 0) (own_rm11 l Z a0 hw [] a xs cs sf h1 n0 Z1 Sb lx hcs S' hsf SF' hasc) hZ1 (hw _ (List.mem_of_getElem? (i := 51) rfl)) (hw _ (List.mem_of_getElem? (i := 40) rfl)) (by decide) (by decide)) (g := (mkF m 8 #[.val (.ref a), .unset, .unset, .unset, .unset] [(.ref a)])) rfl (by rw [hml]; rfl) (argsL := [(.ref a)]) (rest := []) (lenOf own_pd10 rfl) rfl (by show 2 * 0 + _ ≤ _; exact Nat.le_of_eq rfl) (hb hby own_d9_8) (fun _ _ => ⟨rfl, e2, (by decide : 2 + 0 ≤ _), (by decide : 20 + 0 ≤ _)⟩)
  dsimp only [Pt.U, Pt.locs, Pt.cells, Pt.slots] at X3 l3 y3 z3 st3 hQ3
  subst l3 y3 z3
  obtain ⟨rfl, N3q, e3⟩ := hQ3
  have N3 := Fr.app N2 N3q
  refine own_ww (T' := T3) (g' := (mkF m 11 #[.val (.ref a), .unset, .unset, .unset, .unset] [(.int (own_cl xs))])) st3 ?_
  refine own_ww (T' := T3) (g' := (mkF m 12 #[.val (.ref a), .val (.int (own_cl xs)), .unset, .unset, .unset] [])) (fun _ k_ => XS.istoreN X3.here hx rfl (hb hby own_d9_11) rfl (l' := #[.val (.ref a), .val (.int (own_cl xs)), .unset, .unset, .unset]) rfl k_) ?_
  refine own_ww (T' := T3) (g' := (mkF m 13 #[.val (.ref a), .val (.int (own_cl xs)), .unset, .unset, .unset] [(.int (own_cl xs))])) (fun _ k_ => XS.iloadN X3.here hx rfl (hb hby own_d9_12) rfl k_) ?_
  refine own_ww (T' := T3) (g' := (mkF m 14 #[.val (.ref a), .val (.int (own_cl xs)), .unset, .unset, .unset] [(.int (4 : Int32)), (.int (own_cl xs))])) (fun _ k_ => XS.iconst X3.here hx rfl (hb hby own_d9_13) k_) ?_
  refine own_ww (T' := T3) (g' := (mkF m 28 #[.val (.ref a), .val (.int (own_cl xs)), .unset, .unset, .unset] [])) (fun _ k_ => XS.icmpYes X3.here hx rfl (pc0 := 14) (pc' := 28) rfl (hb hby own_d9_14) rfl (flt hc4).2.2.2 (by decide) (by decide) k_) ?_
  refine own_ww (T' := T3) (g' := (mkF m 29 #[.val (.ref a), .val (.int (own_cl xs)), .unset, .unset, .unset] [(.int (0 : Int32))])) (fun _ k_ => XS.iconst X3.here hx rfl (hb hby own_d9_28) k_) ?_
  refine own_ww (T' := T3) (g' := (mkF m 30 #[.val (.ref a), .val (.int (own_cl xs)), .val (.int (0 : Int32)), .unset, .unset] [])) (fun _ k_ => XS.istoreN X3.here hx rfl (hb hby own_d9_29) rfl (l' := #[.val (.ref a), .val (.int (own_cl xs)), .val (.int (0 : Int32)), .unset, .unset]) rfl k_) ?_
  have loop : ∀ (fu : Nat) (TJ : State) (LJ : List Loc) (XJ : Stand p l e ({ frames := 5, cells := 3, slots := 21, locals := 70 } : Room) (s.setVm T1.vm) m #[(.ref a)] below meth c TJ LJ 2 20) (eJ : TJ.heap = h1) (NJ : Fr n0 LJ) (i' v3 v4 : Int32) (i : Nat) (hi : i'.toInt = (i : Int)) (hq : own_okp xs fu i = true), own_GW Z own_EL p e below s (own_Q9 Z a xs cs sf h0 n0) ({ frames := 5, cells := 3, slots := 21, locals := 70 } : Room).cells ({ frames := 5, cells := 3, slots := 21, locals := 70 } : Room).slots TJ (mkF m 30 #[.val (.ref a), .val (.int (own_cl xs)), .val (.int i'), .val (.int v3), .val (.int v4)] []) := by
    intro fu
    induction fu with
    | zero =>
      intro TJ LJ XJ eJ NJ i' v3 v4 i hi hq
      refine own_ww (T' := TJ) (g' := (mkF m 31 #[.val (.ref a), .val (.int (own_cl xs)), .val (.int i'), .val (.int v3), .val (.int v4)] [(.int i')])) (fun _ k_ => XS.iloadN XJ.here hx rfl (hb hby own_d9_30) rfl k_) ?_
      refine own_ww (T' := TJ) (g' := (mkF m 32 #[.val (.ref a), .val (.int (own_cl xs)), .val (.int i'), .val (.int v3), .val (.int v4)] [(.ref a), (.int i')])) (fun _ k_ => XS.aloadN XJ.here hx rfl (hb hby own_d9_31) rfl rfl k_) ?_
      obtain ⟨cq4, kq4, q4a, q4b, q4c⟩ := isOf hZ1 eJ Sb.1
      obtain ⟨_, _, ⟨T4, L4, k4, n4⟩, -, X4, ⟨Lc4, hQ4, l4, y4, z4⟩, st4⟩ := XJ.virtualBack hx (y := (⟨"java/lang/String", "length", "()I"⟩ : MethodName)) (z := (⟨"java/lang/String", "length", "()I"⟩ : MethodName)) ho1 (mvT hZ1 (hw _ (List.mem_of_getElem? (i := 52) rfl))) (mvT hZ1 (hw _ (List.mem_of_getElem? (i := 53) rfl))) (notFace_of_selects (args := #[]) (mvT hZ1 (hw _ (List.mem_of_getElem? (i := 55) rfl)))) (mvT hZ1 (hw _ (List.mem_of_getElem? (i := 55) rfl))) (mvT hZ1 (hw _ (List.mem_of_getElem? (i := 54) rfl))) (by decide) (backOf (W := 1) (own_rm12 l Z a0 hw [] a xs cs h1 n0 Z1 Sb lx hcs S') hZ1 (hw _ (List.mem_of_getElem? (i := 56) rfl)) (hw _ (List.mem_of_getElem? (i := 11) rfl)) (by decide) (by decide)) q4a q4c (g := (mkF m 32 #[.val (.ref a), .val (.int (own_cl xs)), .val (.int i'), .val (.int v3), .val (.int v4)] [(.ref a), (.int i')])) rfl (by rw [hml]; rfl) (Steps.refl _) (argsL := []) (rest := [(.int i')]) (lenOf own_pd8 rfl) rfl (by show 2 * 0 + _ ≤ _; exact Nat.le_of_eq rfl) (hb hby own_d9_32) (fun _ _ => ⟨rfl, eJ, (by decide : 2 + 0 ≤ _), (by decide : 20 + 0 ≤ _)⟩)
      dsimp only [Pt.U, Pt.locs, Pt.cells, Pt.slots] at X4 l4 y4 z4 st4 hQ4
      subst l4 y4 z4
      obtain ⟨rfl, N4q, e4⟩ := hQ4
      have N4 := Fr.app NJ N4q
      refine own_wt (T' := T4) (g' := (mkF m 35 #[.val (.ref a), .val (.int (own_cl xs)), .val (.int i'), .val (.int v3), .val (.int v4)] [(.int xs.length.toInt32), (.int i')])) st4 ?_
      refine own_ww (T' := T4) (g' := (mkF m 95 #[.val (.ref a), .val (.int (own_cl xs)), .val (.int i'), .val (.int v3), .val (.int v4)] [])) (fun _ k_ => XS.icmpYes X4.here hx rfl (pc0 := 35) (pc' := 95) rfl (hb hby own_d9_35) rfl (tlt ((own_lti (own_i32 lx) hi).mpr (own_okp_z hq))).2.2.1 (by decide) (by decide) k_) ?_
      obtain ⟨T5, h5, X5, e5, E5, A5, D5, -, st5⟩ := newO X4 hx hZ1 ho1 (hw _ (List.mem_of_getElem? (i := 109) rfl)) (hw _ (List.mem_of_getElem? (i := 110) rfl)) (hw _ (List.mem_of_getElem? (i := 40) rfl)) e4 (g := (mkF m 95 #[.val (.ref a), .val (.int (own_cl xs)), .val (.int i'), .val (.int v3), .val (.int v4)] [])) rfl (hb hby own_d9_95) (by decide) (by decide)
      obtain ⟨b5, gq5⟩ : ∃ z, z = h1.size := ⟨_, rfl⟩
      rw [← gq5] at A5 D5 st5
      have g_b5 : n0 ≤ b5 := Nat.le_trans Z1 (Nat.le_of_eq gq5.symm)
      have Z5 : n0 ≤ h5.size := Nat.le_trans Z1 E5.1
      have CS5 : CHr Z own_EL T1.vm h1 T1.vm h5 := CS1.trans (CHr.ext E5 CS1.1)
      have sf5_b5 : Safe Z own_EL T1.vm h5 b5 := Safe.ext E5 CS1.1 (Safe.new (Nat.le_of_eq gq5.symm))
      refine own_ww (T' := T5) (g' := (mkF m 98 #[.val (.ref a), .val (.int (own_cl xs)), .val (.int i'), .val (.int v3), .val (.int v4)] [(.ref b5)])) st5 ?_
      refine own_ww (T' := T5) (g' := (mkF m 99 #[.val (.ref a), .val (.int (own_cl xs)), .val (.int i'), .val (.int v3), .val (.int v4)] [(.ref b5), (.ref b5)])) (fun _ k_ => XS.dup X5.here hx rfl (hb hby own_d9_98) rfl rfl k_) ?_
      refine own_ww (T' := T5) (g' := (mkF m 100 #[.val (.ref a), .val (.int (own_cl xs)), .val (.int i'), .val (.int v3), .val (.int v4)] [(.ref a), (.ref b5), (.ref b5)])) (fun _ k_ => XS.aloadN X5.here hx rfl (hb hby own_d9_99) rfl rfl k_) ?_
      obtain ⟨_, _, ⟨T6, L6, k6, n6⟩, -, X6, ⟨Lc6, hQ6, l6, y6, z6⟩, st6⟩ := X5.specialBack hx (y := (⟨"com/example/adjacency/adjacency/identity/NodeName", "<init>", "(Ljava/lang/String;)V"⟩ : MethodName)) rfl ho1 (mvT hZ1 (hw _ (List.mem_of_getElem? (i := 111) rfl))) (mvT hZ1 (hw _ (List.mem_of_getElem? (i := 112) rfl))) (mvT hZ1 (hw _ (List.mem_of_getElem? (i := 113) rfl))) (by decide) (backOf (W := 1) (own_rm26 l Z a0 hw [] b5 a _ h5 n0 Z5 (D5 (Or.inr (hw _ (List.mem_of_getElem? (i := 116) rfl))) (ty := (.object "java/lang/String")) (by decide)) A5 g_b5) hZ1 (hw _ (List.mem_of_getElem? (i := 113) rfl)) (hw _ (List.mem_of_getElem? (i := 40) rfl)) (by decide) (by decide)) (g := (mkF m 100 #[.val (.ref a), .val (.int (own_cl xs)), .val (.int i'), .val (.int v3), .val (.int v4)] [(.ref a), (.ref b5), (.ref b5)])) rfl (by rw [hml]; rfl) (Steps.refl _) (a := b5) (argsL := [(.ref a)]) (rest := [(.ref b5)]) (lenOf own_pd21 rfl) rfl (by show 2 * 0 + _ ≤ _; exact Nat.le_of_eq rfl) (hb hby own_d9_100) (fun _ _ => ⟨rfl, e5, (by decide : 3 + 0 ≤ _), (by decide : 21 + 0 ≤ _)⟩)
      dsimp only [Pt.U, Pt.locs, Pt.cells, Pt.slots] at X6 l6 y6 z6 st6 hQ6
      subst l6 y6 z6
      obtain ⟨h6, e6⟩ : ∃ h, T6.heap = h := ⟨_, rfl⟩
      rw [e6] at hQ6
      obtain ⟨rfl, N6q, K6, F6⟩ := hQ6
      have CS6 : CHr Z own_EL T1.vm h1 T1.vm h6 := CS5.trans (CHr.keep K6 (sfS sf5_b5 sf0) CS5.1)
      have sf6_b5 := Safe.keep K6 (sfS sf5_b5 sf0) CS5.1 sf5_b5
      have N6 := Fr.app N4 N6q
      refine own_wt (T' := T6) (g' := (mkF m 103 #[.val (.ref a), .val (.int (own_cl xs)), .val (.int i'), .val (.int v3), .val (.int v4)] [(.ref b5)])) st6 ?_
      obtain ⟨fs, hr, hrun, hended, hRE⟩ := X6.leaveW (own_since hS1 CS6.2.1) (by rw [e6]; exact Nat.le_refl _) (v := some (.ref b5)) (fun h => by rw [Bd.returns] at h; cases h)
      exact ⟨_, _, retOut X6 hx Bd.returns rfl (Or.inr (Or.inr (Or.inr (Or.inr ⟨rfl, rfl, rfl⟩)))) (hb hby own_d9_103) hr, hrun, hended, _, _, rfl, (by show own_Q9 Z a xs cs sf h0 n0 _ T6.heap _; rw [e6]; exact ⟨_, rfl, N6, (((Keep.refl h0 []).ext E1).ext E5).trans K6 (fun x hx => Or.inr (by rw [List.mem_singleton.mp hx, gq5]; exact E1.1)), A5.keep K6, F6⟩), (by show CHr Z own_EL s.vm s.heap T6.vm T6.heap; rw [e6, hh]; exact (CB1.trans CS6).trans (CHv.at X6 hZ1 (own_EW hw) CS6.1)), own_rmono hRE (by decide) (by decide)⟩
    | succ fu ih =>
      intro TJ LJ XJ eJ NJ i' v3 v4 i hi hq
      refine own_ww (T' := TJ) (g' := (mkF m 31 #[.val (.ref a), .val (.int (own_cl xs)), .val (.int i'), .val (.int v3), .val (.int v4)] [(.int i')])) (fun _ k_ => XS.iloadN XJ.here hx rfl (hb hby own_d9_30) rfl k_) ?_
      refine own_ww (T' := TJ) (g' := (mkF m 32 #[.val (.ref a), .val (.int (own_cl xs)), .val (.int i'), .val (.int v3), .val (.int v4)] [(.ref a), (.int i')])) (fun _ k_ => XS.aloadN XJ.here hx rfl (hb hby own_d9_31) rfl rfl k_) ?_
      obtain ⟨cq7, kq7, q7a, q7b, q7c⟩ := isOf hZ1 eJ Sb.1
      obtain ⟨_, _, ⟨T7, L7, k7, n7⟩, -, X7, ⟨Lc7, hQ7, l7, y7, z7⟩, st7⟩ := XJ.virtualBack hx (y := (⟨"java/lang/String", "length", "()I"⟩ : MethodName)) (z := (⟨"java/lang/String", "length", "()I"⟩ : MethodName)) ho1 (mvT hZ1 (hw _ (List.mem_of_getElem? (i := 52) rfl))) (mvT hZ1 (hw _ (List.mem_of_getElem? (i := 53) rfl))) (notFace_of_selects (args := #[]) (mvT hZ1 (hw _ (List.mem_of_getElem? (i := 55) rfl)))) (mvT hZ1 (hw _ (List.mem_of_getElem? (i := 55) rfl))) (mvT hZ1 (hw _ (List.mem_of_getElem? (i := 54) rfl))) (by decide) (backOf (W := 1) (own_rm12 l Z a0 hw [] a xs cs h1 n0 Z1 Sb lx hcs S') hZ1 (hw _ (List.mem_of_getElem? (i := 56) rfl)) (hw _ (List.mem_of_getElem? (i := 11) rfl)) (by decide) (by decide)) q7a q7c (g := (mkF m 32 #[.val (.ref a), .val (.int (own_cl xs)), .val (.int i'), .val (.int v3), .val (.int v4)] [(.ref a), (.int i')])) rfl (by rw [hml]; rfl) (Steps.refl _) (argsL := []) (rest := [(.int i')]) (lenOf own_pd8 rfl) rfl (by show 2 * 0 + _ ≤ _; exact Nat.le_of_eq rfl) (hb hby own_d9_32) (fun _ _ => ⟨rfl, eJ, (by decide : 2 + 0 ≤ _), (by decide : 20 + 0 ≤ _)⟩)
      dsimp only [Pt.U, Pt.locs, Pt.cells, Pt.slots] at X7 l7 y7 z7 st7 hQ7
      subst l7 y7 z7
      obtain ⟨rfl, N7q, e7⟩ := hQ7
      have N7 := Fr.app NJ N7q
      refine own_wt (T' := T7) (g' := (mkF m 35 #[.val (.ref a), .val (.int (own_cl xs)), .val (.int i'), .val (.int v3), .val (.int v4)] [(.int xs.length.toInt32), (.int i')])) st7 ?_
      by_cases hl : xs.length < i
      · refine own_ww (T' := T7) (g' := (mkF m 95 #[.val (.ref a), .val (.int (own_cl xs)), .val (.int i'), .val (.int v3), .val (.int v4)] [])) (fun _ k_ => XS.icmpYes X7.here hx rfl (pc0 := 35) (pc' := 95) rfl (hb hby own_d9_35) rfl (tlt ((own_lti (own_i32 lx) hi).mpr hl)).2.2.1 (by decide) (by decide) k_) ?_
        obtain ⟨T8, h8, X8, e8, E8, A8, D8, -, st8⟩ := newO X7 hx hZ1 ho1 (hw _ (List.mem_of_getElem? (i := 109) rfl)) (hw _ (List.mem_of_getElem? (i := 110) rfl)) (hw _ (List.mem_of_getElem? (i := 40) rfl)) e7 (g := (mkF m 95 #[.val (.ref a), .val (.int (own_cl xs)), .val (.int i'), .val (.int v3), .val (.int v4)] [])) rfl (hb hby own_d9_95) (by decide) (by decide)
        obtain ⟨b8, gq8⟩ : ∃ z, z = h1.size := ⟨_, rfl⟩
        rw [← gq8] at A8 D8 st8
        have g_b8 : n0 ≤ b8 := Nat.le_trans Z1 (Nat.le_of_eq gq8.symm)
        have Z8 : n0 ≤ h8.size := Nat.le_trans Z1 E8.1
        have CS8 : CHr Z own_EL T1.vm h1 T1.vm h8 := CS1.trans (CHr.ext E8 CS1.1)
        have sf8_b8 : Safe Z own_EL T1.vm h8 b8 := Safe.ext E8 CS1.1 (Safe.new (Nat.le_of_eq gq8.symm))
        refine own_ww (T' := T8) (g' := (mkF m 98 #[.val (.ref a), .val (.int (own_cl xs)), .val (.int i'), .val (.int v3), .val (.int v4)] [(.ref b8)])) st8 ?_
        refine own_ww (T' := T8) (g' := (mkF m 99 #[.val (.ref a), .val (.int (own_cl xs)), .val (.int i'), .val (.int v3), .val (.int v4)] [(.ref b8), (.ref b8)])) (fun _ k_ => XS.dup X8.here hx rfl (hb hby own_d9_98) rfl rfl k_) ?_
        refine own_ww (T' := T8) (g' := (mkF m 100 #[.val (.ref a), .val (.int (own_cl xs)), .val (.int i'), .val (.int v3), .val (.int v4)] [(.ref a), (.ref b8), (.ref b8)])) (fun _ k_ => XS.aloadN X8.here hx rfl (hb hby own_d9_99) rfl rfl k_) ?_
        obtain ⟨_, _, ⟨T9, L9, k9, n9⟩, -, X9, ⟨Lc9, hQ9, l9, y9, z9⟩, st9⟩ := X8.specialBack hx (y := (⟨"com/example/adjacency/adjacency/identity/NodeName", "<init>", "(Ljava/lang/String;)V"⟩ : MethodName)) rfl ho1 (mvT hZ1 (hw _ (List.mem_of_getElem? (i := 111) rfl))) (mvT hZ1 (hw _ (List.mem_of_getElem? (i := 112) rfl))) (mvT hZ1 (hw _ (List.mem_of_getElem? (i := 113) rfl))) (by decide) (backOf (W := 1) (own_rm26 l Z a0 hw [] b8 a _ h8 n0 Z8 (D8 (Or.inr (hw _ (List.mem_of_getElem? (i := 116) rfl))) (ty := (.object "java/lang/String")) (by decide)) A8 g_b8) hZ1 (hw _ (List.mem_of_getElem? (i := 113) rfl)) (hw _ (List.mem_of_getElem? (i := 40) rfl)) (by decide) (by decide)) (g := (mkF m 100 #[.val (.ref a), .val (.int (own_cl xs)), .val (.int i'), .val (.int v3), .val (.int v4)] [(.ref a), (.ref b8), (.ref b8)])) rfl (by rw [hml]; rfl) (Steps.refl _) (a := b8) (argsL := [(.ref a)]) (rest := [(.ref b8)]) (lenOf own_pd21 rfl) rfl (by show 2 * 0 + _ ≤ _; exact Nat.le_of_eq rfl) (hb hby own_d9_100) (fun _ _ => ⟨rfl, e8, (by decide : 3 + 0 ≤ _), (by decide : 21 + 0 ≤ _)⟩)
        dsimp only [Pt.U, Pt.locs, Pt.cells, Pt.slots] at X9 l9 y9 z9 st9 hQ9
        subst l9 y9 z9
        obtain ⟨h9, e9⟩ : ∃ h, T9.heap = h := ⟨_, rfl⟩
        rw [e9] at hQ9
        obtain ⟨rfl, N9q, K9, F9⟩ := hQ9
        have CS9 : CHr Z own_EL T1.vm h1 T1.vm h9 := CS8.trans (CHr.keep K9 (sfS sf8_b8 sf0) CS8.1)
        have sf9_b8 := Safe.keep K9 (sfS sf8_b8 sf0) CS8.1 sf8_b8
        have N9 := Fr.app N7 N9q
        refine own_wt (T' := T9) (g' := (mkF m 103 #[.val (.ref a), .val (.int (own_cl xs)), .val (.int i'), .val (.int v3), .val (.int v4)] [(.ref b8)])) st9 ?_
        obtain ⟨fs, hr, hrun, hended, hRE⟩ := X9.leaveW (own_since hS1 CS9.2.1) (by rw [e9]; exact Nat.le_refl _) (v := some (.ref b8)) (fun h => by rw [Bd.returns] at h; cases h)
        exact ⟨_, _, retOut X9 hx Bd.returns rfl (Or.inr (Or.inr (Or.inr (Or.inr ⟨rfl, rfl, rfl⟩)))) (hb hby own_d9_103) hr, hrun, hended, _, _, rfl, (by show own_Q9 Z a xs cs sf h0 n0 _ T9.heap _; rw [e9]; exact ⟨_, rfl, N9, (((Keep.refl h0 []).ext E1).ext E8).trans K9 (fun x hx => Or.inr (by rw [List.mem_singleton.mp hx, gq8]; exact E1.1)), A8.keep K9, F9⟩), (by show CHr Z own_EL s.vm s.heap T9.vm T9.heap; rw [e9, hh]; exact (CB1.trans CS9).trans (CHv.at X9 hZ1 (own_EW hw) CS9.1)), own_rmono hRE (by decide) (by decide)⟩
      · obtain ⟨hlab, ho⟩ := own_okp_n hq hl
        refine own_ww (T' := T7) (g' := (mkF m 38 #[.val (.ref a), .val (.int (own_cl xs)), .val (.int i'), .val (.int v3), .val (.int v4)] [])) (fun _ k_ => XS.icmpNo X7.here hx rfl (hb hby own_d9_35) rfl (flt (fun q => hl ((own_lti (own_i32 lx) hi).mp q))).2.2.1 k_) ?_
        refine own_ww (T' := T7) (g' := (mkF m 39 #[.val (.ref a), .val (.int (own_cl xs)), .val (.int i'), .val (.int v3), .val (.int v4)] [(.ref a)])) (fun _ k_ => XS.aloadN X7.here hx rfl (hb hby own_d9_38) rfl rfl k_) ?_
        refine own_ww (T' := T7) (g' := (mkF m 41 #[.val (.ref a), .val (.int (own_cl xs)), .val (.int i'), .val (.int v3), .val (.int v4)] [(.int (46 : Int32)), (.ref a)])) (fun _ k_ => XS.bipush X7.here hx rfl (hb hby own_d9_39) k_) ?_
        refine own_ww (T' := T7) (g' := (mkF m 42 #[.val (.ref a), .val (.int (own_cl xs)), .val (.int i'), .val (.int v3), .val (.int v4)] [(.int i'), (.int (46 : Int32)), (.ref a)])) (fun _ k_ => XS.iloadN X7.here hx rfl (hb hby own_d9_41) rfl k_) ?_
        obtain ⟨cq10, kq10, q10a, q10b, q10c⟩ := isOf hZ1 e7 Sb.1
        obtain ⟨_, _, ⟨T10, L10, k10, n10⟩, -, X10, ⟨Lc10, hQ10, l10, y10, z10⟩, st10⟩ := X7.virtualBack hx (y := (⟨"java/lang/String", "indexOf", "(II)I"⟩ : MethodName)) (z := (⟨"java/lang/String", "indexOf", "(II)I"⟩ : MethodName)) ho1 (mvT hZ1 (hw _ (List.mem_of_getElem? (i := 84) rfl))) (mvT hZ1 (hw _ (List.mem_of_getElem? (i := 85) rfl))) (notFace_of_selects (args := #[]) (mvT hZ1 (hw _ (List.mem_of_getElem? (i := 87) rfl)))) (mvT hZ1 (hw _ (List.mem_of_getElem? (i := 87) rfl))) (mvT hZ1 (hw _ (List.mem_of_getElem? (i := 86) rfl))) (by decide) (backOf (W := 0) (own_rm19 l Z a0 hw [] a i' xs cs i h1 n0 Z1 Sb lx hcs S' hi) hZ1 (hw _ (List.mem_of_getElem? (i := 88) rfl)) (hw _ (List.mem_of_getElem? (i := 11) rfl)) (by decide) (by decide)) q10a q10c (g := (mkF m 42 #[.val (.ref a), .val (.int (own_cl xs)), .val (.int i'), .val (.int v3), .val (.int v4)] [(.int i'), (.int (46 : Int32)), (.ref a)])) rfl (by rw [hml]; rfl) (Steps.refl _) (argsL := [(.int (46 : Int32)), (.int i')]) (rest := []) (lenOf own_pd6 rfl) rfl (by show 2 * 0 + _ ≤ _; exact Nat.le_of_eq rfl) (hb hby own_d9_42) (fun _ _ => ⟨rfl, e7, (by decide : 2 + 0 ≤ _), (by decide : 20 + 0 ≤ _)⟩)
        dsimp only [Pt.U, Pt.locs, Pt.cells, Pt.slots] at X10 l10 y10 z10 st10 hQ10
        subst l10 y10 z10
        obtain ⟨rfl, N10q, e10⟩ := hQ10
        have N10 := Fr.app N7 N10q
        refine own_wt (T' := T10) (g' := (mkF m 45 #[.val (.ref a), .val (.int (own_cl xs)), .val (.int i'), .val (.int v3), .val (.int v4)] [(.int (own_io xs i))])) st10 ?_
        refine own_ww (T' := T10) (g' := (mkF m 46 #[.val (.ref a), .val (.int (own_cl xs)), .val (.int i'), .val (.int (own_io xs i)), .val (.int v4)] [])) (fun _ k_ => XS.istoreN X10.here hx rfl (hb hby own_d9_45) rfl (l' := #[.val (.ref a), .val (.int (own_cl xs)), .val (.int i'), .val (.int (own_io xs i)), .val (.int v4)]) rfl k_) ?_
        refine own_ww (T' := T10) (g' := (mkF m 47 #[.val (.ref a), .val (.int (own_cl xs)), .val (.int i'), .val (.int (own_io xs i)), .val (.int v4)] [(.int (own_io xs i))])) (fun _ k_ => XS.iloadN X10.here hx rfl (hb hby own_d9_46) rfl k_) ?_
        by_cases hc47 : (own_io xs i) < (0 : Int32)
        · refine own_ww (T' := T10) (g' := (mkF m 50 #[.val (.ref a), .val (.int (own_cl xs)), .val (.int i'), .val (.int (own_io xs i)), .val (.int v4)] [])) (fun _ k_ => XS.ifNo X10.here hx rfl (hb hby own_d9_47) rfl ((if0 _ _).trans (tlt hc47).2.1) k_) ?_
          refine own_ww (T' := T10) (g' := (mkF m 51 #[.val (.ref a), .val (.int (own_cl xs)), .val (.int i'), .val (.int (own_io xs i)), .val (.int v4)] [(.ref a)])) (fun _ k_ => XS.aloadN X10.here hx rfl (hb hby own_d9_50) rfl rfl k_) ?_
          obtain ⟨cq11, kq11, q11a, q11b, q11c⟩ := isOf hZ1 e10 Sb.1
          obtain ⟨_, _, ⟨T11, L11, k11, n11⟩, -, X11, ⟨Lc11, hQ11, l11, y11, z11⟩, st11⟩ := X10.virtualBack hx (y := (⟨"java/lang/String", "length", "()I"⟩ : MethodName)) (z := (⟨"java/lang/String", "length", "()I"⟩ : MethodName)) ho1 (mvT hZ1 (hw _ (List.mem_of_getElem? (i := 52) rfl))) (mvT hZ1 (hw _ (List.mem_of_getElem? (i := 53) rfl))) (notFace_of_selects (args := #[]) (mvT hZ1 (hw _ (List.mem_of_getElem? (i := 55) rfl)))) (mvT hZ1 (hw _ (List.mem_of_getElem? (i := 55) rfl))) (mvT hZ1 (hw _ (List.mem_of_getElem? (i := 54) rfl))) (by decide) (backOf (W := 0) (own_rm12 l Z a0 hw [] a xs cs h1 n0 Z1 Sb lx hcs S') hZ1 (hw _ (List.mem_of_getElem? (i := 56) rfl)) (hw _ (List.mem_of_getElem? (i := 11) rfl)) (by decide) (by decide)) q11a q11c (g := (mkF m 51 #[.val (.ref a), .val (.int (own_cl xs)), .val (.int i'), .val (.int (own_io xs i)), .val (.int v4)] [(.ref a)])) rfl (by rw [hml]; rfl) (Steps.refl _) (argsL := []) (rest := []) (lenOf own_pd8 rfl) rfl (by show 2 * 0 + _ ≤ _; exact Nat.le_of_eq rfl) (hb hby own_d9_51) (fun _ _ => ⟨rfl, e10, (by decide : 2 + 0 ≤ _), (by decide : 20 + 0 ≤ _)⟩)
          dsimp only [Pt.U, Pt.locs, Pt.cells, Pt.slots] at X11 l11 y11 z11 st11 hQ11
          subst l11 y11 z11
          obtain ⟨rfl, N11q, e11⟩ := hQ11
          have N11 := Fr.app N10 N11q
          refine own_wt (T' := T11) (g' := (mkF m 54 #[.val (.ref a), .val (.int (own_cl xs)), .val (.int i'), .val (.int (own_io xs i)), .val (.int v4)] [(.int xs.length.toInt32)])) st11 ?_
          refine own_ww (T' := T11) (g' := (mkF m 58 #[.val (.ref a), .val (.int (own_cl xs)), .val (.int i'), .val (.int (own_io xs i)), .val (.int v4)] [(.int xs.length.toInt32)])) (fun _ k_ => XS.goto X11.here hx rfl (pc0 := 54) (pc' := 58) rfl (hb hby own_d9_54) (by decide) (by decide) k_) ?_
          refine own_ww (T' := T11) (g' := (mkF m 60 #[.val (.ref a), .val (.int (own_cl xs)), .val (.int i'), .val (.int (own_io xs i)), .val (.int xs.length.toInt32)] [])) (fun _ k_ => XS.istore X11.here hx rfl (hb hby own_d9_58) rfl (l' := #[.val (.ref a), .val (.int (own_cl xs)), .val (.int i'), .val (.int (own_io xs i)), .val (.int xs.length.toInt32)]) rfl k_) ?_
          refine own_ww (T' := T11) (g' := (mkF m 61 #[.val (.ref a), .val (.int (own_cl xs)), .val (.int i'), .val (.int (own_io xs i)), .val (.int xs.length.toInt32)] [(.ref a)])) (fun _ k_ => XS.aloadN X11.here hx rfl (hb hby own_d9_60) rfl rfl k_) ?_
          refine own_ww (T' := T11) (g' := (mkF m 62 #[.val (.ref a), .val (.int (own_cl xs)), .val (.int i'), .val (.int (own_io xs i)), .val (.int xs.length.toInt32)] [(.int i'), (.ref a)])) (fun _ k_ => XS.iloadN X11.here hx rfl (hb hby own_d9_61) rfl k_) ?_
          refine own_ww (T' := T11) (g' := (mkF m 64 #[.val (.ref a), .val (.int (own_cl xs)), .val (.int i'), .val (.int (own_io xs i)), .val (.int xs.length.toInt32)] [(.int xs.length.toInt32), (.int i'), (.ref a)])) (fun _ k_ => XS.iload X11.here hx rfl (hb hby own_d9_62) rfl k_) ?_
          have he := own_end_lt hc47 lx
          have hb' := own_lab_spec hlab
          obtain ⟨_, _, ⟨T12, L12, k12, n12⟩, -, X12, ⟨Lc12, hQ12, l12, y12, z12⟩, st12⟩ := Jvm.LawKit.callS X11 hx (y := (⟨"com/example/adjacency/adjacency/identity/NodeName", "isLabel", "(Ljava/lang/String;II)Z"⟩ : MethodName)) ho1 (mvT hZ1 (hw _ (List.mem_of_getElem? (i := 106) rfl))) (mvT hZ1 (hw _ (List.mem_of_getElem? (i := 107) rfl))) (mvT hZ1 (hw _ (List.mem_of_getElem? (i := 40) rfl))) (mvT hZ1 (hw _ (List.mem_of_getElem? (i := 108) rfl))) (by decide) (backOf (W := 0) (own_rm25 l Z a0 hw [] a i' xs.length.toInt32 xs cs sf i (own_end xs i) h1 n0 Z1 Sb lx hcs S' hsf SF' hasc hi he hlab) hZ1 (hw _ (List.mem_of_getElem? (i := 108) rfl)) (hw _ (List.mem_of_getElem? (i := 40) rfl)) (by decide) (by decide)) (g := (mkF m 64 #[.val (.ref a), .val (.int (own_cl xs)), .val (.int i'), .val (.int (own_io xs i)), .val (.int xs.length.toInt32)] [(.int xs.length.toInt32), (.int i'), (.ref a)])) rfl (by rw [hml]; rfl) (argsL := [(.ref a), (.int i'), (.int xs.length.toInt32)]) (rest := []) (lenOf own_pd22 rfl) rfl (by show 2 * 0 + _ ≤ _; exact Nat.le_of_eq rfl) (hb hby own_d9_64) (fun _ _ => ⟨rfl, e11, (by decide : 2 + 0 ≤ _), (by decide : 20 + 0 ≤ _)⟩)
          dsimp only [Pt.U, Pt.locs, Pt.cells, Pt.slots] at X12 l12 y12 z12 st12 hQ12
          subst l12 y12 z12
          obtain ⟨rfl, N12q, e12⟩ := hQ12
          have N12 := Fr.app N11 N12q
          refine own_ww (T' := T12) (g' := (mkF m 67 #[.val (.ref a), .val (.int (own_cl xs)), .val (.int i'), .val (.int (own_io xs i)), .val (.int xs.length.toInt32)] [(.int (1 : Int32))])) st12 ?_
          refine own_ww (T' := T12) (g' := (mkF m 87 #[.val (.ref a), .val (.int (own_cl xs)), .val (.int i'), .val (.int (own_io xs i)), .val (.int xs.length.toInt32)] [])) (fun _ k_ => XS.ifYes X12.here hx rfl (pc0 := 67) (pc' := 87) rfl (hb hby own_d9_67) rfl ((if0 _ _).trans (feq (by decide)).2) (by decide) (by decide) k_) ?_
          refine own_ww (T' := T12) (g' := (mkF m 89 #[.val (.ref a), .val (.int (own_cl xs)), .val (.int i'), .val (.int (own_io xs i)), .val (.int xs.length.toInt32)] [(.int xs.length.toInt32)])) (fun _ k_ => XS.iload X12.here hx rfl (hb hby own_d9_87) rfl k_) ?_
          refine own_ww (T' := T12) (g' := (mkF m 90 #[.val (.ref a), .val (.int (own_cl xs)), .val (.int i'), .val (.int (own_io xs i)), .val (.int xs.length.toInt32)] [(.int (1 : Int32)), (.int xs.length.toInt32)])) (fun _ k_ => XS.iconst X12.here hx rfl (hb hby own_d9_89) k_) ?_
          refine own_ww (T' := T12) (g' := (mkF m 91 #[.val (.ref a), .val (.int (own_cl xs)), .val (.int i'), .val (.int (own_io xs i)), .val (.int xs.length.toInt32)] [(.int (xs.length.toInt32 + (1 : Int32)))])) (fun _ k_ => XS.iadd X12.here hx rfl (hb hby own_d9_90) rfl k_) ?_
          refine own_ww (T' := T12) (g' := (mkF m 92 #[.val (.ref a), .val (.int (own_cl xs)), .val (.int (xs.length.toInt32 + (1 : Int32))), .val (.int (own_io xs i)), .val (.int xs.length.toInt32)] [])) (fun _ k_ => XS.istoreN X12.here hx rfl (hb hby own_d9_91) rfl (l' := #[.val (.ref a), .val (.int (own_cl xs)), .val (.int (xs.length.toInt32 + (1 : Int32))), .val (.int (own_io xs i)), .val (.int xs.length.toInt32)]) rfl k_) ?_
          refine own_ww (T' := T12) (g' := (mkF m 30 #[.val (.ref a), .val (.int (own_cl xs)), .val (.int (xs.length.toInt32 + (1 : Int32))), .val (.int (own_io xs i)), .val (.int xs.length.toInt32)] [])) (fun _ k_ => XS.goto X12.here hx rfl (pc0 := 92) (pc' := 30) rfl (hb hby own_d9_92) (by decide) (by decide) k_) ?_
          exact ih _ _ X12 e12 N12 _ _ _ (own_end xs i + 1) (own_n1 he (by omega)) ho
        · refine own_ww (T' := T10) (g' := (mkF m 57 #[.val (.ref a), .val (.int (own_cl xs)), .val (.int i'), .val (.int (own_io xs i)), .val (.int v4)] [])) (fun _ k_ => XS.ifYes X10.here hx rfl (pc0 := 47) (pc' := 57) rfl (hb hby own_d9_47) rfl ((if0 _ _).trans (flt hc47).2.1) (by decide) (by decide) k_) ?_
          refine own_ww (T' := T10) (g' := (mkF m 58 #[.val (.ref a), .val (.int (own_cl xs)), .val (.int i'), .val (.int (own_io xs i)), .val (.int v4)] [(.int (own_io xs i))])) (fun _ k_ => XS.iloadN X10.here hx rfl (hb hby own_d9_57) rfl k_) ?_
          refine own_ww (T' := T10) (g' := (mkF m 60 #[.val (.ref a), .val (.int (own_cl xs)), .val (.int i'), .val (.int (own_io xs i)), .val (.int (own_io xs i))] [])) (fun _ k_ => XS.istore X10.here hx rfl (hb hby own_d9_58) rfl (l' := #[.val (.ref a), .val (.int (own_cl xs)), .val (.int i'), .val (.int (own_io xs i)), .val (.int (own_io xs i))]) rfl k_) ?_
          refine own_ww (T' := T10) (g' := (mkF m 61 #[.val (.ref a), .val (.int (own_cl xs)), .val (.int i'), .val (.int (own_io xs i)), .val (.int (own_io xs i))] [(.ref a)])) (fun _ k_ => XS.aloadN X10.here hx rfl (hb hby own_d9_60) rfl rfl k_) ?_
          refine own_ww (T' := T10) (g' := (mkF m 62 #[.val (.ref a), .val (.int (own_cl xs)), .val (.int i'), .val (.int (own_io xs i)), .val (.int (own_io xs i))] [(.int i'), (.ref a)])) (fun _ k_ => XS.iloadN X10.here hx rfl (hb hby own_d9_61) rfl k_) ?_
          refine own_ww (T' := T10) (g' := (mkF m 64 #[.val (.ref a), .val (.int (own_cl xs)), .val (.int i'), .val (.int (own_io xs i)), .val (.int (own_io xs i))] [(.int (own_io xs i)), (.int i'), (.ref a)])) (fun _ k_ => XS.iload X10.here hx rfl (hb hby own_d9_62) rfl k_) ?_
          have he := own_end_ge (xs := xs) (i := i) hc47
          have hb' := own_lab_spec hlab
          obtain ⟨_, _, ⟨T13, L13, k13, n13⟩, -, X13, ⟨Lc13, hQ13, l13, y13, z13⟩, st13⟩ := Jvm.LawKit.callS X10 hx (y := (⟨"com/example/adjacency/adjacency/identity/NodeName", "isLabel", "(Ljava/lang/String;II)Z"⟩ : MethodName)) ho1 (mvT hZ1 (hw _ (List.mem_of_getElem? (i := 106) rfl))) (mvT hZ1 (hw _ (List.mem_of_getElem? (i := 107) rfl))) (mvT hZ1 (hw _ (List.mem_of_getElem? (i := 40) rfl))) (mvT hZ1 (hw _ (List.mem_of_getElem? (i := 108) rfl))) (by decide) (backOf (W := 0) (own_rm25 l Z a0 hw [] a i' (own_io xs i) xs cs sf i (own_end xs i) h1 n0 Z1 Sb lx hcs S' hsf SF' hasc hi he hlab) hZ1 (hw _ (List.mem_of_getElem? (i := 108) rfl)) (hw _ (List.mem_of_getElem? (i := 40) rfl)) (by decide) (by decide)) (g := (mkF m 64 #[.val (.ref a), .val (.int (own_cl xs)), .val (.int i'), .val (.int (own_io xs i)), .val (.int (own_io xs i))] [(.int (own_io xs i)), (.int i'), (.ref a)])) rfl (by rw [hml]; rfl) (argsL := [(.ref a), (.int i'), (.int (own_io xs i))]) (rest := []) (lenOf own_pd22 rfl) rfl (by show 2 * 0 + _ ≤ _; exact Nat.le_of_eq rfl) (hb hby own_d9_64) (fun _ _ => ⟨rfl, e10, (by decide : 2 + 0 ≤ _), (by decide : 20 + 0 ≤ _)⟩)
          dsimp only [Pt.U, Pt.locs, Pt.cells, Pt.slots] at X13 l13 y13 z13 st13 hQ13
          subst l13 y13 z13
          obtain ⟨rfl, N13q, e13⟩ := hQ13
          have N13 := Fr.app N10 N13q
          refine own_ww (T' := T13) (g' := (mkF m 67 #[.val (.ref a), .val (.int (own_cl xs)), .val (.int i'), .val (.int (own_io xs i)), .val (.int (own_io xs i))] [(.int (1 : Int32))])) st13 ?_
          refine own_ww (T' := T13) (g' := (mkF m 87 #[.val (.ref a), .val (.int (own_cl xs)), .val (.int i'), .val (.int (own_io xs i)), .val (.int (own_io xs i))] [])) (fun _ k_ => XS.ifYes X13.here hx rfl (pc0 := 67) (pc' := 87) rfl (hb hby own_d9_67) rfl ((if0 _ _).trans (feq (by decide)).2) (by decide) (by decide) k_) ?_
          refine own_ww (T' := T13) (g' := (mkF m 89 #[.val (.ref a), .val (.int (own_cl xs)), .val (.int i'), .val (.int (own_io xs i)), .val (.int (own_io xs i))] [(.int (own_io xs i))])) (fun _ k_ => XS.iload X13.here hx rfl (hb hby own_d9_87) rfl k_) ?_
          refine own_ww (T' := T13) (g' := (mkF m 90 #[.val (.ref a), .val (.int (own_cl xs)), .val (.int i'), .val (.int (own_io xs i)), .val (.int (own_io xs i))] [(.int (1 : Int32)), (.int (own_io xs i))])) (fun _ k_ => XS.iconst X13.here hx rfl (hb hby own_d9_89) k_) ?_
          refine own_ww (T' := T13) (g' := (mkF m 91 #[.val (.ref a), .val (.int (own_cl xs)), .val (.int i'), .val (.int (own_io xs i)), .val (.int (own_io xs i))] [(.int ((own_io xs i) + (1 : Int32)))])) (fun _ k_ => XS.iadd X13.here hx rfl (hb hby own_d9_90) rfl k_) ?_
          refine own_ww (T' := T13) (g' := (mkF m 92 #[.val (.ref a), .val (.int (own_cl xs)), .val (.int ((own_io xs i) + (1 : Int32))), .val (.int (own_io xs i)), .val (.int (own_io xs i))] [])) (fun _ k_ => XS.istoreN X13.here hx rfl (hb hby own_d9_91) rfl (l' := #[.val (.ref a), .val (.int (own_cl xs)), .val (.int ((own_io xs i) + (1 : Int32))), .val (.int (own_io xs i)), .val (.int (own_io xs i))]) rfl k_) ?_
          refine own_ww (T' := T13) (g' := (mkF m 30 #[.val (.ref a), .val (.int (own_cl xs)), .val (.int ((own_io xs i) + (1 : Int32))), .val (.int (own_io xs i)), .val (.int (own_io xs i))] [])) (fun _ k_ => XS.goto X13.here hx rfl (pc0 := 92) (pc' := 30) rfl (hb hby own_d9_92) (by decide) (by decide) k_) ?_
          exact ih _ _ X13 e13 N13 _ _ _ (own_end xs i + 1) (own_n1 he (by omega)) ho
  refine own_ww (T' := T3) (g' := (mkF m 31 #[.val (.ref a), .val (.int (own_cl xs)), .val (.int (0 : Int32)), .unset, .unset] [(.int (0 : Int32))])) (fun _ k_ => XS.iloadN X3.here hx rfl (hb hby own_d9_30) rfl k_) ?_
  refine own_ww (T' := T3) (g' := (mkF m 32 #[.val (.ref a), .val (.int (own_cl xs)), .val (.int (0 : Int32)), .unset, .unset] [(.ref a), (.int (0 : Int32))])) (fun _ k_ => XS.aloadN X3.here hx rfl (hb hby own_d9_31) rfl rfl k_) ?_
  obtain ⟨cq14, kq14, q14a, q14b, q14c⟩ := isOf hZ1 e3 Sb.1
  obtain ⟨_, _, ⟨T14, L14, k14, n14⟩, -, X14, ⟨Lc14, hQ14, l14, y14, z14⟩, st14⟩ := X3.virtualBack hx (y := (⟨"java/lang/String", "length", "()I"⟩ : MethodName)) (z := (⟨"java/lang/String", "length", "()I"⟩ : MethodName)) ho1 (mvT hZ1 (hw _ (List.mem_of_getElem? (i := 52) rfl))) (mvT hZ1 (hw _ (List.mem_of_getElem? (i := 53) rfl))) (notFace_of_selects (args := #[]) (mvT hZ1 (hw _ (List.mem_of_getElem? (i := 55) rfl)))) (mvT hZ1 (hw _ (List.mem_of_getElem? (i := 55) rfl))) (mvT hZ1 (hw _ (List.mem_of_getElem? (i := 54) rfl))) (by decide) (backOf (W := 1) (own_rm12 l Z a0 hw [] a xs cs h1 n0 Z1 Sb lx hcs S') hZ1 (hw _ (List.mem_of_getElem? (i := 56) rfl)) (hw _ (List.mem_of_getElem? (i := 11) rfl)) (by decide) (by decide)) q14a q14c (g := (mkF m 32 #[.val (.ref a), .val (.int (own_cl xs)), .val (.int (0 : Int32)), .unset, .unset] [(.ref a), (.int (0 : Int32))])) rfl (by rw [hml]; rfl) (Steps.refl _) (argsL := []) (rest := [(.int (0 : Int32))]) (lenOf own_pd8 rfl) rfl (by show 2 * 0 + _ ≤ _; exact Nat.le_of_eq rfl) (hb hby own_d9_32) (fun _ _ => ⟨rfl, e3, (by decide : 2 + 0 ≤ _), (by decide : 20 + 0 ≤ _)⟩)
  dsimp only [Pt.U, Pt.locs, Pt.cells, Pt.slots] at X14 l14 y14 z14 st14 hQ14
  subst l14 y14 z14
  obtain ⟨rfl, N14q, e14⟩ := hQ14
  have N14 := Fr.app N3 N14q
  refine own_wt (T' := T14) (g' := (mkF m 35 #[.val (.ref a), .val (.int (own_cl xs)), .val (.int (0 : Int32)), .unset, .unset] [(.int xs.length.toInt32), (.int (0 : Int32))])) st14 ?_
  obtain ⟨hlab, ho⟩ := own_okp_n hok (Nat.not_lt_zero _)
  refine own_ww (T' := T14) (g' := (mkF m 38 #[.val (.ref a), .val (.int (own_cl xs)), .val (.int (0 : Int32)), .unset, .unset] [])) (fun _ k_ => XS.icmpNo X14.here hx rfl (hb hby own_d9_35) rfl (flt (fun q => Nat.not_lt_zero _ ((own_lti (b := 0) (own_i32 lx) (by decide)).mp q))).2.2.1 k_) ?_
  refine own_ww (T' := T14) (g' := (mkF m 39 #[.val (.ref a), .val (.int (own_cl xs)), .val (.int (0 : Int32)), .unset, .unset] [(.ref a)])) (fun _ k_ => XS.aloadN X14.here hx rfl (hb hby own_d9_38) rfl rfl k_) ?_
  refine own_ww (T' := T14) (g' := (mkF m 41 #[.val (.ref a), .val (.int (own_cl xs)), .val (.int (0 : Int32)), .unset, .unset] [(.int (46 : Int32)), (.ref a)])) (fun _ k_ => XS.bipush X14.here hx rfl (hb hby own_d9_39) k_) ?_
  refine own_ww (T' := T14) (g' := (mkF m 42 #[.val (.ref a), .val (.int (own_cl xs)), .val (.int (0 : Int32)), .unset, .unset] [(.int (0 : Int32)), (.int (46 : Int32)), (.ref a)])) (fun _ k_ => XS.iloadN X14.here hx rfl (hb hby own_d9_41) rfl k_) ?_
  obtain ⟨cq15, kq15, q15a, q15b, q15c⟩ := isOf hZ1 e14 Sb.1
  obtain ⟨_, _, ⟨T15, L15, k15, n15⟩, -, X15, ⟨Lc15, hQ15, l15, y15, z15⟩, st15⟩ := X14.virtualBack hx (y := (⟨"java/lang/String", "indexOf", "(II)I"⟩ : MethodName)) (z := (⟨"java/lang/String", "indexOf", "(II)I"⟩ : MethodName)) ho1 (mvT hZ1 (hw _ (List.mem_of_getElem? (i := 84) rfl))) (mvT hZ1 (hw _ (List.mem_of_getElem? (i := 85) rfl))) (notFace_of_selects (args := #[]) (mvT hZ1 (hw _ (List.mem_of_getElem? (i := 87) rfl)))) (mvT hZ1 (hw _ (List.mem_of_getElem? (i := 87) rfl))) (mvT hZ1 (hw _ (List.mem_of_getElem? (i := 86) rfl))) (by decide) (backOf (W := 0) (own_rm19 l Z a0 hw [] a (0 : Int32) xs cs 0 h1 n0 Z1 Sb lx hcs S' (by decide)) hZ1 (hw _ (List.mem_of_getElem? (i := 88) rfl)) (hw _ (List.mem_of_getElem? (i := 11) rfl)) (by decide) (by decide)) q15a q15c (g := (mkF m 42 #[.val (.ref a), .val (.int (own_cl xs)), .val (.int (0 : Int32)), .unset, .unset] [(.int (0 : Int32)), (.int (46 : Int32)), (.ref a)])) rfl (by rw [hml]; rfl) (Steps.refl _) (argsL := [(.int (46 : Int32)), (.int (0 : Int32))]) (rest := []) (lenOf own_pd6 rfl) rfl (by show 2 * 0 + _ ≤ _; exact Nat.le_of_eq rfl) (hb hby own_d9_42) (fun _ _ => ⟨rfl, e14, (by decide : 2 + 0 ≤ _), (by decide : 20 + 0 ≤ _)⟩)
  dsimp only [Pt.U, Pt.locs, Pt.cells, Pt.slots] at X15 l15 y15 z15 st15 hQ15
  subst l15 y15 z15
  obtain ⟨rfl, N15q, e15⟩ := hQ15
  have N15 := Fr.app N14 N15q
  refine own_wt (T' := T15) (g' := (mkF m 45 #[.val (.ref a), .val (.int (own_cl xs)), .val (.int (0 : Int32)), .unset, .unset] [(.int (own_io xs 0))])) st15 ?_
  refine own_ww (T' := T15) (g' := (mkF m 46 #[.val (.ref a), .val (.int (own_cl xs)), .val (.int (0 : Int32)), .val (.int (own_io xs 0)), .unset] [])) (fun _ k_ => XS.istoreN X15.here hx rfl (hb hby own_d9_45) rfl (l' := #[.val (.ref a), .val (.int (own_cl xs)), .val (.int (0 : Int32)), .val (.int (own_io xs 0)), .unset]) rfl k_) ?_
  refine own_ww (T' := T15) (g' := (mkF m 47 #[.val (.ref a), .val (.int (own_cl xs)), .val (.int (0 : Int32)), .val (.int (own_io xs 0)), .unset] [(.int (own_io xs 0))])) (fun _ k_ => XS.iloadN X15.here hx rfl (hb hby own_d9_46) rfl k_) ?_
  by_cases hc47 : (own_io xs 0) < (0 : Int32)
  · refine own_ww (T' := T15) (g' := (mkF m 50 #[.val (.ref a), .val (.int (own_cl xs)), .val (.int (0 : Int32)), .val (.int (own_io xs 0)), .unset] [])) (fun _ k_ => XS.ifNo X15.here hx rfl (hb hby own_d9_47) rfl ((if0 _ _).trans (tlt hc47).2.1) k_) ?_
    refine own_ww (T' := T15) (g' := (mkF m 51 #[.val (.ref a), .val (.int (own_cl xs)), .val (.int (0 : Int32)), .val (.int (own_io xs 0)), .unset] [(.ref a)])) (fun _ k_ => XS.aloadN X15.here hx rfl (hb hby own_d9_50) rfl rfl k_) ?_
    obtain ⟨cq16, kq16, q16a, q16b, q16c⟩ := isOf hZ1 e15 Sb.1
    obtain ⟨_, _, ⟨T16, L16, k16, n16⟩, -, X16, ⟨Lc16, hQ16, l16, y16, z16⟩, st16⟩ := X15.virtualBack hx (y := (⟨"java/lang/String", "length", "()I"⟩ : MethodName)) (z := (⟨"java/lang/String", "length", "()I"⟩ : MethodName)) ho1 (mvT hZ1 (hw _ (List.mem_of_getElem? (i := 52) rfl))) (mvT hZ1 (hw _ (List.mem_of_getElem? (i := 53) rfl))) (notFace_of_selects (args := #[]) (mvT hZ1 (hw _ (List.mem_of_getElem? (i := 55) rfl)))) (mvT hZ1 (hw _ (List.mem_of_getElem? (i := 55) rfl))) (mvT hZ1 (hw _ (List.mem_of_getElem? (i := 54) rfl))) (by decide) (backOf (W := 0) (own_rm12 l Z a0 hw [] a xs cs h1 n0 Z1 Sb lx hcs S') hZ1 (hw _ (List.mem_of_getElem? (i := 56) rfl)) (hw _ (List.mem_of_getElem? (i := 11) rfl)) (by decide) (by decide)) q16a q16c (g := (mkF m 51 #[.val (.ref a), .val (.int (own_cl xs)), .val (.int (0 : Int32)), .val (.int (own_io xs 0)), .unset] [(.ref a)])) rfl (by rw [hml]; rfl) (Steps.refl _) (argsL := []) (rest := []) (lenOf own_pd8 rfl) rfl (by show 2 * 0 + _ ≤ _; exact Nat.le_of_eq rfl) (hb hby own_d9_51) (fun _ _ => ⟨rfl, e15, (by decide : 2 + 0 ≤ _), (by decide : 20 + 0 ≤ _)⟩)
    dsimp only [Pt.U, Pt.locs, Pt.cells, Pt.slots] at X16 l16 y16 z16 st16 hQ16
    subst l16 y16 z16
    obtain ⟨rfl, N16q, e16⟩ := hQ16
    have N16 := Fr.app N15 N16q
    refine own_wt (T' := T16) (g' := (mkF m 54 #[.val (.ref a), .val (.int (own_cl xs)), .val (.int (0 : Int32)), .val (.int (own_io xs 0)), .unset] [(.int xs.length.toInt32)])) st16 ?_
    refine own_ww (T' := T16) (g' := (mkF m 58 #[.val (.ref a), .val (.int (own_cl xs)), .val (.int (0 : Int32)), .val (.int (own_io xs 0)), .unset] [(.int xs.length.toInt32)])) (fun _ k_ => XS.goto X16.here hx rfl (pc0 := 54) (pc' := 58) rfl (hb hby own_d9_54) (by decide) (by decide) k_) ?_
    refine own_ww (T' := T16) (g' := (mkF m 60 #[.val (.ref a), .val (.int (own_cl xs)), .val (.int (0 : Int32)), .val (.int (own_io xs 0)), .val (.int xs.length.toInt32)] [])) (fun _ k_ => XS.istore X16.here hx rfl (hb hby own_d9_58) rfl (l' := #[.val (.ref a), .val (.int (own_cl xs)), .val (.int (0 : Int32)), .val (.int (own_io xs 0)), .val (.int xs.length.toInt32)]) rfl k_) ?_
    refine own_ww (T' := T16) (g' := (mkF m 61 #[.val (.ref a), .val (.int (own_cl xs)), .val (.int (0 : Int32)), .val (.int (own_io xs 0)), .val (.int xs.length.toInt32)] [(.ref a)])) (fun _ k_ => XS.aloadN X16.here hx rfl (hb hby own_d9_60) rfl rfl k_) ?_
    refine own_ww (T' := T16) (g' := (mkF m 62 #[.val (.ref a), .val (.int (own_cl xs)), .val (.int (0 : Int32)), .val (.int (own_io xs 0)), .val (.int xs.length.toInt32)] [(.int (0 : Int32)), (.ref a)])) (fun _ k_ => XS.iloadN X16.here hx rfl (hb hby own_d9_61) rfl k_) ?_
    refine own_ww (T' := T16) (g' := (mkF m 64 #[.val (.ref a), .val (.int (own_cl xs)), .val (.int (0 : Int32)), .val (.int (own_io xs 0)), .val (.int xs.length.toInt32)] [(.int xs.length.toInt32), (.int (0 : Int32)), (.ref a)])) (fun _ k_ => XS.iload X16.here hx rfl (hb hby own_d9_62) rfl k_) ?_
    have he := own_end_lt hc47 lx
    have hb' := own_lab_spec hlab
    obtain ⟨_, _, ⟨T17, L17, k17, n17⟩, -, X17, ⟨Lc17, hQ17, l17, y17, z17⟩, st17⟩ := Jvm.LawKit.callS X16 hx (y := (⟨"com/example/adjacency/adjacency/identity/NodeName", "isLabel", "(Ljava/lang/String;II)Z"⟩ : MethodName)) ho1 (mvT hZ1 (hw _ (List.mem_of_getElem? (i := 106) rfl))) (mvT hZ1 (hw _ (List.mem_of_getElem? (i := 107) rfl))) (mvT hZ1 (hw _ (List.mem_of_getElem? (i := 40) rfl))) (mvT hZ1 (hw _ (List.mem_of_getElem? (i := 108) rfl))) (by decide) (backOf (W := 0) (own_rm25 l Z a0 hw [] a (0 : Int32) xs.length.toInt32 xs cs sf 0 (own_end xs 0) h1 n0 Z1 Sb lx hcs S' hsf SF' hasc (by decide) he hlab) hZ1 (hw _ (List.mem_of_getElem? (i := 108) rfl)) (hw _ (List.mem_of_getElem? (i := 40) rfl)) (by decide) (by decide)) (g := (mkF m 64 #[.val (.ref a), .val (.int (own_cl xs)), .val (.int (0 : Int32)), .val (.int (own_io xs 0)), .val (.int xs.length.toInt32)] [(.int xs.length.toInt32), (.int (0 : Int32)), (.ref a)])) rfl (by rw [hml]; rfl) (argsL := [(.ref a), (.int (0 : Int32)), (.int xs.length.toInt32)]) (rest := []) (lenOf own_pd22 rfl) rfl (by show 2 * 0 + _ ≤ _; exact Nat.le_of_eq rfl) (hb hby own_d9_64) (fun _ _ => ⟨rfl, e16, (by decide : 2 + 0 ≤ _), (by decide : 20 + 0 ≤ _)⟩)
    dsimp only [Pt.U, Pt.locs, Pt.cells, Pt.slots] at X17 l17 y17 z17 st17 hQ17
    subst l17 y17 z17
    obtain ⟨rfl, N17q, e17⟩ := hQ17
    have N17 := Fr.app N16 N17q
    refine own_ww (T' := T17) (g' := (mkF m 67 #[.val (.ref a), .val (.int (own_cl xs)), .val (.int (0 : Int32)), .val (.int (own_io xs 0)), .val (.int xs.length.toInt32)] [(.int (1 : Int32))])) st17 ?_
    refine own_ww (T' := T17) (g' := (mkF m 87 #[.val (.ref a), .val (.int (own_cl xs)), .val (.int (0 : Int32)), .val (.int (own_io xs 0)), .val (.int xs.length.toInt32)] [])) (fun _ k_ => XS.ifYes X17.here hx rfl (pc0 := 67) (pc' := 87) rfl (hb hby own_d9_67) rfl ((if0 _ _).trans (feq (by decide)).2) (by decide) (by decide) k_) ?_
    refine own_ww (T' := T17) (g' := (mkF m 89 #[.val (.ref a), .val (.int (own_cl xs)), .val (.int (0 : Int32)), .val (.int (own_io xs 0)), .val (.int xs.length.toInt32)] [(.int xs.length.toInt32)])) (fun _ k_ => XS.iload X17.here hx rfl (hb hby own_d9_87) rfl k_) ?_
    refine own_ww (T' := T17) (g' := (mkF m 90 #[.val (.ref a), .val (.int (own_cl xs)), .val (.int (0 : Int32)), .val (.int (own_io xs 0)), .val (.int xs.length.toInt32)] [(.int (1 : Int32)), (.int xs.length.toInt32)])) (fun _ k_ => XS.iconst X17.here hx rfl (hb hby own_d9_89) k_) ?_
    refine own_ww (T' := T17) (g' := (mkF m 91 #[.val (.ref a), .val (.int (own_cl xs)), .val (.int (0 : Int32)), .val (.int (own_io xs 0)), .val (.int xs.length.toInt32)] [(.int (xs.length.toInt32 + (1 : Int32)))])) (fun _ k_ => XS.iadd X17.here hx rfl (hb hby own_d9_90) rfl k_) ?_
    refine own_ww (T' := T17) (g' := (mkF m 92 #[.val (.ref a), .val (.int (own_cl xs)), .val (.int (xs.length.toInt32 + (1 : Int32))), .val (.int (own_io xs 0)), .val (.int xs.length.toInt32)] [])) (fun _ k_ => XS.istoreN X17.here hx rfl (hb hby own_d9_91) rfl (l' := #[.val (.ref a), .val (.int (own_cl xs)), .val (.int (xs.length.toInt32 + (1 : Int32))), .val (.int (own_io xs 0)), .val (.int xs.length.toInt32)]) rfl k_) ?_
    refine own_ww (T' := T17) (g' := (mkF m 30 #[.val (.ref a), .val (.int (own_cl xs)), .val (.int (xs.length.toInt32 + (1 : Int32))), .val (.int (own_io xs 0)), .val (.int xs.length.toInt32)] [])) (fun _ k_ => XS.goto X17.here hx rfl (pc0 := 92) (pc' := 30) rfl (hb hby own_d9_92) (by decide) (by decide) k_) ?_
    exact loop 3 _ _ X17 e17 N17 _ _ _ (own_end xs 0 + 1) (own_n1 he (by omega)) ho
  · refine own_ww (T' := T15) (g' := (mkF m 57 #[.val (.ref a), .val (.int (own_cl xs)), .val (.int (0 : Int32)), .val (.int (own_io xs 0)), .unset] [])) (fun _ k_ => XS.ifYes X15.here hx rfl (pc0 := 47) (pc' := 57) rfl (hb hby own_d9_47) rfl ((if0 _ _).trans (flt hc47).2.1) (by decide) (by decide) k_) ?_
    refine own_ww (T' := T15) (g' := (mkF m 58 #[.val (.ref a), .val (.int (own_cl xs)), .val (.int (0 : Int32)), .val (.int (own_io xs 0)), .unset] [(.int (own_io xs 0))])) (fun _ k_ => XS.iloadN X15.here hx rfl (hb hby own_d9_57) rfl k_) ?_
    refine own_ww (T' := T15) (g' := (mkF m 60 #[.val (.ref a), .val (.int (own_cl xs)), .val (.int (0 : Int32)), .val (.int (own_io xs 0)), .val (.int (own_io xs 0))] [])) (fun _ k_ => XS.istore X15.here hx rfl (hb hby own_d9_58) rfl (l' := #[.val (.ref a), .val (.int (own_cl xs)), .val (.int (0 : Int32)), .val (.int (own_io xs 0)), .val (.int (own_io xs 0))]) rfl k_) ?_
    refine own_ww (T' := T15) (g' := (mkF m 61 #[.val (.ref a), .val (.int (own_cl xs)), .val (.int (0 : Int32)), .val (.int (own_io xs 0)), .val (.int (own_io xs 0))] [(.ref a)])) (fun _ k_ => XS.aloadN X15.here hx rfl (hb hby own_d9_60) rfl rfl k_) ?_
    refine own_ww (T' := T15) (g' := (mkF m 62 #[.val (.ref a), .val (.int (own_cl xs)), .val (.int (0 : Int32)), .val (.int (own_io xs 0)), .val (.int (own_io xs 0))] [(.int (0 : Int32)), (.ref a)])) (fun _ k_ => XS.iloadN X15.here hx rfl (hb hby own_d9_61) rfl k_) ?_
    refine own_ww (T' := T15) (g' := (mkF m 64 #[.val (.ref a), .val (.int (own_cl xs)), .val (.int (0 : Int32)), .val (.int (own_io xs 0)), .val (.int (own_io xs 0))] [(.int (own_io xs 0)), (.int (0 : Int32)), (.ref a)])) (fun _ k_ => XS.iload X15.here hx rfl (hb hby own_d9_62) rfl k_) ?_
    have he := own_end_ge (xs := xs) (i := 0) hc47
    have hb' := own_lab_spec hlab
    obtain ⟨_, _, ⟨T18, L18, k18, n18⟩, -, X18, ⟨Lc18, hQ18, l18, y18, z18⟩, st18⟩ := Jvm.LawKit.callS X15 hx (y := (⟨"com/example/adjacency/adjacency/identity/NodeName", "isLabel", "(Ljava/lang/String;II)Z"⟩ : MethodName)) ho1 (mvT hZ1 (hw _ (List.mem_of_getElem? (i := 106) rfl))) (mvT hZ1 (hw _ (List.mem_of_getElem? (i := 107) rfl))) (mvT hZ1 (hw _ (List.mem_of_getElem? (i := 40) rfl))) (mvT hZ1 (hw _ (List.mem_of_getElem? (i := 108) rfl))) (by decide) (backOf (W := 0) (own_rm25 l Z a0 hw [] a (0 : Int32) (own_io xs 0) xs cs sf 0 (own_end xs 0) h1 n0 Z1 Sb lx hcs S' hsf SF' hasc (by decide) he hlab) hZ1 (hw _ (List.mem_of_getElem? (i := 108) rfl)) (hw _ (List.mem_of_getElem? (i := 40) rfl)) (by decide) (by decide)) (g := (mkF m 64 #[.val (.ref a), .val (.int (own_cl xs)), .val (.int (0 : Int32)), .val (.int (own_io xs 0)), .val (.int (own_io xs 0))] [(.int (own_io xs 0)), (.int (0 : Int32)), (.ref a)])) rfl (by rw [hml]; rfl) (argsL := [(.ref a), (.int (0 : Int32)), (.int (own_io xs 0))]) (rest := []) (lenOf own_pd22 rfl) rfl (by show 2 * 0 + _ ≤ _; exact Nat.le_of_eq rfl) (hb hby own_d9_64) (fun _ _ => ⟨rfl, e15, (by decide : 2 + 0 ≤ _), (by decide : 20 + 0 ≤ _)⟩)
    dsimp only [Pt.U, Pt.locs, Pt.cells, Pt.slots] at X18 l18 y18 z18 st18 hQ18
    subst l18 y18 z18
    obtain ⟨rfl, N18q, e18⟩ := hQ18
    have N18 := Fr.app N15 N18q
    refine own_ww (T' := T18) (g' := (mkF m 67 #[.val (.ref a), .val (.int (own_cl xs)), .val (.int (0 : Int32)), .val (.int (own_io xs 0)), .val (.int (own_io xs 0))] [(.int (1 : Int32))])) st18 ?_
    refine own_ww (T' := T18) (g' := (mkF m 87 #[.val (.ref a), .val (.int (own_cl xs)), .val (.int (0 : Int32)), .val (.int (own_io xs 0)), .val (.int (own_io xs 0))] [])) (fun _ k_ => XS.ifYes X18.here hx rfl (pc0 := 67) (pc' := 87) rfl (hb hby own_d9_67) rfl ((if0 _ _).trans (feq (by decide)).2) (by decide) (by decide) k_) ?_
    refine own_ww (T' := T18) (g' := (mkF m 89 #[.val (.ref a), .val (.int (own_cl xs)), .val (.int (0 : Int32)), .val (.int (own_io xs 0)), .val (.int (own_io xs 0))] [(.int (own_io xs 0))])) (fun _ k_ => XS.iload X18.here hx rfl (hb hby own_d9_87) rfl k_) ?_
    refine own_ww (T' := T18) (g' := (mkF m 90 #[.val (.ref a), .val (.int (own_cl xs)), .val (.int (0 : Int32)), .val (.int (own_io xs 0)), .val (.int (own_io xs 0))] [(.int (1 : Int32)), (.int (own_io xs 0))])) (fun _ k_ => XS.iconst X18.here hx rfl (hb hby own_d9_89) k_) ?_
    refine own_ww (T' := T18) (g' := (mkF m 91 #[.val (.ref a), .val (.int (own_cl xs)), .val (.int (0 : Int32)), .val (.int (own_io xs 0)), .val (.int (own_io xs 0))] [(.int ((own_io xs 0) + (1 : Int32)))])) (fun _ k_ => XS.iadd X18.here hx rfl (hb hby own_d9_90) rfl k_) ?_
    refine own_ww (T' := T18) (g' := (mkF m 92 #[.val (.ref a), .val (.int (own_cl xs)), .val (.int ((own_io xs 0) + (1 : Int32))), .val (.int (own_io xs 0)), .val (.int (own_io xs 0))] [])) (fun _ k_ => XS.istoreN X18.here hx rfl (hb hby own_d9_91) rfl (l' := #[.val (.ref a), .val (.int (own_cl xs)), .val (.int ((own_io xs 0) + (1 : Int32))), .val (.int (own_io xs 0)), .val (.int (own_io xs 0))]) rfl k_) ?_
    refine own_ww (T' := T18) (g' := (mkF m 30 #[.val (.ref a), .val (.int (own_cl xs)), .val (.int ((own_io xs 0) + (1 : Int32))), .val (.int (own_io xs 0)), .val (.int (own_io xs 0))] [])) (fun _ k_ => XS.goto X18.here hx rfl (pc0 := 92) (pc' := 30) rfl (hb hby own_d9_92) (by decide) (by decide) k_) ?_
    exact loop 3 _ _ X18 e18 N18 _ _ _ (own_end xs 0 + 1) (own_n1 he (by omega)) ho
theorem own_ro {xs : List Int32} {n : Nat} (h : own_io xs 0 = n.toInt32) (hn : n < 1000) : ¬ own_io xs 0 < 0 := fun q => by rw [h, Int32.lt_iff_toInt_lt, own_i32 hn, show (0 : Int32).toInt = 0 from rfl] at q; omega
theorem own_ro1 {xs : List Int32} (h : own_io xs 0 = -1) : own_io xs 0 < 0 := by rw [h]; decide
theorem own_pd23 : parseMethodDescriptor "(C)Ljava/lang/String;" = some ⟨[.char], some (.object "java/lang/String")⟩ := by decide +kernel
theorem own_pd24 : parseMethodDescriptor "(Ljava/lang/String;)Lcom/example/adjacency/adjacency/identity/NodeName;" = some ⟨[(.object "java/lang/String")], some (.object "com/example/adjacency/adjacency/identity/NodeName")⟩ := by decide +kernel
theorem own_pd25 : parseMethodDescriptor "()Ljava/lang/String;" = some ⟨[], some (.object "java/lang/String")⟩ := by decide +kernel
theorem own_pd26 : parseMethodDescriptor "(Ljava/lang/Object;)Z" = some ⟨[(.object "java/lang/Object")], some .boolean⟩ := by decide +kernel
theorem own_pd27 : parseMethodDescriptor "(IIJ)C" = some ⟨[.int, .int, .long], some .char⟩ := by decide +kernel
theorem own_pd28 : parseMethodDescriptor "([C)V" = some ⟨[(.array .char)], none⟩ := by decide +kernel
theorem own_rm0_ef (m : MethodId) (kk : Int32) (xl : Int64) (yl : Int64) : entryFrame m #[(.int kk), (.long xl), (.long yl)] maxLocals = mkF m 0 #[.val (.int kk), .val (.long xl), .second, .val (.long yl), .second, .unset, .unset, .unset, .unset, .unset] [] := by first | (simp [entryFrame, mkF, argsToLocals, Value.category, maxLocals]; done) | rfl
def own_Q0 (Z : State) (kk : Int32) (xl : Int64) (yl : Int64) (cs : Int32) (sf : Value) (h0 : Heap) (n0 : Nat) (v_ : Option Value) (h : Heap) (L_ : List Loc) : Prop := v_ = some (.int (1 : Int32)) ∧ Fr n0 L_
set_option maxRecDepth 65536 in
set_option maxHeartbeats 40000000 in
theorem own_rm0 (l : Launch) (Z : State) (a0 : Array Value) (hw : ∀ d ∈ tables_1, d.before a0 Z = true) (ws : List Jvm.Cond) (kk : Int32) (xl : Int64) (yl : Int64) (cs : Int32) (sf : Value) (h0 : Heap) (n0 : Nat) (Z0 : n0 ≤ h0.size) (hcs : ¬ cs = (0 : Int32)) (S : Sta Z h0 "java/lang/String" "COMPACT_STRINGS" "Z" (.int cs)) (hsf : sf.isRef = true) (SF : Sta Z h0 "jdk/internal/util/Preconditions" "SIOOBE_FORMATTER" "Ljava/util/function/BiFunction;" sf) :
    MetFree l x (head1 (Jvm.Cond.code x code maxLocals ret :: ws) room_1) (fun a_ U_ => a_ = #[(.int kk), (.long xl), (.long yl)] ∧ Z.Warmed39 U_.vm ∧ U_.heap = h0 ∧ CHv Z own_EL U_.vm h0) (fun _ _ _ _ _ => True) (fun _ U_ o_ V_ => ∃ v_ L_, o_ = .returned v_ ∧ own_Q0 Z kk xl yl cs sf h0 n0 v_ V_.heap L_ ∧ CHr Z own_EL U_.vm U_.heap V_.vm V_.heap ∧ ReturnedEndW U_ o_ V_ L_ room_1.cells room_1.slots) := by
  refine MetFree.of_bodySF (plainFor_of_name own_pn_com_example_adjacency_adjacency_identity_NodeNameParsePinLaw) hisR ?_
  intro p e s m args below meth c s₁ Bd hml0 hP hK
  obtain ⟨rfl, hZ, hh, hCH⟩ := hP
  have hx := Bd.exec
  have hby := Bd.bytes
  have hml : c.maxLocals = 10 := hml0
  have hown : s.vm.findClass "com/example/adjacency/adjacency/identity/NodeNameParsePinLaw" = some m.cls := findClass_of_methodNamed Bd.named
  have hnm := (name_of_methodNamed Bd.named Bd.method).1
  have X0 : Stand p l e room_1 s m #[(.int kk), (.long xl), (.long yl)] below meth c s₁ [] 0 0 := Stand.of_body Bd
  have e0 : s₁.heap = h0 := by rw [← hh, Bd.state]; rfl
  have N0 := Fr.nil n0
  show own_GW Z own_EL p e below s (own_Q0 Z kk xl yl cs sf h0 n0) room_1.cells room_1.slots s₁ (entryFrame m #[(.int kk), (.long xl), (.long yl)] maxLocals)
  rw [own_rm0_ef]
  have hS0 : s.Since s.vm h0.size := (State.WarmedH.refl s).since _
  have CB0 : CHr Z own_EL s.vm h0 s.vm h0 := CHr.refl hCH
  refine own_ww (T' := s₁) (g' := (mkF m 1 #[.val (.int kk), .val (.long xl), .second, .val (.long yl), .second, .unset, .unset, .unset, .unset, .unset] [(.int kk)])) (fun _ k_ => XS.iloadN X0.here hx rfl (hb hby at_0) rfl k_) ?_
  refine own_ww (T' := s₁) (g' := (mkF m 3 #[.val (.int kk), .val (.long xl), .second, .val (.long yl), .second, .unset, .unset, .unset, .unset, .unset] [(.int (7 : Int32)), (.int kk)])) (fun _ k_ => XS.bipush X0.here hx rfl (hb hby at_1) k_) ?_
  refine own_ww (T' := s₁) (g' := (mkF m 4 #[.val (.int kk), .val (.long xl), .second, .val (.long yl), .second, .unset, .unset, .unset, .unset, .unset] [(.int (kk &&& (7 : Int32)))])) (fun _ k_ => XS.iand X0.here hx rfl (hb hby at_3) rfl k_) ?_
  refine own_ww (T' := s₁) (g' := (mkF m 6 #[.val (.int kk), .val (.long xl), .second, .val (.long yl), .second, .val (.int (kk &&& (7 : Int32))), .unset, .unset, .unset, .unset] [])) (fun _ k_ => XS.istore X0.here hx rfl (hb hby at_4) rfl (l' := #[.val (.int kk), .val (.long xl), .second, .val (.long yl), .second, .val (.int (kk &&& (7 : Int32))), .unset, .unset, .unset, .unset]) rfl k_) ?_
  refine own_ww (T' := s₁) (g' := (mkF m 8 #[.val (.int kk), .val (.long xl), .second, .val (.long yl), .second, .val (.int (kk &&& (7 : Int32))), .unset, .unset, .unset, .unset] [(.int (kk &&& (7 : Int32)))])) (fun _ k_ => XS.iload X0.here hx rfl (hb hby at_6) rfl k_) ?_
  refine own_ww (T' := s₁) (g' := (mkF m 9 #[.val (.int kk), .val (.long xl), .second, .val (.long yl), .second, .val (.int (kk &&& (7 : Int32))), .unset, .unset, .unset, .unset] [(.int (4 : Int32)), (.int (kk &&& (7 : Int32)))])) (fun _ k_ => XS.iconst X0.here hx rfl (hb hby at_8) k_) ?_
  by_cases hc9 : (kk &&& (7 : Int32)) = (4 : Int32)
  · refine own_ww (T' := s₁) (g' := (mkF m 12 #[.val (.int kk), .val (.long xl), .second, .val (.long yl), .second, .val (.int (kk &&& (7 : Int32))), .unset, .unset, .unset, .unset] [])) (fun _ k_ => XS.icmpNo X0.here hx rfl (hb hby at_9) rfl (teq hc9).2 k_) ?_
    refine own_ww (T' := s₁) (g' := (mkF m 13 #[.val (.int kk), .val (.long xl), .second, .val (.long yl), .second, .val (.int (kk &&& (7 : Int32))), .unset, .unset, .unset, .unset] [(.long xl)])) (fun _ k_ => XS.lloadN X0.here hx rfl (hb hby at_12) rfl k_) ?_
    refine own_ww (T' := s₁) (g' := (mkF m 14 #[.val (.int kk), .val (.long xl), .second, .val (.long yl), .second, .val (.int (kk &&& (7 : Int32))), .unset, .unset, .unset, .unset] [(.int (0 : Int32)), (.long xl)])) (fun _ k_ => XS.iconst X0.here hx rfl (hb hby at_13) k_) ?_
    obtain ⟨_, _, ⟨T1, L1, k1, n1⟩, -, X1, ⟨Lc1, hQ1, l1, y1, z1⟩, st1⟩ := Jvm.LawKit.callS X0 hx (y := (⟨"com/example/adjacency/adjacency/identity/NodeNameParsePinLaw", "ch", "(JZ)C"⟩ : MethodName)) hown (mvT hZ (hw _ (List.mem_of_getElem? (i := 5) rfl))) (mvT hZ (hw _ (List.mem_of_getElem? (i := 6) rfl))) (mvT hZ (hw _ (List.mem_of_getElem? (i := 3) rfl))) (mvT hZ (hw _ (List.mem_of_getElem? (i := 7) rfl))) (by decide) (backOf (W := 0) (own_rm2 l Z a0 hw [] xl (0 : Int32)  h0 n0 Z0 ) hZ (hw _ (List.mem_of_getElem? (i := 7) rfl)) (hw _ (List.mem_of_getElem? (i := 3) rfl)) (by decide) (by decide)) (g := (mkF m 14 #[.val (.int kk), .val (.long xl), .second, .val (.long yl), .second, .val (.int (kk &&& (7 : Int32))), .unset, .unset, .unset, .unset] [(.int (0 : Int32)), (.long xl)])) rfl (by rw [hml]; rfl) (argsL := [(.long xl), (.int (0 : Int32))]) (rest := []) (lenOf own_pd19 rfl) rfl (by show 2 * 0 + _ ≤ _; exact Nat.le_of_eq rfl) (hb hby at_14) (fun _ _ => ⟨rfl, e0, (by decide : 0 + 0 ≤ _), (by decide : 0 + 0 ≤ _)⟩)
    dsimp only [Pt.U, Pt.locs, Pt.cells, Pt.slots] at X1 l1 y1 z1 st1 hQ1
    subst l1 y1 z1
    obtain ⟨r1, rfl, N1q, e1, ok1, nh1⟩ := hQ1
    have N1 := Fr.app N0 N1q
    refine own_ww (T' := T1) (g' := (mkF m 17 #[.val (.int kk), .val (.long xl), .second, .val (.long yl), .second, .val (.int (kk &&& (7 : Int32))), .unset, .unset, .unset, .unset] [(.int r1)])) st1 ?_
    obtain ⟨_, _, ⟨T2, L2, k2, n2⟩, -, X2, ⟨Lc2, hQ2, l2, y2, z2⟩, st2⟩ := Jvm.LawKit.callS X1 hx (y := (⟨"java/lang/String", "valueOf", "(C)Ljava/lang/String;"⟩ : MethodName)) hown (mvT hZ (hw _ (List.mem_of_getElem? (i := 143) rfl))) (mvT hZ (hw _ (List.mem_of_getElem? (i := 144) rfl))) (mvT hZ (hw _ (List.mem_of_getElem? (i := 11) rfl))) (mvT hZ (hw _ (List.mem_of_getElem? (i := 145) rfl))) (by decide) (backOf (W := 0) (own_rm32 l Z a0 hw [] r1 cs h0 n0 Z0 (own_ok255 ok1) hcs S) hZ (hw _ (List.mem_of_getElem? (i := 145) rfl)) (hw _ (List.mem_of_getElem? (i := 11) rfl)) (by decide) (by decide)) (g := (mkF m 17 #[.val (.int kk), .val (.long xl), .second, .val (.long yl), .second, .val (.int (kk &&& (7 : Int32))), .unset, .unset, .unset, .unset] [(.int r1)])) rfl (by rw [hml]; rfl) (argsL := [(.int r1)]) (rest := []) (lenOf own_pd23 rfl) rfl (by show 2 * 0 + _ ≤ _; exact Nat.le_of_eq rfl) (hb hby at_17) (fun _ _ => ⟨rfl, e1, (by decide : 0 + 2 ≤ _), (by decide : 0 + 5 ≤ _)⟩)
    dsimp only [Pt.U, Pt.locs, Pt.cells, Pt.slots] at X2 l2 y2 z2 st2 hQ2
    subst l2 y2 z2
    obtain ⟨h2, e2⟩ : ∃ h, T2.heap = h := ⟨_, rfl⟩
    rw [e2] at hQ2
    obtain ⟨r2, rfl, N2q, K2, Q2⟩ := hQ2
    have CS2 : CHr Z own_EL s.vm h0 s.vm h2 := CB0.trans (CHr.keep K2 sf0 CB0.1)
    have N2 := Fr.app N1 N2q
    refine own_ww (T' := T2) (g' := (mkF m 20 #[.val (.int kk), .val (.long xl), .second, .val (.long yl), .second, .val (.int (kk &&& (7 : Int32))), .unset, .unset, .unset, .unset] [(.ref r2)])) st2 ?_
    have Z2 : n0 ≤ h2.size := Nat.le_trans Z0 K2.1
    rw [own_i2b_small (own_ok128 ok1)] at Q2
    have S2 := own_sta0 S K2
    have SF2 := own_sta0 SF K2
    refine own_ww (T' := T2) (g' := (mkF m 22 #[.val (.int kk), .val (.long xl), .second, .val (.long yl), .second, .val (.int (kk &&& (7 : Int32))), .val (.ref r2), .unset, .unset, .unset] [])) (fun _ k_ => XS.astore X2.here hx rfl (hb hby at_20) rfl rfl (l' := #[.val (.int kk), .val (.long xl), .second, .val (.long yl), .second, .val (.int (kk &&& (7 : Int32))), .val (.ref r2), .unset, .unset, .unset]) rfl k_) ?_
    refine own_ww (T' := T2) (g' := (mkF m 23 #[.val (.int kk), .val (.long xl), .second, .val (.long yl), .second, .val (.int (kk &&& (7 : Int32))), .val (.ref r2), .unset, .unset, .unset] [(.int (1 : Int32))])) (fun _ k_ => XS.iconst X2.here hx rfl (hb hby at_22) k_) ?_
    refine own_ww (T' := T2) (g' := (mkF m 25 #[.val (.int kk), .val (.long xl), .second, .val (.long yl), .second, .val (.int (kk &&& (7 : Int32))), .val (.ref r2), .val (.int (1 : Int32)), .unset, .unset] [])) (fun _ k_ => XS.istore X2.here hx rfl (hb hby at_23) rfl (l' := #[.val (.int kk), .val (.long xl), .second, .val (.long yl), .second, .val (.int (kk &&& (7 : Int32))), .val (.ref r2), .val (.int (1 : Int32)), .unset, .unset]) rfl k_) ?_
    refine own_ww (T' := T2) (g' := (mkF m 241 #[.val (.int kk), .val (.long xl), .second, .val (.long yl), .second, .val (.int (kk &&& (7 : Int32))), .val (.ref r2), .val (.int (1 : Int32)), .unset, .unset] [])) (fun _ k_ => XS.goto X2.here hx rfl (pc0 := 25) (pc' := 241) rfl (hb hby at_25) (by decide) (by decide) k_) ?_
    obtain ⟨LA3, XA3, NA3⟩ : ∃ L, Stand p l e room_1 (s.setVm s.vm) m #[(.int kk), (.long xl), (.long yl)] below meth c T2 L 2 5 ∧ Fr n0 L := ⟨_, X2, N2⟩
    have PL := own_pl_v ok1 (nh1 rfl)
    have hro := own_ro1 PL.2.2.2
    refine own_ww (T' := T2) (g' := (mkF m 243 #[.val (.int kk), .val (.long xl), .second, .val (.long yl), .second, .val (.int (kk &&& (7 : Int32))), .val (.ref r2), .val (.int (1 : Int32)), .unset, .unset] [(.ref r2)])) (fun _ k_ => XS.aload XA3.here hx rfl (hb hby at_241) rfl rfl k_) ?_
    obtain ⟨_, _, ⟨T4, L4, k4, n4⟩, -, X4', hs24, hg4, ⟨Lc4, hQ4, l4, y4, z4, cr4⟩, st4⟩ := callSS XA3 hx (y := (⟨"com/example/adjacency/adjacency/identity/NodeName", "parse", "(Ljava/lang/String;)Lcom/example/adjacency/adjacency/identity/NodeName;"⟩ : MethodName)) hown (mvT hZ (hw _ (List.mem_of_getElem? (i := 38) rfl))) (mvT hZ (hw _ (List.mem_of_getElem? (i := 39) rfl))) (mvT hZ (hw _ (List.mem_of_getElem? (i := 40) rfl))) (mvT hZ (hw _ (List.mem_of_getElem? (i := 41) rfl))) (by decide) (backOfSH (W := 0) (own_rm9 l Z a0 hw [] r2 [r1] cs sf h2 n0 Z2 Q2 (by decide : 1 < 1000) hcs S2 hsf SF2 PL.1 PL.2.1 (by rw [PL.2.2.1]; decide)) hZ (hw _ (List.mem_of_getElem? (i := 41) rfl)) (hw _ (List.mem_of_getElem? (i := 40) rfl)) (by decide) (by decide) (own_EW hw) CS2.1) (g := (mkF m 243 #[.val (.int kk), .val (.long xl), .second, .val (.long yl), .second, .val (.int (kk &&& (7 : Int32))), .val (.ref r2), .val (.int (1 : Int32)), .unset, .unset] [(.ref r2)])) rfl (by rw [hml]; rfl) (argsL := [(.ref r2)]) (rest := []) (lenOf own_pd24 rfl) rfl (by show 2 * 0 + _ ≤ _; exact Nat.le_of_eq rfl) (hb hby at_243) (fun _ _ => ⟨rfl, e2, (by decide : 2 + 3 ≤ _), (by decide : 5 + 21 ≤ _)⟩)
    dsimp only [Pt.U, Pt.locs, Pt.cells, Pt.slots] at X4' hs24 hg4 l4 y4 z4 st4 hQ4 cr4
    subst l4 y4 z4
    obtain ⟨X4, hS4, hZ4, ho4⟩ := rebS hS0 (by rw [e2]; exact CS2.2.1) X4' hs24 hg4 hZ hown
    obtain ⟨h4, e4⟩ : ∃ h, T4.heap = h := ⟨_, rfl⟩
    rw [e4] at hQ4 hS4 cr4
    obtain ⟨r4, rfl, N4q, K4, Ex4, F4⟩ := hQ4
    have N4 := Fr.app NA3 N4q
    have CB4 : CHr Z own_EL s.vm h0 T4.vm h4 := (CB0.trans CS2).trans cr4
    have CS4 : CHr Z own_EL T4.vm h4 T4.vm h4 := CHr.refl CB4.1
    have Z4 : n0 ≤ h4.size := Nat.le_trans Z2 cr4.2.1
    refine own_wt (T' := T4) (g' := (mkF m 246 #[.val (.int kk), .val (.long xl), .second, .val (.long yl), .second, .val (.int (kk &&& (7 : Int32))), .val (.ref r2), .val (.int (1 : Int32)), .unset, .unset] [(.ref r4)])) st4 ?_
    have Se := own_Str_keep Q2 K4
    have Sf := own_sta0 S2 K4
    have Sg := own_sta0 SF2 K4
    refine own_ww (T' := T4) (g' := (mkF m 248 #[.val (.int kk), .val (.long xl), .second, .val (.long yl), .second, .val (.int (kk &&& (7 : Int32))), .val (.ref r2), .val (.int (1 : Int32)), .val (.ref r4), .unset] [])) (fun _ k_ => XS.astore X4.here hx rfl (hb hby at_246) rfl rfl (l' := #[.val (.int kk), .val (.long xl), .second, .val (.long yl), .second, .val (.int (kk &&& (7 : Int32))), .val (.ref r2), .val (.int (1 : Int32)), .val (.ref r4), .unset]) rfl k_) ?_
    refine own_ww (T' := T4) (g' := (mkF m 250 #[.val (.int kk), .val (.long xl), .second, .val (.long yl), .second, .val (.int (kk &&& (7 : Int32))), .val (.ref r2), .val (.int (1 : Int32)), .val (.ref r4), .unset] [(.ref r4)])) (fun _ k_ => XS.aload X4.here hx rfl (hb hby at_248) rfl rfl k_) ?_
    obtain ⟨cq5, kq5, q5a, q5b, q5c⟩ := isOf hZ4 e4 Ex4
    obtain ⟨_, _, ⟨T5, L5, k5, n5⟩, -, X5, ⟨Lc5, hQ5, l5, y5, z5⟩, st5⟩ := X4.virtualBack hx (y := (⟨"com/example/adjacency/adjacency/identity/NodeName", "toString", "()Ljava/lang/String;"⟩ : MethodName)) (z := (⟨"com/example/adjacency/adjacency/identity/NodeName", "toString", "()Ljava/lang/String;"⟩ : MethodName)) ho4 (mvT hZ4 (hw _ (List.mem_of_getElem? (i := 117) rfl))) (mvT hZ4 (hw _ (List.mem_of_getElem? (i := 118) rfl))) (notFace_of_selects (args := #[]) (mvT hZ4 (hw _ (List.mem_of_getElem? (i := 120) rfl)))) (mvT hZ4 (hw _ (List.mem_of_getElem? (i := 120) rfl))) (mvT hZ4 (hw _ (List.mem_of_getElem? (i := 119) rfl))) (by decide) (backOf (W := 0) (own_rm27 l Z a0 hw [] r4 r2 h4 n0 Z4 F4) hZ4 (hw _ (List.mem_of_getElem? (i := 121) rfl)) (hw _ (List.mem_of_getElem? (i := 40) rfl)) (by decide) (by decide)) q5a q5c (g := (mkF m 250 #[.val (.int kk), .val (.long xl), .second, .val (.long yl), .second, .val (.int (kk &&& (7 : Int32))), .val (.ref r2), .val (.int (1 : Int32)), .val (.ref r4), .unset] [(.ref r4)])) rfl (by rw [hml]; rfl) (Steps.refl _) (argsL := []) (rest := []) (lenOf own_pd25 rfl) rfl (by show 2 * 0 + _ ≤ _; exact Nat.le_of_eq rfl) (hb hby at_250) (fun _ _ => ⟨rfl, e4, (by decide : 5 + 0 ≤ _), (by decide : 26 + 0 ≤ _)⟩)
    dsimp only [Pt.U, Pt.locs, Pt.cells, Pt.slots] at X5 l5 y5 z5 st5 hQ5
    subst l5 y5 z5
    obtain ⟨rfl, N5q, e5⟩ := hQ5
    have N5 := Fr.app N4 N5q
    refine own_wt (T' := T5) (g' := (mkF m 253 #[.val (.int kk), .val (.long xl), .second, .val (.long yl), .second, .val (.int (kk &&& (7 : Int32))), .val (.ref r2), .val (.int (1 : Int32)), .val (.ref r4), .unset] [(.ref r2)])) st5 ?_
    refine own_ww (T' := T5) (g' := (mkF m 255 #[.val (.int kk), .val (.long xl), .second, .val (.long yl), .second, .val (.int (kk &&& (7 : Int32))), .val (.ref r2), .val (.int (1 : Int32)), .val (.ref r4), .unset] [(.ref r2), (.ref r2)])) (fun _ k_ => XS.aload X5.here hx rfl (hb hby at_253) rfl rfl k_) ?_
    obtain ⟨cq6, kq6, q6a, q6b, q6c⟩ := isOf hZ4 e5 Se.1
    obtain ⟨_, _, ⟨T6, L6, k6, n6⟩, -, X6, ⟨Lc6, hQ6, l6, y6, z6⟩, st6⟩ := X5.virtualBack hx (y := (⟨"java/lang/String", "equals", "(Ljava/lang/Object;)Z"⟩ : MethodName)) (z := (⟨"java/lang/String", "equals", "(Ljava/lang/Object;)Z"⟩ : MethodName)) ho4 (mvT hZ4 (hw _ (List.mem_of_getElem? (i := 122) rfl))) (mvT hZ4 (hw _ (List.mem_of_getElem? (i := 123) rfl))) (notFace_of_selects (args := #[]) (mvT hZ4 (hw _ (List.mem_of_getElem? (i := 125) rfl)))) (mvT hZ4 (hw _ (List.mem_of_getElem? (i := 125) rfl))) (mvT hZ4 (hw _ (List.mem_of_getElem? (i := 124) rfl))) (by decide) (backOf (W := 0) (own_rm28 l Z a0 hw [] r2 r2  h4 n0 Z4 rfl) hZ4 (hw _ (List.mem_of_getElem? (i := 126) rfl)) (hw _ (List.mem_of_getElem? (i := 11) rfl)) (by decide) (by decide)) q6a q6c (g := (mkF m 255 #[.val (.int kk), .val (.long xl), .second, .val (.long yl), .second, .val (.int (kk &&& (7 : Int32))), .val (.ref r2), .val (.int (1 : Int32)), .val (.ref r4), .unset] [(.ref r2), (.ref r2)])) rfl (by rw [hml]; rfl) (Steps.refl _) (argsL := [(.ref r2)]) (rest := []) (lenOf own_pd26 rfl) rfl (by show 2 * 0 + _ ≤ _; exact Nat.le_of_eq rfl) (hb hby at_255) (fun _ _ => ⟨rfl, e5, (by decide : 5 + 0 ≤ _), (by decide : 26 + 0 ≤ _)⟩)
    dsimp only [Pt.U, Pt.locs, Pt.cells, Pt.slots] at X6 l6 y6 z6 st6 hQ6
    subst l6 y6 z6
    obtain ⟨rfl, N6q, e6⟩ := hQ6
    have N6 := Fr.app N5 N6q
    refine own_wt (T' := T6) (g' := (mkF m 258 #[.val (.int kk), .val (.long xl), .second, .val (.long yl), .second, .val (.int (kk &&& (7 : Int32))), .val (.ref r2), .val (.int (1 : Int32)), .val (.ref r4), .unset] [(.int (1 : Int32))])) st6 ?_
    refine own_ww (T' := T6) (g' := (mkF m 261 #[.val (.int kk), .val (.long xl), .second, .val (.long yl), .second, .val (.int (kk &&& (7 : Int32))), .val (.ref r2), .val (.int (1 : Int32)), .val (.ref r4), .unset] [])) (fun _ k_ => XS.ifNo X6.here hx rfl (hb hby at_258) rfl ((if0 _ _).trans (feq (by decide)).1) k_) ?_
    refine own_ww (T' := T6) (g' := (mkF m 263 #[.val (.int kk), .val (.long xl), .second, .val (.long yl), .second, .val (.int (kk &&& (7 : Int32))), .val (.ref r2), .val (.int (1 : Int32)), .val (.ref r4), .unset] [(.ref r4)])) (fun _ k_ => XS.aload X6.here hx rfl (hb hby at_261) rfl rfl k_) ?_
    obtain ⟨cq7, kq7, q7a, q7b, q7c⟩ := isOf hZ4 e6 Ex4
    obtain ⟨_, _, ⟨T7, L7, k7, n7⟩, -, X7, ⟨Lc7, hQ7, l7, y7, z7⟩, st7⟩ := X6.virtualBack hx (y := (⟨"com/example/adjacency/adjacency/identity/NodeName", "labelCount", "()I"⟩ : MethodName)) (z := (⟨"com/example/adjacency/adjacency/identity/NodeName", "labelCount", "()I"⟩ : MethodName)) ho4 (mvT hZ4 (hw _ (List.mem_of_getElem? (i := 127) rfl))) (mvT hZ4 (hw _ (List.mem_of_getElem? (i := 128) rfl))) (notFace_of_selects (args := #[]) (mvT hZ4 (hw _ (List.mem_of_getElem? (i := 130) rfl)))) (mvT hZ4 (hw _ (List.mem_of_getElem? (i := 130) rfl))) (mvT hZ4 (hw _ (List.mem_of_getElem? (i := 129) rfl))) (by decide) (backOf (W := 0) (own_rm29 l Z a0 hw [] r4 r2 [r1] cs sf h4 n0 Z4 F4 Se (by decide : 1 < 1000) hcs Sf hsf Sg PL.1) hZ4 (hw _ (List.mem_of_getElem? (i := 131) rfl)) (hw _ (List.mem_of_getElem? (i := 40) rfl)) (by decide) (by decide)) q7a q7c (g := (mkF m 263 #[.val (.int kk), .val (.long xl), .second, .val (.long yl), .second, .val (.int (kk &&& (7 : Int32))), .val (.ref r2), .val (.int (1 : Int32)), .val (.ref r4), .unset] [(.ref r4)])) rfl (by rw [hml]; rfl) (Steps.refl _) (argsL := []) (rest := []) (lenOf own_pd8 rfl) rfl (by show 2 * 0 + _ ≤ _; exact Nat.le_of_eq rfl) (hb hby at_263) (fun _ _ => ⟨rfl, e6, (by decide : 5 + 0 ≤ _), (by decide : 26 + 0 ≤ _)⟩)
    dsimp only [Pt.U, Pt.locs, Pt.cells, Pt.slots] at X7 l7 y7 z7 st7 hQ7
    subst l7 y7 z7
    obtain ⟨rfl, N7q, e7⟩ := hQ7
    have N7 := Fr.app N6 N7q
    refine own_wt (T' := T7) (g' := (mkF m 266 #[.val (.int kk), .val (.long xl), .second, .val (.long yl), .second, .val (.int (kk &&& (7 : Int32))), .val (.ref r2), .val (.int (1 : Int32)), .val (.ref r4), .unset] [(.int (own_cl [r1]))])) st7 ?_
    refine own_ww (T' := T7) (g' := (mkF m 268 #[.val (.int kk), .val (.long xl), .second, .val (.long yl), .second, .val (.int (kk &&& (7 : Int32))), .val (.ref r2), .val (.int (1 : Int32)), .val (.ref r4), .unset] [(.int (1 : Int32)), (.int (own_cl [r1]))])) (fun _ k_ => XS.iload X7.here hx rfl (hb hby at_266) rfl k_) ?_
    refine own_ww (T' := T7) (g' := (mkF m 271 #[.val (.int kk), .val (.long xl), .second, .val (.long yl), .second, .val (.int (kk &&& (7 : Int32))), .val (.ref r2), .val (.int (1 : Int32)), .val (.ref r4), .unset] [])) (fun _ k_ => XS.icmpNo X7.here hx rfl (hb hby at_268) rfl (teq PL.2.2.1).2 k_) ?_
    refine own_ww (T' := T7) (g' := (mkF m 273 #[.val (.int kk), .val (.long xl), .second, .val (.long yl), .second, .val (.int (kk &&& (7 : Int32))), .val (.ref r2), .val (.int (1 : Int32)), .val (.ref r4), .unset] [(.ref r4)])) (fun _ k_ => XS.aload X7.here hx rfl (hb hby at_271) rfl rfl k_) ?_
    obtain ⟨cq8, kq8, q8a, q8b, q8c⟩ := isOf hZ4 e7 Ex4
    obtain ⟨_, _, ⟨T8, L8, k8, n8⟩, -, X8, ⟨Lc8, hQ8, l8, y8, z8⟩, st8⟩ := X7.virtualBack hx (y := (⟨"com/example/adjacency/adjacency/identity/NodeName", "isRoot", "()Z"⟩ : MethodName)) (z := (⟨"com/example/adjacency/adjacency/identity/NodeName", "isRoot", "()Z"⟩ : MethodName)) ho4 (mvT hZ4 (hw _ (List.mem_of_getElem? (i := 132) rfl))) (mvT hZ4 (hw _ (List.mem_of_getElem? (i := 133) rfl))) (notFace_of_selects (args := #[]) (mvT hZ4 (hw _ (List.mem_of_getElem? (i := 135) rfl)))) (mvT hZ4 (hw _ (List.mem_of_getElem? (i := 135) rfl))) (mvT hZ4 (hw _ (List.mem_of_getElem? (i := 134) rfl))) (by decide) (backOf (W := 0) (own_rm30 l Z a0 hw [] r4 r2 [r1] cs h4 n0 Z4 F4 Se (by decide : 1 < 1000) hcs Sf) hZ4 (hw _ (List.mem_of_getElem? (i := 136) rfl)) (hw _ (List.mem_of_getElem? (i := 40) rfl)) (by decide) (by decide)) q8a q8c (g := (mkF m 273 #[.val (.int kk), .val (.long xl), .second, .val (.long yl), .second, .val (.int (kk &&& (7 : Int32))), .val (.ref r2), .val (.int (1 : Int32)), .val (.ref r4), .unset] [(.ref r4)])) rfl (by rw [hml]; rfl) (Steps.refl _) (argsL := []) (rest := []) (lenOf own_pd3 rfl) rfl (by show 2 * 0 + _ ≤ _; exact Nat.le_of_eq rfl) (hb hby at_273) (fun _ _ => ⟨rfl, e7, (by decide : 5 + 0 ≤ _), (by decide : 26 + 0 ≤ _)⟩)
    dsimp only [Pt.U, Pt.locs, Pt.cells, Pt.slots] at X8 l8 y8 z8 st8 hQ8
    subst l8 y8 z8
    obtain ⟨rfl, N8q, e8⟩ := hQ8
    have N8 := Fr.app N7 N8q
    refine own_wt (T' := T8) (g' := (mkF m 276 #[.val (.int kk), .val (.long xl), .second, .val (.long yl), .second, .val (.int (kk &&& (7 : Int32))), .val (.ref r2), .val (.int (1 : Int32)), .val (.ref r4), .unset] [(.int (if (own_io [r1] 0 < (0 : Int32)) then (1 : Int32) else 0))])) st8 ?_
    refine own_ww (T' := T8) (g' := (mkF m 278 #[.val (.int kk), .val (.long xl), .second, .val (.long yl), .second, .val (.int (kk &&& (7 : Int32))), .val (.ref r2), .val (.int (1 : Int32)), .val (.ref r4), .unset] [(.int (1 : Int32)), (.int (if (own_io [r1] 0 < (0 : Int32)) then (1 : Int32) else 0))])) (fun _ k_ => XS.iload X8.here hx rfl (hb hby at_276) rfl k_) ?_
    refine own_ww (T' := T8) (g' := (mkF m 279 #[.val (.int kk), .val (.long xl), .second, .val (.long yl), .second, .val (.int (kk &&& (7 : Int32))), .val (.ref r2), .val (.int (1 : Int32)), .val (.ref r4), .unset] [(.int (1 : Int32)), (.int (1 : Int32)), (.int (if (own_io [r1] 0 < (0 : Int32)) then (1 : Int32) else 0))])) (fun _ k_ => XS.iconst X8.here hx rfl (hb hby at_278) k_) ?_
    refine own_ww (T' := T8) (g' := (mkF m 282 #[.val (.int kk), .val (.long xl), .second, .val (.long yl), .second, .val (.int (kk &&& (7 : Int32))), .val (.ref r2), .val (.int (1 : Int32)), .val (.ref r4), .unset] [(.int (if (own_io [r1] 0 < (0 : Int32)) then (1 : Int32) else 0))])) (fun _ k_ => XS.icmpNo X8.here hx rfl (hb hby at_279) rfl (teq (by decide)).2 k_) ?_
    refine own_ww (T' := T8) (g' := (mkF m 283 #[.val (.int kk), .val (.long xl), .second, .val (.long yl), .second, .val (.int (kk &&& (7 : Int32))), .val (.ref r2), .val (.int (1 : Int32)), .val (.ref r4), .unset] [(.int (1 : Int32)), (.int (if (own_io [r1] 0 < (0 : Int32)) then (1 : Int32) else 0))])) (fun _ k_ => XS.iconst X8.here hx rfl (hb hby at_282) k_) ?_
    refine own_ww (T' := T8) (g' := (mkF m 287 #[.val (.int kk), .val (.long xl), .second, .val (.long yl), .second, .val (.int (kk &&& (7 : Int32))), .val (.ref r2), .val (.int (1 : Int32)), .val (.ref r4), .unset] [(.int (1 : Int32)), (.int (if (own_io [r1] 0 < (0 : Int32)) then (1 : Int32) else 0))])) (fun _ k_ => XS.goto X8.here hx rfl (pc0 := 283) (pc' := 287) rfl (hb hby at_283) (by decide) (by decide) k_) ?_
    refine own_ww (T' := T8) (g' := (mkF m 290 #[.val (.int kk), .val (.long xl), .second, .val (.long yl), .second, .val (.int (kk &&& (7 : Int32))), .val (.ref r2), .val (.int (1 : Int32)), .val (.ref r4), .unset] [])) (fun _ k_ => XS.icmpNo X8.here hx rfl (hb hby at_287) rfl (teq (if_pos hro)).2 k_) ?_
    refine own_ww (T' := T8) (g' := (mkF m 291 #[.val (.int kk), .val (.long xl), .second, .val (.long yl), .second, .val (.int (kk &&& (7 : Int32))), .val (.ref r2), .val (.int (1 : Int32)), .val (.ref r4), .unset] [(.int (1 : Int32))])) (fun _ k_ => XS.iconst X8.here hx rfl (hb hby at_290) k_) ?_
    refine own_ww (T' := T8) (g' := (mkF m 295 #[.val (.int kk), .val (.long xl), .second, .val (.long yl), .second, .val (.int (kk &&& (7 : Int32))), .val (.ref r2), .val (.int (1 : Int32)), .val (.ref r4), .unset] [(.int (1 : Int32))])) (fun _ k_ => XS.goto X8.here hx rfl (pc0 := 291) (pc' := 295) rfl (hb hby at_291) (by decide) (by decide) k_) ?_
    obtain ⟨fs, hr, hrun, hended, hRE⟩ := X8.leaveW (own_since hS4 CS4.2.1) (by rw [e8]; exact Nat.le_refl _) (v := some (.int (1 : Int32))) (fun h => by rw [Bd.returns] at h; cases h)
    exact ⟨_, _, retOut X8 hx Bd.returns rfl (Or.inl ⟨rfl, Or.inr (Or.inl rfl), _, rfl⟩) (hb hby at_295) hr, hrun, hended, _, _, rfl, (by show own_Q0 Z kk xl yl cs sf h0 n0 _ T8.heap _; rw [e8]; exact ⟨rfl, N8⟩), (by show CHr Z own_EL s.vm s.heap T8.vm T8.heap; rw [e8, hh]; exact (CB4.trans CS4).trans (CHv.at X8 hZ4 (own_EW hw) CS4.1)), own_rmono hRE (by decide) (by decide)⟩
  · refine own_ww (T' := s₁) (g' := (mkF m 28 #[.val (.int kk), .val (.long xl), .second, .val (.long yl), .second, .val (.int (kk &&& (7 : Int32))), .unset, .unset, .unset, .unset] [])) (fun _ k_ => XS.icmpYes X0.here hx rfl (pc0 := 9) (pc' := 28) rfl (hb hby at_9) rfl (feq hc9).2 (by decide) (by decide) k_) ?_
    refine own_ww (T' := s₁) (g' := (mkF m 30 #[.val (.int kk), .val (.long xl), .second, .val (.long yl), .second, .val (.int (kk &&& (7 : Int32))), .unset, .unset, .unset, .unset] [(.int (kk &&& (7 : Int32)))])) (fun _ k_ => XS.iload X0.here hx rfl (hb hby at_28) rfl k_) ?_
    refine own_ww (T' := s₁) (g' := (mkF m 31 #[.val (.int kk), .val (.long xl), .second, .val (.long yl), .second, .val (.int (kk &&& (7 : Int32))), .unset, .unset, .unset, .unset] [(.int (5 : Int32)), (.int (kk &&& (7 : Int32)))])) (fun _ k_ => XS.iconst X0.here hx rfl (hb hby at_30) k_) ?_
    by_cases hc31 : (kk &&& (7 : Int32)) = (5 : Int32)
    · refine own_ww (T' := s₁) (g' := (mkF m 34 #[.val (.int kk), .val (.long xl), .second, .val (.long yl), .second, .val (.int (kk &&& (7 : Int32))), .unset, .unset, .unset, .unset] [])) (fun _ k_ => XS.icmpNo X0.here hx rfl (hb hby at_31) rfl (teq hc31).2 k_) ?_
      obtain ⟨a9, T9, h9, k19, b9, kc9, X9, e9, E9, hs9, hk9, hZ9, ho9, Es9, Fc9, Fv9, Av9, la9, lb9, cr9, Li9, sn9, st9⟩ := ldcCH X0 hx hZ hown (hw _ (List.mem_of_getElem? (i := 156) rfl)) (own_wS hw) e0 hS0 CB0.2.1 (own_EW hw) (by decide) CB0.1 (vs := (own_t21.map Value.int)) (z := (63 : Int32)) ⟨by decide +kernel, by unfold own_t21; rw [List.map_map]; rfl⟩ (by decide) (by decide +kernel) (g := (mkF m 34 #[.val (.int kk), .val (.long xl), .second, .val (.long yl), .second, .val (.int (kk &&& (7 : Int32))), .unset, .unset, .unset, .unset] [])) rfl (hb hby at_34) (n := 252) (by decide +kernel) (by decide) (by decide) (by decide)
      have hS9 := own_since hs9 hk9
      have CB9 : CHr Z own_EL s.vm h0 T9.vm h9 := CB0.trans cr9
      have CS9 : CHr Z own_EL T9.vm h9 T9.vm h9 := CHr.refl CB9.1
      have Z9 : n0 ≤ h9.size := Nat.le_trans Z0 E9.1
      refine own_ww (T' := T9) (g' := (mkF m 36 #[.val (.int kk), .val (.long xl), .second, .val (.long yl), .second, .val (.int (kk &&& (7 : Int32))), .unset, .unset, .unset, .unset] [(.ref a9)])) st9 ?_
      have lt' := own_pl_21.2.2.2.2
      have Q9 : own_Str Z h9 a9 own_t21 := ⟨Es9, Fc9, _, Fv9, own_Ar_of Av9 (by rw [lt']; decide)⟩
      have S2 := S.ext E9
      have SF2 := SF.ext E9
      refine own_ww (T' := T9) (g' := (mkF m 38 #[.val (.int kk), .val (.long xl), .second, .val (.long yl), .second, .val (.int (kk &&& (7 : Int32))), .val (.ref a9), .unset, .unset, .unset] [])) (fun _ k_ => XS.astore X9.here hx rfl (hb hby at_36) rfl rfl (l' := #[.val (.int kk), .val (.long xl), .second, .val (.long yl), .second, .val (.int (kk &&& (7 : Int32))), .val (.ref a9), .unset, .unset, .unset]) rfl k_) ?_
      refine own_ww (T' := T9) (g' := (mkF m 39 #[.val (.int kk), .val (.long xl), .second, .val (.long yl), .second, .val (.int (kk &&& (7 : Int32))), .val (.ref a9), .unset, .unset, .unset] [(.int (1 : Int32))])) (fun _ k_ => XS.iconst X9.here hx rfl (hb hby at_38) k_) ?_
      refine own_ww (T' := T9) (g' := (mkF m 41 #[.val (.int kk), .val (.long xl), .second, .val (.long yl), .second, .val (.int (kk &&& (7 : Int32))), .val (.ref a9), .val (.int (1 : Int32)), .unset, .unset] [])) (fun _ k_ => XS.istore X9.here hx rfl (hb hby at_39) rfl (l' := #[.val (.int kk), .val (.long xl), .second, .val (.long yl), .second, .val (.int (kk &&& (7 : Int32))), .val (.ref a9), .val (.int (1 : Int32)), .unset, .unset]) rfl k_) ?_
      refine own_ww (T' := T9) (g' := (mkF m 241 #[.val (.int kk), .val (.long xl), .second, .val (.long yl), .second, .val (.int (kk &&& (7 : Int32))), .val (.ref a9), .val (.int (1 : Int32)), .unset, .unset] [])) (fun _ k_ => XS.goto X9.here hx rfl (pc0 := 41) (pc' := 241) rfl (hb hby at_41) (by decide) (by decide) k_) ?_
      obtain ⟨LA10, XA10, NA10⟩ : ∃ L, Stand p l e room_1 (s.setVm T9.vm) m #[(.int kk), (.long xl), (.long yl)] below meth c T9 L 2 256 ∧ Fr n0 L := ⟨_, X9, N0⟩
      have PL := own_pl_21
      have hro := own_ro1 PL.2.2.2.1
      refine own_ww (T' := T9) (g' := (mkF m 243 #[.val (.int kk), .val (.long xl), .second, .val (.long yl), .second, .val (.int (kk &&& (7 : Int32))), .val (.ref a9), .val (.int (1 : Int32)), .unset, .unset] [(.ref a9)])) (fun _ k_ => XS.aload XA10.here hx rfl (hb hby at_241) rfl rfl k_) ?_
      obtain ⟨_, _, ⟨T11, L11, k11, n11⟩, -, X11', hs211, hg11, ⟨Lc11, hQ11, l11, y11, z11, cr11⟩, st11⟩ := callSS XA10 hx (y := (⟨"com/example/adjacency/adjacency/identity/NodeName", "parse", "(Ljava/lang/String;)Lcom/example/adjacency/adjacency/identity/NodeName;"⟩ : MethodName)) ho9 (mvT hZ9 (hw _ (List.mem_of_getElem? (i := 38) rfl))) (mvT hZ9 (hw _ (List.mem_of_getElem? (i := 39) rfl))) (mvT hZ9 (hw _ (List.mem_of_getElem? (i := 40) rfl))) (mvT hZ9 (hw _ (List.mem_of_getElem? (i := 41) rfl))) (by decide) (backOfSH (W := 0) (own_rm9 l Z a0 hw [] a9 own_t21 cs sf h9 n0 Z9 Q9 (by rw [lt']; decide) hcs S2 hsf SF2 PL.1 PL.2.1 (by rw [PL.2.2.1]; decide)) hZ9 (hw _ (List.mem_of_getElem? (i := 41) rfl)) (hw _ (List.mem_of_getElem? (i := 40) rfl)) (by decide) (by decide) (own_EW hw) CS9.1) (g := (mkF m 243 #[.val (.int kk), .val (.long xl), .second, .val (.long yl), .second, .val (.int (kk &&& (7 : Int32))), .val (.ref a9), .val (.int (1 : Int32)), .unset, .unset] [(.ref a9)])) rfl (by rw [hml]; rfl) (argsL := [(.ref a9)]) (rest := []) (lenOf own_pd24 rfl) rfl (by show 2 * 0 + _ ≤ _; exact Nat.le_of_eq rfl) (hb hby at_243) (fun _ _ => ⟨rfl, e9, (by decide : 2 + 3 ≤ _), (by decide : 256 + 21 ≤ _)⟩)
      dsimp only [Pt.U, Pt.locs, Pt.cells, Pt.slots] at X11' hs211 hg11 l11 y11 z11 st11 hQ11 cr11
      subst l11 y11 z11
      obtain ⟨X11, hS11, hZ11, ho11⟩ := rebS hS9 (by rw [e9]; exact CS9.2.1) X11' hs211 hg11 hZ9 ho9
      obtain ⟨h11, e11⟩ : ∃ h, T11.heap = h := ⟨_, rfl⟩
      rw [e11] at hQ11 hS11 cr11
      obtain ⟨r11, rfl, N11q, K11, Ex11, F11⟩ := hQ11
      have N11 := Fr.app NA10 N11q
      have CB11 : CHr Z own_EL s.vm h0 T11.vm h11 := (CB9.trans CS9).trans cr11
      have CS11 : CHr Z own_EL T11.vm h11 T11.vm h11 := CHr.refl CB11.1
      have Z11 : n0 ≤ h11.size := Nat.le_trans Z9 cr11.2.1
      refine own_wt (T' := T11) (g' := (mkF m 246 #[.val (.int kk), .val (.long xl), .second, .val (.long yl), .second, .val (.int (kk &&& (7 : Int32))), .val (.ref a9), .val (.int (1 : Int32)), .unset, .unset] [(.ref r11)])) st11 ?_
      have Se := own_Str_keep Q9 K11
      have Sf := own_sta0 S2 K11
      have Sg := own_sta0 SF2 K11
      refine own_ww (T' := T11) (g' := (mkF m 248 #[.val (.int kk), .val (.long xl), .second, .val (.long yl), .second, .val (.int (kk &&& (7 : Int32))), .val (.ref a9), .val (.int (1 : Int32)), .val (.ref r11), .unset] [])) (fun _ k_ => XS.astore X11.here hx rfl (hb hby at_246) rfl rfl (l' := #[.val (.int kk), .val (.long xl), .second, .val (.long yl), .second, .val (.int (kk &&& (7 : Int32))), .val (.ref a9), .val (.int (1 : Int32)), .val (.ref r11), .unset]) rfl k_) ?_
      refine own_ww (T' := T11) (g' := (mkF m 250 #[.val (.int kk), .val (.long xl), .second, .val (.long yl), .second, .val (.int (kk &&& (7 : Int32))), .val (.ref a9), .val (.int (1 : Int32)), .val (.ref r11), .unset] [(.ref r11)])) (fun _ k_ => XS.aload X11.here hx rfl (hb hby at_248) rfl rfl k_) ?_
      obtain ⟨cq12, kq12, q12a, q12b, q12c⟩ := isOf hZ11 e11 Ex11
      obtain ⟨_, _, ⟨T12, L12, k12, n12⟩, -, X12, ⟨Lc12, hQ12, l12, y12, z12⟩, st12⟩ := X11.virtualBack hx (y := (⟨"com/example/adjacency/adjacency/identity/NodeName", "toString", "()Ljava/lang/String;"⟩ : MethodName)) (z := (⟨"com/example/adjacency/adjacency/identity/NodeName", "toString", "()Ljava/lang/String;"⟩ : MethodName)) ho11 (mvT hZ11 (hw _ (List.mem_of_getElem? (i := 117) rfl))) (mvT hZ11 (hw _ (List.mem_of_getElem? (i := 118) rfl))) (notFace_of_selects (args := #[]) (mvT hZ11 (hw _ (List.mem_of_getElem? (i := 120) rfl)))) (mvT hZ11 (hw _ (List.mem_of_getElem? (i := 120) rfl))) (mvT hZ11 (hw _ (List.mem_of_getElem? (i := 119) rfl))) (by decide) (backOf (W := 0) (own_rm27 l Z a0 hw [] r11 a9 h11 n0 Z11 F11) hZ11 (hw _ (List.mem_of_getElem? (i := 121) rfl)) (hw _ (List.mem_of_getElem? (i := 40) rfl)) (by decide) (by decide)) q12a q12c (g := (mkF m 250 #[.val (.int kk), .val (.long xl), .second, .val (.long yl), .second, .val (.int (kk &&& (7 : Int32))), .val (.ref a9), .val (.int (1 : Int32)), .val (.ref r11), .unset] [(.ref r11)])) rfl (by rw [hml]; rfl) (Steps.refl _) (argsL := []) (rest := []) (lenOf own_pd25 rfl) rfl (by show 2 * 0 + _ ≤ _; exact Nat.le_of_eq rfl) (hb hby at_250) (fun _ _ => ⟨rfl, e11, (by decide : 5 + 0 ≤ _), (by decide : 277 + 0 ≤ _)⟩)
      dsimp only [Pt.U, Pt.locs, Pt.cells, Pt.slots] at X12 l12 y12 z12 st12 hQ12
      subst l12 y12 z12
      obtain ⟨rfl, N12q, e12⟩ := hQ12
      have N12 := Fr.app N11 N12q
      refine own_wt (T' := T12) (g' := (mkF m 253 #[.val (.int kk), .val (.long xl), .second, .val (.long yl), .second, .val (.int (kk &&& (7 : Int32))), .val (.ref a9), .val (.int (1 : Int32)), .val (.ref r11), .unset] [(.ref a9)])) st12 ?_
      refine own_ww (T' := T12) (g' := (mkF m 255 #[.val (.int kk), .val (.long xl), .second, .val (.long yl), .second, .val (.int (kk &&& (7 : Int32))), .val (.ref a9), .val (.int (1 : Int32)), .val (.ref r11), .unset] [(.ref a9), (.ref a9)])) (fun _ k_ => XS.aload X12.here hx rfl (hb hby at_253) rfl rfl k_) ?_
      obtain ⟨cq13, kq13, q13a, q13b, q13c⟩ := isOf hZ11 e12 Se.1
      obtain ⟨_, _, ⟨T13, L13, k13, n13⟩, -, X13, ⟨Lc13, hQ13, l13, y13, z13⟩, st13⟩ := X12.virtualBack hx (y := (⟨"java/lang/String", "equals", "(Ljava/lang/Object;)Z"⟩ : MethodName)) (z := (⟨"java/lang/String", "equals", "(Ljava/lang/Object;)Z"⟩ : MethodName)) ho11 (mvT hZ11 (hw _ (List.mem_of_getElem? (i := 122) rfl))) (mvT hZ11 (hw _ (List.mem_of_getElem? (i := 123) rfl))) (notFace_of_selects (args := #[]) (mvT hZ11 (hw _ (List.mem_of_getElem? (i := 125) rfl)))) (mvT hZ11 (hw _ (List.mem_of_getElem? (i := 125) rfl))) (mvT hZ11 (hw _ (List.mem_of_getElem? (i := 124) rfl))) (by decide) (backOf (W := 0) (own_rm28 l Z a0 hw [] a9 a9  h11 n0 Z11 rfl) hZ11 (hw _ (List.mem_of_getElem? (i := 126) rfl)) (hw _ (List.mem_of_getElem? (i := 11) rfl)) (by decide) (by decide)) q13a q13c (g := (mkF m 255 #[.val (.int kk), .val (.long xl), .second, .val (.long yl), .second, .val (.int (kk &&& (7 : Int32))), .val (.ref a9), .val (.int (1 : Int32)), .val (.ref r11), .unset] [(.ref a9), (.ref a9)])) rfl (by rw [hml]; rfl) (Steps.refl _) (argsL := [(.ref a9)]) (rest := []) (lenOf own_pd26 rfl) rfl (by show 2 * 0 + _ ≤ _; exact Nat.le_of_eq rfl) (hb hby at_255) (fun _ _ => ⟨rfl, e12, (by decide : 5 + 0 ≤ _), (by decide : 277 + 0 ≤ _)⟩)
      dsimp only [Pt.U, Pt.locs, Pt.cells, Pt.slots] at X13 l13 y13 z13 st13 hQ13
      subst l13 y13 z13
      obtain ⟨rfl, N13q, e13⟩ := hQ13
      have N13 := Fr.app N12 N13q
      refine own_wt (T' := T13) (g' := (mkF m 258 #[.val (.int kk), .val (.long xl), .second, .val (.long yl), .second, .val (.int (kk &&& (7 : Int32))), .val (.ref a9), .val (.int (1 : Int32)), .val (.ref r11), .unset] [(.int (1 : Int32))])) st13 ?_
      refine own_ww (T' := T13) (g' := (mkF m 261 #[.val (.int kk), .val (.long xl), .second, .val (.long yl), .second, .val (.int (kk &&& (7 : Int32))), .val (.ref a9), .val (.int (1 : Int32)), .val (.ref r11), .unset] [])) (fun _ k_ => XS.ifNo X13.here hx rfl (hb hby at_258) rfl ((if0 _ _).trans (feq (by decide)).1) k_) ?_
      refine own_ww (T' := T13) (g' := (mkF m 263 #[.val (.int kk), .val (.long xl), .second, .val (.long yl), .second, .val (.int (kk &&& (7 : Int32))), .val (.ref a9), .val (.int (1 : Int32)), .val (.ref r11), .unset] [(.ref r11)])) (fun _ k_ => XS.aload X13.here hx rfl (hb hby at_261) rfl rfl k_) ?_
      obtain ⟨cq14, kq14, q14a, q14b, q14c⟩ := isOf hZ11 e13 Ex11
      obtain ⟨_, _, ⟨T14, L14, k14, n14⟩, -, X14, ⟨Lc14, hQ14, l14, y14, z14⟩, st14⟩ := X13.virtualBack hx (y := (⟨"com/example/adjacency/adjacency/identity/NodeName", "labelCount", "()I"⟩ : MethodName)) (z := (⟨"com/example/adjacency/adjacency/identity/NodeName", "labelCount", "()I"⟩ : MethodName)) ho11 (mvT hZ11 (hw _ (List.mem_of_getElem? (i := 127) rfl))) (mvT hZ11 (hw _ (List.mem_of_getElem? (i := 128) rfl))) (notFace_of_selects (args := #[]) (mvT hZ11 (hw _ (List.mem_of_getElem? (i := 130) rfl)))) (mvT hZ11 (hw _ (List.mem_of_getElem? (i := 130) rfl))) (mvT hZ11 (hw _ (List.mem_of_getElem? (i := 129) rfl))) (by decide) (backOf (W := 0) (own_rm29 l Z a0 hw [] r11 a9 own_t21 cs sf h11 n0 Z11 F11 Se (by rw [lt']; decide) hcs Sf hsf Sg PL.1) hZ11 (hw _ (List.mem_of_getElem? (i := 131) rfl)) (hw _ (List.mem_of_getElem? (i := 40) rfl)) (by decide) (by decide)) q14a q14c (g := (mkF m 263 #[.val (.int kk), .val (.long xl), .second, .val (.long yl), .second, .val (.int (kk &&& (7 : Int32))), .val (.ref a9), .val (.int (1 : Int32)), .val (.ref r11), .unset] [(.ref r11)])) rfl (by rw [hml]; rfl) (Steps.refl _) (argsL := []) (rest := []) (lenOf own_pd8 rfl) rfl (by show 2 * 0 + _ ≤ _; exact Nat.le_of_eq rfl) (hb hby at_263) (fun _ _ => ⟨rfl, e13, (by decide : 5 + 0 ≤ _), (by decide : 277 + 0 ≤ _)⟩)
      dsimp only [Pt.U, Pt.locs, Pt.cells, Pt.slots] at X14 l14 y14 z14 st14 hQ14
      subst l14 y14 z14
      obtain ⟨rfl, N14q, e14⟩ := hQ14
      have N14 := Fr.app N13 N14q
      refine own_wt (T' := T14) (g' := (mkF m 266 #[.val (.int kk), .val (.long xl), .second, .val (.long yl), .second, .val (.int (kk &&& (7 : Int32))), .val (.ref a9), .val (.int (1 : Int32)), .val (.ref r11), .unset] [(.int (own_cl own_t21))])) st14 ?_
      refine own_ww (T' := T14) (g' := (mkF m 268 #[.val (.int kk), .val (.long xl), .second, .val (.long yl), .second, .val (.int (kk &&& (7 : Int32))), .val (.ref a9), .val (.int (1 : Int32)), .val (.ref r11), .unset] [(.int (1 : Int32)), (.int (own_cl own_t21))])) (fun _ k_ => XS.iload X14.here hx rfl (hb hby at_266) rfl k_) ?_
      refine own_ww (T' := T14) (g' := (mkF m 271 #[.val (.int kk), .val (.long xl), .second, .val (.long yl), .second, .val (.int (kk &&& (7 : Int32))), .val (.ref a9), .val (.int (1 : Int32)), .val (.ref r11), .unset] [])) (fun _ k_ => XS.icmpNo X14.here hx rfl (hb hby at_268) rfl (teq PL.2.2.1).2 k_) ?_
      refine own_ww (T' := T14) (g' := (mkF m 273 #[.val (.int kk), .val (.long xl), .second, .val (.long yl), .second, .val (.int (kk &&& (7 : Int32))), .val (.ref a9), .val (.int (1 : Int32)), .val (.ref r11), .unset] [(.ref r11)])) (fun _ k_ => XS.aload X14.here hx rfl (hb hby at_271) rfl rfl k_) ?_
      obtain ⟨cq15, kq15, q15a, q15b, q15c⟩ := isOf hZ11 e14 Ex11
      obtain ⟨_, _, ⟨T15, L15, k15, n15⟩, -, X15, ⟨Lc15, hQ15, l15, y15, z15⟩, st15⟩ := X14.virtualBack hx (y := (⟨"com/example/adjacency/adjacency/identity/NodeName", "isRoot", "()Z"⟩ : MethodName)) (z := (⟨"com/example/adjacency/adjacency/identity/NodeName", "isRoot", "()Z"⟩ : MethodName)) ho11 (mvT hZ11 (hw _ (List.mem_of_getElem? (i := 132) rfl))) (mvT hZ11 (hw _ (List.mem_of_getElem? (i := 133) rfl))) (notFace_of_selects (args := #[]) (mvT hZ11 (hw _ (List.mem_of_getElem? (i := 135) rfl)))) (mvT hZ11 (hw _ (List.mem_of_getElem? (i := 135) rfl))) (mvT hZ11 (hw _ (List.mem_of_getElem? (i := 134) rfl))) (by decide) (backOf (W := 0) (own_rm30 l Z a0 hw [] r11 a9 own_t21 cs h11 n0 Z11 F11 Se (by rw [lt']; decide) hcs Sf) hZ11 (hw _ (List.mem_of_getElem? (i := 136) rfl)) (hw _ (List.mem_of_getElem? (i := 40) rfl)) (by decide) (by decide)) q15a q15c (g := (mkF m 273 #[.val (.int kk), .val (.long xl), .second, .val (.long yl), .second, .val (.int (kk &&& (7 : Int32))), .val (.ref a9), .val (.int (1 : Int32)), .val (.ref r11), .unset] [(.ref r11)])) rfl (by rw [hml]; rfl) (Steps.refl _) (argsL := []) (rest := []) (lenOf own_pd3 rfl) rfl (by show 2 * 0 + _ ≤ _; exact Nat.le_of_eq rfl) (hb hby at_273) (fun _ _ => ⟨rfl, e14, (by decide : 5 + 0 ≤ _), (by decide : 277 + 0 ≤ _)⟩)
      dsimp only [Pt.U, Pt.locs, Pt.cells, Pt.slots] at X15 l15 y15 z15 st15 hQ15
      subst l15 y15 z15
      obtain ⟨rfl, N15q, e15⟩ := hQ15
      have N15 := Fr.app N14 N15q
      refine own_wt (T' := T15) (g' := (mkF m 276 #[.val (.int kk), .val (.long xl), .second, .val (.long yl), .second, .val (.int (kk &&& (7 : Int32))), .val (.ref a9), .val (.int (1 : Int32)), .val (.ref r11), .unset] [(.int (if (own_io own_t21 0 < (0 : Int32)) then (1 : Int32) else 0))])) st15 ?_
      refine own_ww (T' := T15) (g' := (mkF m 278 #[.val (.int kk), .val (.long xl), .second, .val (.long yl), .second, .val (.int (kk &&& (7 : Int32))), .val (.ref a9), .val (.int (1 : Int32)), .val (.ref r11), .unset] [(.int (1 : Int32)), (.int (if (own_io own_t21 0 < (0 : Int32)) then (1 : Int32) else 0))])) (fun _ k_ => XS.iload X15.here hx rfl (hb hby at_276) rfl k_) ?_
      refine own_ww (T' := T15) (g' := (mkF m 279 #[.val (.int kk), .val (.long xl), .second, .val (.long yl), .second, .val (.int (kk &&& (7 : Int32))), .val (.ref a9), .val (.int (1 : Int32)), .val (.ref r11), .unset] [(.int (1 : Int32)), (.int (1 : Int32)), (.int (if (own_io own_t21 0 < (0 : Int32)) then (1 : Int32) else 0))])) (fun _ k_ => XS.iconst X15.here hx rfl (hb hby at_278) k_) ?_
      refine own_ww (T' := T15) (g' := (mkF m 282 #[.val (.int kk), .val (.long xl), .second, .val (.long yl), .second, .val (.int (kk &&& (7 : Int32))), .val (.ref a9), .val (.int (1 : Int32)), .val (.ref r11), .unset] [(.int (if (own_io own_t21 0 < (0 : Int32)) then (1 : Int32) else 0))])) (fun _ k_ => XS.icmpNo X15.here hx rfl (hb hby at_279) rfl (teq (by decide)).2 k_) ?_
      refine own_ww (T' := T15) (g' := (mkF m 283 #[.val (.int kk), .val (.long xl), .second, .val (.long yl), .second, .val (.int (kk &&& (7 : Int32))), .val (.ref a9), .val (.int (1 : Int32)), .val (.ref r11), .unset] [(.int (1 : Int32)), (.int (if (own_io own_t21 0 < (0 : Int32)) then (1 : Int32) else 0))])) (fun _ k_ => XS.iconst X15.here hx rfl (hb hby at_282) k_) ?_
      refine own_ww (T' := T15) (g' := (mkF m 287 #[.val (.int kk), .val (.long xl), .second, .val (.long yl), .second, .val (.int (kk &&& (7 : Int32))), .val (.ref a9), .val (.int (1 : Int32)), .val (.ref r11), .unset] [(.int (1 : Int32)), (.int (if (own_io own_t21 0 < (0 : Int32)) then (1 : Int32) else 0))])) (fun _ k_ => XS.goto X15.here hx rfl (pc0 := 283) (pc' := 287) rfl (hb hby at_283) (by decide) (by decide) k_) ?_
      refine own_ww (T' := T15) (g' := (mkF m 290 #[.val (.int kk), .val (.long xl), .second, .val (.long yl), .second, .val (.int (kk &&& (7 : Int32))), .val (.ref a9), .val (.int (1 : Int32)), .val (.ref r11), .unset] [])) (fun _ k_ => XS.icmpNo X15.here hx rfl (hb hby at_287) rfl (teq (if_pos hro)).2 k_) ?_
      refine own_ww (T' := T15) (g' := (mkF m 291 #[.val (.int kk), .val (.long xl), .second, .val (.long yl), .second, .val (.int (kk &&& (7 : Int32))), .val (.ref a9), .val (.int (1 : Int32)), .val (.ref r11), .unset] [(.int (1 : Int32))])) (fun _ k_ => XS.iconst X15.here hx rfl (hb hby at_290) k_) ?_
      refine own_ww (T' := T15) (g' := (mkF m 295 #[.val (.int kk), .val (.long xl), .second, .val (.long yl), .second, .val (.int (kk &&& (7 : Int32))), .val (.ref a9), .val (.int (1 : Int32)), .val (.ref r11), .unset] [(.int (1 : Int32))])) (fun _ k_ => XS.goto X15.here hx rfl (pc0 := 291) (pc' := 295) rfl (hb hby at_291) (by decide) (by decide) k_) ?_
      obtain ⟨fs, hr, hrun, hended, hRE⟩ := X15.leaveW (own_since hS11 CS11.2.1) (by rw [e15]; exact Nat.le_refl _) (v := some (.int (1 : Int32))) (fun h => by rw [Bd.returns] at h; cases h)
      exact ⟨_, _, retOut X15 hx Bd.returns rfl (Or.inl ⟨rfl, Or.inr (Or.inl rfl), _, rfl⟩) (hb hby at_295) hr, hrun, hended, _, _, rfl, (by show own_Q0 Z kk xl yl cs sf h0 n0 _ T15.heap _; rw [e15]; exact ⟨rfl, N15⟩), (by show CHr Z own_EL s.vm s.heap T15.vm T15.heap; rw [e15, hh]; exact (CB11.trans CS11).trans (CHv.at X15 hZ11 (own_EW hw) CS11.1)), own_rmono hRE (by decide) (by decide)⟩
    · refine own_ww (T' := s₁) (g' := (mkF m 44 #[.val (.int kk), .val (.long xl), .second, .val (.long yl), .second, .val (.int (kk &&& (7 : Int32))), .unset, .unset, .unset, .unset] [])) (fun _ k_ => XS.icmpYes X0.here hx rfl (pc0 := 31) (pc' := 44) rfl (hb hby at_31) rfl (feq hc31).2 (by decide) (by decide) k_) ?_
      refine own_ww (T' := s₁) (g' := (mkF m 46 #[.val (.int kk), .val (.long xl), .second, .val (.long yl), .second, .val (.int (kk &&& (7 : Int32))), .unset, .unset, .unset, .unset] [(.int (kk &&& (7 : Int32)))])) (fun _ k_ => XS.iload X0.here hx rfl (hb hby at_44) rfl k_) ?_
      refine own_ww (T' := s₁) (g' := (mkF m 48 #[.val (.int kk), .val (.long xl), .second, .val (.long yl), .second, .val (.int (kk &&& (7 : Int32))), .unset, .unset, .unset, .unset] [(.int (6 : Int32)), (.int (kk &&& (7 : Int32)))])) (fun _ k_ => XS.bipush X0.here hx rfl (hb hby at_46) k_) ?_
      by_cases hc48 : (kk &&& (7 : Int32)) = (6 : Int32)
      · refine own_ww (T' := s₁) (g' := (mkF m 51 #[.val (.int kk), .val (.long xl), .second, .val (.long yl), .second, .val (.int (kk &&& (7 : Int32))), .unset, .unset, .unset, .unset] [])) (fun _ k_ => XS.icmpNo X0.here hx rfl (hb hby at_48) rfl (teq hc48).2 k_) ?_
        obtain ⟨a16, T16, h16, k116, b16, kc16, X16, e16, E16, hs16, hk16, hZ16, ho16, Es16, Fc16, Fv16, Av16, la16, lb16, cr16, Li16, sn16, st16⟩ := ldcCH X0 hx hZ hown (hw _ (List.mem_of_getElem? (i := 157) rfl)) (own_wS hw) e0 hS0 CB0.2.1 (own_EW hw) (by decide) CB0.1 (vs := (own_t23.map Value.int)) (z := (255 : Int32)) ⟨by decide +kernel, by unfold own_t23; rw [List.map_map]; rfl⟩ (by decide) (by decide +kernel) (g := (mkF m 51 #[.val (.int kk), .val (.long xl), .second, .val (.long yl), .second, .val (.int (kk &&& (7 : Int32))), .unset, .unset, .unset, .unset] [])) rfl (hb hby at_51) (n := 1020) (by decide +kernel) (by decide) (by decide) (by decide)
        have hS16 := own_since hs16 hk16
        have CB16 : CHr Z own_EL s.vm h0 T16.vm h16 := CB0.trans cr16
        have CS16 : CHr Z own_EL T16.vm h16 T16.vm h16 := CHr.refl CB16.1
        have Z16 : n0 ≤ h16.size := Nat.le_trans Z0 E16.1
        refine own_ww (T' := T16) (g' := (mkF m 53 #[.val (.int kk), .val (.long xl), .second, .val (.long yl), .second, .val (.int (kk &&& (7 : Int32))), .unset, .unset, .unset, .unset] [(.ref a16)])) st16 ?_
        have lt' := own_pl_23.2.2.2.2
        have Q16 : own_Str Z h16 a16 own_t23 := ⟨Es16, Fc16, _, Fv16, own_Ar_of Av16 (by rw [lt']; decide)⟩
        have S2 := S.ext E16
        have SF2 := SF.ext E16
        refine own_ww (T' := T16) (g' := (mkF m 55 #[.val (.int kk), .val (.long xl), .second, .val (.long yl), .second, .val (.int (kk &&& (7 : Int32))), .val (.ref a16), .unset, .unset, .unset] [])) (fun _ k_ => XS.astore X16.here hx rfl (hb hby at_53) rfl rfl (l' := #[.val (.int kk), .val (.long xl), .second, .val (.long yl), .second, .val (.int (kk &&& (7 : Int32))), .val (.ref a16), .unset, .unset, .unset]) rfl k_) ?_
        refine own_ww (T' := T16) (g' := (mkF m 56 #[.val (.int kk), .val (.long xl), .second, .val (.long yl), .second, .val (.int (kk &&& (7 : Int32))), .val (.ref a16), .unset, .unset, .unset] [(.int (4 : Int32))])) (fun _ k_ => XS.iconst X16.here hx rfl (hb hby at_55) k_) ?_
        refine own_ww (T' := T16) (g' := (mkF m 58 #[.val (.int kk), .val (.long xl), .second, .val (.long yl), .second, .val (.int (kk &&& (7 : Int32))), .val (.ref a16), .val (.int (4 : Int32)), .unset, .unset] [])) (fun _ k_ => XS.istore X16.here hx rfl (hb hby at_56) rfl (l' := #[.val (.int kk), .val (.long xl), .second, .val (.long yl), .second, .val (.int (kk &&& (7 : Int32))), .val (.ref a16), .val (.int (4 : Int32)), .unset, .unset]) rfl k_) ?_
        refine own_ww (T' := T16) (g' := (mkF m 241 #[.val (.int kk), .val (.long xl), .second, .val (.long yl), .second, .val (.int (kk &&& (7 : Int32))), .val (.ref a16), .val (.int (4 : Int32)), .unset, .unset] [])) (fun _ k_ => XS.goto X16.here hx rfl (pc0 := 58) (pc' := 241) rfl (hb hby at_58) (by decide) (by decide) k_) ?_
        obtain ⟨LA17, XA17, NA17⟩ : ∃ L, Stand p l e room_1 (s.setVm T16.vm) m #[(.int kk), (.long xl), (.long yl)] below meth c T16 L 2 1024 ∧ Fr n0 L := ⟨_, X16, N0⟩
        have PL := own_pl_23
        have hro := own_ro (n := 63) PL.2.2.2.1 (by decide)
        refine own_ww (T' := T16) (g' := (mkF m 243 #[.val (.int kk), .val (.long xl), .second, .val (.long yl), .second, .val (.int (kk &&& (7 : Int32))), .val (.ref a16), .val (.int (4 : Int32)), .unset, .unset] [(.ref a16)])) (fun _ k_ => XS.aload XA17.here hx rfl (hb hby at_241) rfl rfl k_) ?_
        obtain ⟨_, _, ⟨T18, L18, k18, n18⟩, -, X18', hs218, hg18, ⟨Lc18, hQ18, l18, y18, z18, cr18⟩, st18⟩ := callSS XA17 hx (y := (⟨"com/example/adjacency/adjacency/identity/NodeName", "parse", "(Ljava/lang/String;)Lcom/example/adjacency/adjacency/identity/NodeName;"⟩ : MethodName)) ho16 (mvT hZ16 (hw _ (List.mem_of_getElem? (i := 38) rfl))) (mvT hZ16 (hw _ (List.mem_of_getElem? (i := 39) rfl))) (mvT hZ16 (hw _ (List.mem_of_getElem? (i := 40) rfl))) (mvT hZ16 (hw _ (List.mem_of_getElem? (i := 41) rfl))) (by decide) (backOfSH (W := 0) (own_rm9 l Z a0 hw [] a16 own_t23 cs sf h16 n0 Z16 Q16 (by rw [lt']; decide) hcs S2 hsf SF2 PL.1 PL.2.1 (by rw [PL.2.2.1]; decide)) hZ16 (hw _ (List.mem_of_getElem? (i := 41) rfl)) (hw _ (List.mem_of_getElem? (i := 40) rfl)) (by decide) (by decide) (own_EW hw) CS16.1) (g := (mkF m 243 #[.val (.int kk), .val (.long xl), .second, .val (.long yl), .second, .val (.int (kk &&& (7 : Int32))), .val (.ref a16), .val (.int (4 : Int32)), .unset, .unset] [(.ref a16)])) rfl (by rw [hml]; rfl) (argsL := [(.ref a16)]) (rest := []) (lenOf own_pd24 rfl) rfl (by show 2 * 0 + _ ≤ _; exact Nat.le_of_eq rfl) (hb hby at_243) (fun _ _ => ⟨rfl, e16, (by decide : 2 + 3 ≤ _), (by decide : 1024 + 21 ≤ _)⟩)
        dsimp only [Pt.U, Pt.locs, Pt.cells, Pt.slots] at X18' hs218 hg18 l18 y18 z18 st18 hQ18 cr18
        subst l18 y18 z18
        obtain ⟨X18, hS18, hZ18, ho18⟩ := rebS hS16 (by rw [e16]; exact CS16.2.1) X18' hs218 hg18 hZ16 ho16
        obtain ⟨h18, e18⟩ : ∃ h, T18.heap = h := ⟨_, rfl⟩
        rw [e18] at hQ18 hS18 cr18
        obtain ⟨r18, rfl, N18q, K18, Ex18, F18⟩ := hQ18
        have N18 := Fr.app NA17 N18q
        have CB18 : CHr Z own_EL s.vm h0 T18.vm h18 := (CB16.trans CS16).trans cr18
        have CS18 : CHr Z own_EL T18.vm h18 T18.vm h18 := CHr.refl CB18.1
        have Z18 : n0 ≤ h18.size := Nat.le_trans Z16 cr18.2.1
        refine own_wt (T' := T18) (g' := (mkF m 246 #[.val (.int kk), .val (.long xl), .second, .val (.long yl), .second, .val (.int (kk &&& (7 : Int32))), .val (.ref a16), .val (.int (4 : Int32)), .unset, .unset] [(.ref r18)])) st18 ?_
        have Se := own_Str_keep Q16 K18
        have Sf := own_sta0 S2 K18
        have Sg := own_sta0 SF2 K18
        refine own_ww (T' := T18) (g' := (mkF m 248 #[.val (.int kk), .val (.long xl), .second, .val (.long yl), .second, .val (.int (kk &&& (7 : Int32))), .val (.ref a16), .val (.int (4 : Int32)), .val (.ref r18), .unset] [])) (fun _ k_ => XS.astore X18.here hx rfl (hb hby at_246) rfl rfl (l' := #[.val (.int kk), .val (.long xl), .second, .val (.long yl), .second, .val (.int (kk &&& (7 : Int32))), .val (.ref a16), .val (.int (4 : Int32)), .val (.ref r18), .unset]) rfl k_) ?_
        refine own_ww (T' := T18) (g' := (mkF m 250 #[.val (.int kk), .val (.long xl), .second, .val (.long yl), .second, .val (.int (kk &&& (7 : Int32))), .val (.ref a16), .val (.int (4 : Int32)), .val (.ref r18), .unset] [(.ref r18)])) (fun _ k_ => XS.aload X18.here hx rfl (hb hby at_248) rfl rfl k_) ?_
        obtain ⟨cq19, kq19, q19a, q19b, q19c⟩ := isOf hZ18 e18 Ex18
        obtain ⟨_, _, ⟨T19, L19, k19, n19⟩, -, X19, ⟨Lc19, hQ19, l19, y19, z19⟩, st19⟩ := X18.virtualBack hx (y := (⟨"com/example/adjacency/adjacency/identity/NodeName", "toString", "()Ljava/lang/String;"⟩ : MethodName)) (z := (⟨"com/example/adjacency/adjacency/identity/NodeName", "toString", "()Ljava/lang/String;"⟩ : MethodName)) ho18 (mvT hZ18 (hw _ (List.mem_of_getElem? (i := 117) rfl))) (mvT hZ18 (hw _ (List.mem_of_getElem? (i := 118) rfl))) (notFace_of_selects (args := #[]) (mvT hZ18 (hw _ (List.mem_of_getElem? (i := 120) rfl)))) (mvT hZ18 (hw _ (List.mem_of_getElem? (i := 120) rfl))) (mvT hZ18 (hw _ (List.mem_of_getElem? (i := 119) rfl))) (by decide) (backOf (W := 0) (own_rm27 l Z a0 hw [] r18 a16 h18 n0 Z18 F18) hZ18 (hw _ (List.mem_of_getElem? (i := 121) rfl)) (hw _ (List.mem_of_getElem? (i := 40) rfl)) (by decide) (by decide)) q19a q19c (g := (mkF m 250 #[.val (.int kk), .val (.long xl), .second, .val (.long yl), .second, .val (.int (kk &&& (7 : Int32))), .val (.ref a16), .val (.int (4 : Int32)), .val (.ref r18), .unset] [(.ref r18)])) rfl (by rw [hml]; rfl) (Steps.refl _) (argsL := []) (rest := []) (lenOf own_pd25 rfl) rfl (by show 2 * 0 + _ ≤ _; exact Nat.le_of_eq rfl) (hb hby at_250) (fun _ _ => ⟨rfl, e18, (by decide : 5 + 0 ≤ _), (by decide : 1045 + 0 ≤ _)⟩)
        dsimp only [Pt.U, Pt.locs, Pt.cells, Pt.slots] at X19 l19 y19 z19 st19 hQ19
        subst l19 y19 z19
        obtain ⟨rfl, N19q, e19⟩ := hQ19
        have N19 := Fr.app N18 N19q
        refine own_wt (T' := T19) (g' := (mkF m 253 #[.val (.int kk), .val (.long xl), .second, .val (.long yl), .second, .val (.int (kk &&& (7 : Int32))), .val (.ref a16), .val (.int (4 : Int32)), .val (.ref r18), .unset] [(.ref a16)])) st19 ?_
        refine own_ww (T' := T19) (g' := (mkF m 255 #[.val (.int kk), .val (.long xl), .second, .val (.long yl), .second, .val (.int (kk &&& (7 : Int32))), .val (.ref a16), .val (.int (4 : Int32)), .val (.ref r18), .unset] [(.ref a16), (.ref a16)])) (fun _ k_ => XS.aload X19.here hx rfl (hb hby at_253) rfl rfl k_) ?_
        obtain ⟨cq20, kq20, q20a, q20b, q20c⟩ := isOf hZ18 e19 Se.1
        obtain ⟨_, _, ⟨T20, L20, k20, n20⟩, -, X20, ⟨Lc20, hQ20, l20, y20, z20⟩, st20⟩ := X19.virtualBack hx (y := (⟨"java/lang/String", "equals", "(Ljava/lang/Object;)Z"⟩ : MethodName)) (z := (⟨"java/lang/String", "equals", "(Ljava/lang/Object;)Z"⟩ : MethodName)) ho18 (mvT hZ18 (hw _ (List.mem_of_getElem? (i := 122) rfl))) (mvT hZ18 (hw _ (List.mem_of_getElem? (i := 123) rfl))) (notFace_of_selects (args := #[]) (mvT hZ18 (hw _ (List.mem_of_getElem? (i := 125) rfl)))) (mvT hZ18 (hw _ (List.mem_of_getElem? (i := 125) rfl))) (mvT hZ18 (hw _ (List.mem_of_getElem? (i := 124) rfl))) (by decide) (backOf (W := 0) (own_rm28 l Z a0 hw [] a16 a16  h18 n0 Z18 rfl) hZ18 (hw _ (List.mem_of_getElem? (i := 126) rfl)) (hw _ (List.mem_of_getElem? (i := 11) rfl)) (by decide) (by decide)) q20a q20c (g := (mkF m 255 #[.val (.int kk), .val (.long xl), .second, .val (.long yl), .second, .val (.int (kk &&& (7 : Int32))), .val (.ref a16), .val (.int (4 : Int32)), .val (.ref r18), .unset] [(.ref a16), (.ref a16)])) rfl (by rw [hml]; rfl) (Steps.refl _) (argsL := [(.ref a16)]) (rest := []) (lenOf own_pd26 rfl) rfl (by show 2 * 0 + _ ≤ _; exact Nat.le_of_eq rfl) (hb hby at_255) (fun _ _ => ⟨rfl, e19, (by decide : 5 + 0 ≤ _), (by decide : 1045 + 0 ≤ _)⟩)
        dsimp only [Pt.U, Pt.locs, Pt.cells, Pt.slots] at X20 l20 y20 z20 st20 hQ20
        subst l20 y20 z20
        obtain ⟨rfl, N20q, e20⟩ := hQ20
        have N20 := Fr.app N19 N20q
        refine own_wt (T' := T20) (g' := (mkF m 258 #[.val (.int kk), .val (.long xl), .second, .val (.long yl), .second, .val (.int (kk &&& (7 : Int32))), .val (.ref a16), .val (.int (4 : Int32)), .val (.ref r18), .unset] [(.int (1 : Int32))])) st20 ?_
        refine own_ww (T' := T20) (g' := (mkF m 261 #[.val (.int kk), .val (.long xl), .second, .val (.long yl), .second, .val (.int (kk &&& (7 : Int32))), .val (.ref a16), .val (.int (4 : Int32)), .val (.ref r18), .unset] [])) (fun _ k_ => XS.ifNo X20.here hx rfl (hb hby at_258) rfl ((if0 _ _).trans (feq (by decide)).1) k_) ?_
        refine own_ww (T' := T20) (g' := (mkF m 263 #[.val (.int kk), .val (.long xl), .second, .val (.long yl), .second, .val (.int (kk &&& (7 : Int32))), .val (.ref a16), .val (.int (4 : Int32)), .val (.ref r18), .unset] [(.ref r18)])) (fun _ k_ => XS.aload X20.here hx rfl (hb hby at_261) rfl rfl k_) ?_
        obtain ⟨cq21, kq21, q21a, q21b, q21c⟩ := isOf hZ18 e20 Ex18
        obtain ⟨_, _, ⟨T21, L21, k21, n21⟩, -, X21, ⟨Lc21, hQ21, l21, y21, z21⟩, st21⟩ := X20.virtualBack hx (y := (⟨"com/example/adjacency/adjacency/identity/NodeName", "labelCount", "()I"⟩ : MethodName)) (z := (⟨"com/example/adjacency/adjacency/identity/NodeName", "labelCount", "()I"⟩ : MethodName)) ho18 (mvT hZ18 (hw _ (List.mem_of_getElem? (i := 127) rfl))) (mvT hZ18 (hw _ (List.mem_of_getElem? (i := 128) rfl))) (notFace_of_selects (args := #[]) (mvT hZ18 (hw _ (List.mem_of_getElem? (i := 130) rfl)))) (mvT hZ18 (hw _ (List.mem_of_getElem? (i := 130) rfl))) (mvT hZ18 (hw _ (List.mem_of_getElem? (i := 129) rfl))) (by decide) (backOf (W := 0) (own_rm29 l Z a0 hw [] r18 a16 own_t23 cs sf h18 n0 Z18 F18 Se (by rw [lt']; decide) hcs Sf hsf Sg PL.1) hZ18 (hw _ (List.mem_of_getElem? (i := 131) rfl)) (hw _ (List.mem_of_getElem? (i := 40) rfl)) (by decide) (by decide)) q21a q21c (g := (mkF m 263 #[.val (.int kk), .val (.long xl), .second, .val (.long yl), .second, .val (.int (kk &&& (7 : Int32))), .val (.ref a16), .val (.int (4 : Int32)), .val (.ref r18), .unset] [(.ref r18)])) rfl (by rw [hml]; rfl) (Steps.refl _) (argsL := []) (rest := []) (lenOf own_pd8 rfl) rfl (by show 2 * 0 + _ ≤ _; exact Nat.le_of_eq rfl) (hb hby at_263) (fun _ _ => ⟨rfl, e20, (by decide : 5 + 0 ≤ _), (by decide : 1045 + 0 ≤ _)⟩)
        dsimp only [Pt.U, Pt.locs, Pt.cells, Pt.slots] at X21 l21 y21 z21 st21 hQ21
        subst l21 y21 z21
        obtain ⟨rfl, N21q, e21⟩ := hQ21
        have N21 := Fr.app N20 N21q
        refine own_wt (T' := T21) (g' := (mkF m 266 #[.val (.int kk), .val (.long xl), .second, .val (.long yl), .second, .val (.int (kk &&& (7 : Int32))), .val (.ref a16), .val (.int (4 : Int32)), .val (.ref r18), .unset] [(.int (own_cl own_t23))])) st21 ?_
        refine own_ww (T' := T21) (g' := (mkF m 268 #[.val (.int kk), .val (.long xl), .second, .val (.long yl), .second, .val (.int (kk &&& (7 : Int32))), .val (.ref a16), .val (.int (4 : Int32)), .val (.ref r18), .unset] [(.int (4 : Int32)), (.int (own_cl own_t23))])) (fun _ k_ => XS.iload X21.here hx rfl (hb hby at_266) rfl k_) ?_
        refine own_ww (T' := T21) (g' := (mkF m 271 #[.val (.int kk), .val (.long xl), .second, .val (.long yl), .second, .val (.int (kk &&& (7 : Int32))), .val (.ref a16), .val (.int (4 : Int32)), .val (.ref r18), .unset] [])) (fun _ k_ => XS.icmpNo X21.here hx rfl (hb hby at_268) rfl (teq PL.2.2.1).2 k_) ?_
        refine own_ww (T' := T21) (g' := (mkF m 273 #[.val (.int kk), .val (.long xl), .second, .val (.long yl), .second, .val (.int (kk &&& (7 : Int32))), .val (.ref a16), .val (.int (4 : Int32)), .val (.ref r18), .unset] [(.ref r18)])) (fun _ k_ => XS.aload X21.here hx rfl (hb hby at_271) rfl rfl k_) ?_
        obtain ⟨cq22, kq22, q22a, q22b, q22c⟩ := isOf hZ18 e21 Ex18
        obtain ⟨_, _, ⟨T22, L22, k22, n22⟩, -, X22, ⟨Lc22, hQ22, l22, y22, z22⟩, st22⟩ := X21.virtualBack hx (y := (⟨"com/example/adjacency/adjacency/identity/NodeName", "isRoot", "()Z"⟩ : MethodName)) (z := (⟨"com/example/adjacency/adjacency/identity/NodeName", "isRoot", "()Z"⟩ : MethodName)) ho18 (mvT hZ18 (hw _ (List.mem_of_getElem? (i := 132) rfl))) (mvT hZ18 (hw _ (List.mem_of_getElem? (i := 133) rfl))) (notFace_of_selects (args := #[]) (mvT hZ18 (hw _ (List.mem_of_getElem? (i := 135) rfl)))) (mvT hZ18 (hw _ (List.mem_of_getElem? (i := 135) rfl))) (mvT hZ18 (hw _ (List.mem_of_getElem? (i := 134) rfl))) (by decide) (backOf (W := 0) (own_rm30 l Z a0 hw [] r18 a16 own_t23 cs h18 n0 Z18 F18 Se (by rw [lt']; decide) hcs Sf) hZ18 (hw _ (List.mem_of_getElem? (i := 136) rfl)) (hw _ (List.mem_of_getElem? (i := 40) rfl)) (by decide) (by decide)) q22a q22c (g := (mkF m 273 #[.val (.int kk), .val (.long xl), .second, .val (.long yl), .second, .val (.int (kk &&& (7 : Int32))), .val (.ref a16), .val (.int (4 : Int32)), .val (.ref r18), .unset] [(.ref r18)])) rfl (by rw [hml]; rfl) (Steps.refl _) (argsL := []) (rest := []) (lenOf own_pd3 rfl) rfl (by show 2 * 0 + _ ≤ _; exact Nat.le_of_eq rfl) (hb hby at_273) (fun _ _ => ⟨rfl, e21, (by decide : 5 + 0 ≤ _), (by decide : 1045 + 0 ≤ _)⟩)
        dsimp only [Pt.U, Pt.locs, Pt.cells, Pt.slots] at X22 l22 y22 z22 st22 hQ22
        subst l22 y22 z22
        obtain ⟨rfl, N22q, e22⟩ := hQ22
        have N22 := Fr.app N21 N22q
        refine own_wt (T' := T22) (g' := (mkF m 276 #[.val (.int kk), .val (.long xl), .second, .val (.long yl), .second, .val (.int (kk &&& (7 : Int32))), .val (.ref a16), .val (.int (4 : Int32)), .val (.ref r18), .unset] [(.int (if (own_io own_t23 0 < (0 : Int32)) then (1 : Int32) else 0))])) st22 ?_
        refine own_ww (T' := T22) (g' := (mkF m 278 #[.val (.int kk), .val (.long xl), .second, .val (.long yl), .second, .val (.int (kk &&& (7 : Int32))), .val (.ref a16), .val (.int (4 : Int32)), .val (.ref r18), .unset] [(.int (4 : Int32)), (.int (if (own_io own_t23 0 < (0 : Int32)) then (1 : Int32) else 0))])) (fun _ k_ => XS.iload X22.here hx rfl (hb hby at_276) rfl k_) ?_
        refine own_ww (T' := T22) (g' := (mkF m 279 #[.val (.int kk), .val (.long xl), .second, .val (.long yl), .second, .val (.int (kk &&& (7 : Int32))), .val (.ref a16), .val (.int (4 : Int32)), .val (.ref r18), .unset] [(.int (1 : Int32)), (.int (4 : Int32)), (.int (if (own_io own_t23 0 < (0 : Int32)) then (1 : Int32) else 0))])) (fun _ k_ => XS.iconst X22.here hx rfl (hb hby at_278) k_) ?_
        refine own_ww (T' := T22) (g' := (mkF m 286 #[.val (.int kk), .val (.long xl), .second, .val (.long yl), .second, .val (.int (kk &&& (7 : Int32))), .val (.ref a16), .val (.int (4 : Int32)), .val (.ref r18), .unset] [(.int (if (own_io own_t23 0 < (0 : Int32)) then (1 : Int32) else 0))])) (fun _ k_ => XS.icmpYes X22.here hx rfl (pc0 := 279) (pc' := 286) rfl (hb hby at_279) rfl (feq (by decide)).2 (by decide) (by decide) k_) ?_
        refine own_ww (T' := T22) (g' := (mkF m 287 #[.val (.int kk), .val (.long xl), .second, .val (.long yl), .second, .val (.int (kk &&& (7 : Int32))), .val (.ref a16), .val (.int (4 : Int32)), .val (.ref r18), .unset] [(.int (0 : Int32)), (.int (if (own_io own_t23 0 < (0 : Int32)) then (1 : Int32) else 0))])) (fun _ k_ => XS.iconst X22.here hx rfl (hb hby at_286) k_) ?_
        refine own_ww (T' := T22) (g' := (mkF m 290 #[.val (.int kk), .val (.long xl), .second, .val (.long yl), .second, .val (.int (kk &&& (7 : Int32))), .val (.ref a16), .val (.int (4 : Int32)), .val (.ref r18), .unset] [])) (fun _ k_ => XS.icmpNo X22.here hx rfl (hb hby at_287) rfl (teq (if_neg hro)).2 k_) ?_
        refine own_ww (T' := T22) (g' := (mkF m 291 #[.val (.int kk), .val (.long xl), .second, .val (.long yl), .second, .val (.int (kk &&& (7 : Int32))), .val (.ref a16), .val (.int (4 : Int32)), .val (.ref r18), .unset] [(.int (1 : Int32))])) (fun _ k_ => XS.iconst X22.here hx rfl (hb hby at_290) k_) ?_
        refine own_ww (T' := T22) (g' := (mkF m 295 #[.val (.int kk), .val (.long xl), .second, .val (.long yl), .second, .val (.int (kk &&& (7 : Int32))), .val (.ref a16), .val (.int (4 : Int32)), .val (.ref r18), .unset] [(.int (1 : Int32))])) (fun _ k_ => XS.goto X22.here hx rfl (pc0 := 291) (pc' := 295) rfl (hb hby at_291) (by decide) (by decide) k_) ?_
        obtain ⟨fs, hr, hrun, hended, hRE⟩ := X22.leaveW (own_since hS18 CS18.2.1) (by rw [e22]; exact Nat.le_refl _) (v := some (.int (1 : Int32))) (fun h => by rw [Bd.returns] at h; cases h)
        exact ⟨_, _, retOut X22 hx Bd.returns rfl (Or.inl ⟨rfl, Or.inr (Or.inl rfl), _, rfl⟩) (hb hby at_295) hr, hrun, hended, _, _, rfl, (by show own_Q0 Z kk xl yl cs sf h0 n0 _ T22.heap _; rw [e22]; exact ⟨rfl, N22⟩), (by show CHr Z own_EL s.vm s.heap T22.vm T22.heap; rw [e22, hh]; exact (CB18.trans CS18).trans (CHv.at X22 hZ18 (own_EW hw) CS18.1)), own_rmono hRE (by decide) (by decide)⟩
      · refine own_ww (T' := s₁) (g' := (mkF m 61 #[.val (.int kk), .val (.long xl), .second, .val (.long yl), .second, .val (.int (kk &&& (7 : Int32))), .unset, .unset, .unset, .unset] [])) (fun _ k_ => XS.icmpYes X0.here hx rfl (pc0 := 48) (pc' := 61) rfl (hb hby at_48) rfl (feq hc48).2 (by decide) (by decide) k_) ?_
        refine own_ww (T' := s₁) (g' := (mkF m 63 #[.val (.int kk), .val (.long xl), .second, .val (.long yl), .second, .val (.int (kk &&& (7 : Int32))), .unset, .unset, .unset, .unset] [(.int (kk &&& (7 : Int32)))])) (fun _ k_ => XS.iload X0.here hx rfl (hb hby at_61) rfl k_) ?_
        by_cases hc63 : (kk &&& (7 : Int32)) = (0 : Int32)
        · refine own_ww (T' := s₁) (g' := (mkF m 66 #[.val (.int kk), .val (.long xl), .second, .val (.long yl), .second, .val (.int (kk &&& (7 : Int32))), .unset, .unset, .unset, .unset] [])) (fun _ k_ => XS.ifNo X0.here hx rfl (hb hby at_63) rfl ((if0 _ _).trans (teq hc63).2) k_) ?_
          refine own_ww (T' := s₁) (g' := (mkF m 67 #[.val (.int kk), .val (.long xl), .second, .val (.long yl), .second, .val (.int (kk &&& (7 : Int32))), .unset, .unset, .unset, .unset] [(.int (0 : Int32))])) (fun _ k_ => XS.iconst X0.here hx rfl (hb hby at_66) k_) ?_
          refine own_ww (T' := s₁) (g' := (mkF m 69 #[.val (.int kk), .val (.long xl), .second, .val (.long yl), .second, .val (.int (kk &&& (7 : Int32))), .unset, .unset, .val (.int (0 : Int32)), .unset] [])) (fun _ k_ => XS.istore X0.here hx rfl (hb hby at_67) rfl (l' := #[.val (.int kk), .val (.long xl), .second, .val (.long yl), .second, .val (.int (kk &&& (7 : Int32))), .unset, .unset, .val (.int (0 : Int32)), .unset]) rfl k_) ?_
          refine own_ww (T' := s₁) (g' := (mkF m 70 #[.val (.int kk), .val (.long xl), .second, .val (.long yl), .second, .val (.int (kk &&& (7 : Int32))), .unset, .unset, .val (.int (0 : Int32)), .unset] [(.int (1 : Int32))])) (fun _ k_ => XS.iconst X0.here hx rfl (hb hby at_69) k_) ?_
          refine own_ww (T' := s₁) (g' := (mkF m 72 #[.val (.int kk), .val (.long xl), .second, .val (.long yl), .second, .val (.int (kk &&& (7 : Int32))), .unset, .val (.int (1 : Int32)), .val (.int (0 : Int32)), .unset] [])) (fun _ k_ => XS.istore X0.here hx rfl (hb hby at_70) rfl (l' := #[.val (.int kk), .val (.long xl), .second, .val (.long yl), .second, .val (.int (kk &&& (7 : Int32))), .unset, .val (.int (1 : Int32)), .val (.int (0 : Int32)), .unset]) rfl k_) ?_
          refine own_ww (T' := s₁) (g' := (mkF m 130 #[.val (.int kk), .val (.long xl), .second, .val (.long yl), .second, .val (.int (kk &&& (7 : Int32))), .unset, .val (.int (1 : Int32)), .val (.int (0 : Int32)), .unset] [])) (fun _ k_ => XS.goto X0.here hx rfl (pc0 := 72) (pc' := 130) rfl (hb hby at_72) (by decide) (by decide) k_) ?_
          refine own_ww (T' := s₁) (g' := (mkF m 132 #[.val (.int kk), .val (.long xl), .second, .val (.long yl), .second, .val (.int (kk &&& (7 : Int32))), .unset, .val (.int (1 : Int32)), .val (.int (0 : Int32)), .unset] [(.int (7 : Int32))])) (fun _ k_ => XS.bipush X0.here hx rfl (hb hby at_130) k_) ?_
          obtain ⟨T23, h23, k23, X23, e23, E23, A23, st23⟩ := newP X0 hx hZ (hw _ (List.mem_of_getElem? (i := 0) rfl)) e0 (g := (mkF m 132 #[.val (.int kk), .val (.long xl), .second, .val (.long yl), .second, .val (.int (kk &&& (7 : Int32))), .unset, .val (.int (1 : Int32)), .val (.int (0 : Int32)), .unset] [(.int (7 : Int32))])) rfl (hb hby at_132) rfl (by decide) (cap := 7) (by decide) (by decide) (by decide) (by decide)
          obtain ⟨b23, gq23⟩ : ∃ z, z = h0.size := ⟨_, rfl⟩
          rw [← gq23] at A23 st23
          have V_b23 := own_Ar_new A23 rfl (k := 7) rfl
          have g_b23 : n0 ≤ b23 := Nat.le_trans Z0 (Nat.le_of_eq gq23.symm)
          have Z23 : n0 ≤ h23.size := Nat.le_trans Z0 E23.1
          have CS23 : CHr Z own_EL s.vm h0 s.vm h23 := CB0.trans (CHr.ext E23 CB0.1)
          have sf23_b23 : Safe Z own_EL s.vm h23 b23 := Safe.ext E23 CB0.1 (Safe.new (Nat.le_of_eq gq23.symm))
          refine own_ww (T' := T23) (g' := (mkF m 134 #[.val (.int kk), .val (.long xl), .second, .val (.long yl), .second, .val (.int (kk &&& (7 : Int32))), .unset, .val (.int (1 : Int32)), .val (.int (0 : Int32)), .unset] [(.ref b23)])) st23 ?_
          have KK : Keep h0 h23 [] := (Keep.refl h0 []).ext E23
          refine own_ww (T' := T23) (g' := (mkF m 136 #[.val (.int kk), .val (.long xl), .second, .val (.long yl), .second, .val (.int (kk &&& (7 : Int32))), .unset, .val (.int (1 : Int32)), .val (.int (0 : Int32)), .val (.ref b23)] [])) (fun _ k_ => XS.astore X23.here hx rfl (hb hby at_134) rfl rfl (l' := #[.val (.int kk), .val (.long xl), .second, .val (.long yl), .second, .val (.int (kk &&& (7 : Int32))), .unset, .val (.int (1 : Int32)), .val (.int (0 : Int32)), .val (.ref b23)]) rfl k_) ?_
          refine own_ww (T' := T23) (g' := (mkF m 138 #[.val (.int kk), .val (.long xl), .second, .val (.long yl), .second, .val (.int (kk &&& (7 : Int32))), .unset, .val (.int (1 : Int32)), .val (.int (0 : Int32)), .val (.ref b23)] [(.ref b23)])) (fun _ k_ => XS.aload X23.here hx rfl (hb hby at_136) rfl rfl k_) ?_
          refine own_ww (T' := T23) (g' := (mkF m 139 #[.val (.int kk), .val (.long xl), .second, .val (.long yl), .second, .val (.int (kk &&& (7 : Int32))), .unset, .val (.int (1 : Int32)), .val (.int (0 : Int32)), .val (.ref b23)] [(.int (0 : Int32)), (.ref b23)])) (fun _ k_ => XS.iconst X23.here hx rfl (hb hby at_138) k_) ?_
          refine own_ww (T' := T23) (g' := (mkF m 141 #[.val (.int kk), .val (.long xl), .second, .val (.long yl), .second, .val (.int (kk &&& (7 : Int32))), .unset, .val (.int (1 : Int32)), .val (.int (0 : Int32)), .val (.ref b23)] [(.int (0 : Int32)), (.int (0 : Int32)), (.ref b23)])) (fun _ k_ => XS.iload X23.here hx rfl (hb hby at_139) rfl k_) ?_
          refine own_ww (T' := T23) (g' := (mkF m 142 #[.val (.int kk), .val (.long xl), .second, .val (.long yl), .second, .val (.int (kk &&& (7 : Int32))), .unset, .val (.int (1 : Int32)), .val (.int (0 : Int32)), .val (.ref b23)] [(.int (0 : Int32)), (.int (0 : Int32)), (.int (0 : Int32)), (.ref b23)])) (fun _ k_ => XS.iconst X23.here hx rfl (hb hby at_141) k_) ?_
          refine own_ww (T' := T23) (g' := (mkF m 143 #[.val (.int kk), .val (.long xl), .second, .val (.long yl), .second, .val (.int (kk &&& (7 : Int32))), .unset, .val (.int (1 : Int32)), .val (.int (0 : Int32)), .val (.ref b23)] [(.long xl), (.int (0 : Int32)), (.int (0 : Int32)), (.int (0 : Int32)), (.ref b23)])) (fun _ k_ => XS.lloadN X23.here hx rfl (hb hby at_142) rfl k_) ?_
          obtain ⟨_, _, ⟨T24, L24, k24, n24⟩, -, X24, ⟨Lc24, hQ24, l24, y24, z24⟩, st24⟩ := Jvm.LawKit.callS X23 hx (y := (⟨"com/example/adjacency/adjacency/identity/NodeNameParsePinLaw", "pos", "(IIJ)C"⟩ : MethodName)) hown (mvT hZ (hw _ (List.mem_of_getElem? (i := 1) rfl))) (mvT hZ (hw _ (List.mem_of_getElem? (i := 2) rfl))) (mvT hZ (hw _ (List.mem_of_getElem? (i := 3) rfl))) (mvT hZ (hw _ (List.mem_of_getElem? (i := 4) rfl))) (by decide) (backOf (W := 2) (own_rm1_c l Z a0 hw [] (0 : Int32) (0 : Int32) xl  h23 n0 Z23 (by decide)) hZ (hw _ (List.mem_of_getElem? (i := 4) rfl)) (hw _ (List.mem_of_getElem? (i := 3) rfl)) (by decide) (by decide)) (g := (mkF m 143 #[.val (.int kk), .val (.long xl), .second, .val (.long yl), .second, .val (.int (kk &&& (7 : Int32))), .unset, .val (.int (1 : Int32)), .val (.int (0 : Int32)), .val (.ref b23)] [(.long xl), (.int (0 : Int32)), (.int (0 : Int32)), (.int (0 : Int32)), (.ref b23)])) rfl (by rw [hml]; rfl) (argsL := [(.int (0 : Int32)), (.int (0 : Int32)), (.long xl)]) (rest := [(.int (0 : Int32)), (.ref b23)]) (lenOf own_pd27 rfl) rfl (by show 2 * 0 + _ ≤ _; exact Nat.le_of_eq rfl) (hb hby at_143) (fun _ _ => ⟨rfl, e23, (by decide : 1 + 0 ≤ _), (by decide : 7 + 0 ≤ _)⟩)
          dsimp only [Pt.U, Pt.locs, Pt.cells, Pt.slots] at X24 l24 y24 z24 st24 hQ24
          subst l24 y24 z24
          obtain ⟨r24, rfl, N24q, e24, ok24, nh24⟩ := hQ24
          have N24 := Fr.app N0 N24q
          refine own_ww (T' := T24) (g' := (mkF m 146 #[.val (.int kk), .val (.long xl), .second, .val (.long yl), .second, .val (.int (kk &&& (7 : Int32))), .unset, .val (.int (1 : Int32)), .val (.int (0 : Int32)), .val (.ref b23)] [(.int r24), (.int (0 : Int32)), (.ref b23)])) st24 ?_
          obtain ⟨cl25, Ar25, hs25⟩ := id V_b23
          obtain ⟨T25, h25, X25, e25, W25, st25⟩ := stC X24 hx hZ e24 Ar25 (j := (0 : Int32)) (own_Ar_in (i := 0) hs25 (by decide) (by simp)) (g := (mkF m 146 #[.val (.int kk), .val (.long xl), .second, .val (.long yl), .second, .val (.int (kk &&& (7 : Int32))), .unset, .val (.int (1 : Int32)), .val (.int (0 : Int32)), .val (.ref b23)] [(.int r24), (.int (0 : Int32)), (.ref b23)])) rfl rfl (hb hby at_146)
          have V25 := own_Ar_set (i := 0) (v := r24) V_b23 W25 (by decide) (own_i2c_small (own_ok128 ok24).1 (Int.lt_trans (own_ok128 ok24).2 (by decide)))
          have N25 := Fr.snoc X25 N24 g_b23
          have Z25 : n0 ≤ h25.size := Nat.le_trans Z23 (Keep.of_wr W25).1
          have CS25 : CHr Z own_EL s.vm h0 s.vm h25 := CS23.trans (CHr.wr W25 sf23_b23 CS23.1)
          have sf25_b23 := Safe.wr W25 sf23_b23 CS23.1 sf23_b23
          refine own_ww (T' := T25) (g' := (mkF m 147 #[.val (.int kk), .val (.long xl), .second, .val (.long yl), .second, .val (.int (kk &&& (7 : Int32))), .unset, .val (.int (1 : Int32)), .val (.int (0 : Int32)), .val (.ref b23)] [])) st25 ?_
          have K25 := KK.wr W25 (Or.inr (Nat.le_of_eq gq23.symm))
          refine own_ww (T' := T25) (g' := (mkF m 149 #[.val (.int kk), .val (.long xl), .second, .val (.long yl), .second, .val (.int (kk &&& (7 : Int32))), .unset, .val (.int (1 : Int32)), .val (.int (0 : Int32)), .val (.ref b23)] [(.ref b23)])) (fun _ k_ => XS.aload X25.here hx rfl (hb hby at_147) rfl rfl k_) ?_
          refine own_ww (T' := T25) (g' := (mkF m 150 #[.val (.int kk), .val (.long xl), .second, .val (.long yl), .second, .val (.int (kk &&& (7 : Int32))), .unset, .val (.int (1 : Int32)), .val (.int (0 : Int32)), .val (.ref b23)] [(.int (1 : Int32)), (.ref b23)])) (fun _ k_ => XS.iconst X25.here hx rfl (hb hby at_149) k_) ?_
          refine own_ww (T' := T25) (g' := (mkF m 152 #[.val (.int kk), .val (.long xl), .second, .val (.long yl), .second, .val (.int (kk &&& (7 : Int32))), .unset, .val (.int (1 : Int32)), .val (.int (0 : Int32)), .val (.ref b23)] [(.int (0 : Int32)), (.int (1 : Int32)), (.ref b23)])) (fun _ k_ => XS.iload X25.here hx rfl (hb hby at_150) rfl k_) ?_
          refine own_ww (T' := T25) (g' := (mkF m 153 #[.val (.int kk), .val (.long xl), .second, .val (.long yl), .second, .val (.int (kk &&& (7 : Int32))), .unset, .val (.int (1 : Int32)), .val (.int (0 : Int32)), .val (.ref b23)] [(.int (1 : Int32)), (.int (0 : Int32)), (.int (1 : Int32)), (.ref b23)])) (fun _ k_ => XS.iconst X25.here hx rfl (hb hby at_152) k_) ?_
          refine own_ww (T' := T25) (g' := (mkF m 154 #[.val (.int kk), .val (.long xl), .second, .val (.long yl), .second, .val (.int (kk &&& (7 : Int32))), .unset, .val (.int (1 : Int32)), .val (.int (0 : Int32)), .val (.ref b23)] [(.long xl), (.int (1 : Int32)), (.int (0 : Int32)), (.int (1 : Int32)), (.ref b23)])) (fun _ k_ => XS.lloadN X25.here hx rfl (hb hby at_153) rfl k_) ?_
          refine own_ww (T' := T25) (g' := (mkF m 156 #[.val (.int kk), .val (.long xl), .second, .val (.long yl), .second, .val (.int (kk &&& (7 : Int32))), .unset, .val (.int (1 : Int32)), .val (.int (0 : Int32)), .val (.ref b23)] [(.int (21 : Int32)), (.long xl), (.int (1 : Int32)), (.int (0 : Int32)), (.int (1 : Int32)), (.ref b23)])) (fun _ k_ => XS.bipush X25.here hx rfl (hb hby at_154) k_) ?_
          refine own_ww (T' := T25) (g' := (mkF m 157 #[.val (.int kk), .val (.long xl), .second, .val (.long yl), .second, .val (.int (kk &&& (7 : Int32))), .unset, .val (.int (1 : Int32)), .val (.int (0 : Int32)), .val (.ref b23)] [(.long ((xl.toUInt64 >>> ((21 : Int32) &&& 0x3f).toInt64.toUInt64).toInt64)), (.int (1 : Int32)), (.int (0 : Int32)), (.int (1 : Int32)), (.ref b23)])) (fun _ k_ => XS.lushr X25.here hx rfl (hb hby at_156) rfl k_) ?_
          obtain ⟨_, _, ⟨T26, L26, k26, n26⟩, -, X26, ⟨Lc26, hQ26, l26, y26, z26⟩, st26⟩ := Jvm.LawKit.callS X25 hx (y := (⟨"com/example/adjacency/adjacency/identity/NodeNameParsePinLaw", "pos", "(IIJ)C"⟩ : MethodName)) hown (mvT hZ (hw _ (List.mem_of_getElem? (i := 1) rfl))) (mvT hZ (hw _ (List.mem_of_getElem? (i := 2) rfl))) (mvT hZ (hw _ (List.mem_of_getElem? (i := 3) rfl))) (mvT hZ (hw _ (List.mem_of_getElem? (i := 4) rfl))) (by decide) (backOf (W := 2) (own_rm1_c l Z a0 hw [] (0 : Int32) (1 : Int32) ((xl.toUInt64 >>> ((21 : Int32) &&& 0x3f).toInt64.toUInt64).toInt64)  h25 n0 Z25 (by decide)) hZ (hw _ (List.mem_of_getElem? (i := 4) rfl)) (hw _ (List.mem_of_getElem? (i := 3) rfl)) (by decide) (by decide)) (g := (mkF m 157 #[.val (.int kk), .val (.long xl), .second, .val (.long yl), .second, .val (.int (kk &&& (7 : Int32))), .unset, .val (.int (1 : Int32)), .val (.int (0 : Int32)), .val (.ref b23)] [(.long ((xl.toUInt64 >>> ((21 : Int32) &&& 0x3f).toInt64.toUInt64).toInt64)), (.int (1 : Int32)), (.int (0 : Int32)), (.int (1 : Int32)), (.ref b23)])) rfl (by rw [hml]; rfl) (argsL := [(.int (0 : Int32)), (.int (1 : Int32)), (.long ((xl.toUInt64 >>> ((21 : Int32) &&& 0x3f).toInt64.toUInt64).toInt64))]) (rest := [(.int (1 : Int32)), (.ref b23)]) (lenOf own_pd27 rfl) rfl (by show 2 * 0 + _ ≤ _; exact Nat.le_of_eq rfl) (hb hby at_157) (fun _ _ => ⟨rfl, e25, (by decide : 1 + 0 ≤ _), (by decide : 7 + 0 ≤ _)⟩)
          dsimp only [Pt.U, Pt.locs, Pt.cells, Pt.slots] at X26 l26 y26 z26 st26 hQ26
          subst l26 y26 z26
          obtain ⟨r26, rfl, N26q, e26, ok26, nh26⟩ := hQ26
          have N26 := Fr.app N25 N26q
          refine own_ww (T' := T26) (g' := (mkF m 160 #[.val (.int kk), .val (.long xl), .second, .val (.long yl), .second, .val (.int (kk &&& (7 : Int32))), .unset, .val (.int (1 : Int32)), .val (.int (0 : Int32)), .val (.ref b23)] [(.int r26), (.int (1 : Int32)), (.ref b23)])) st26 ?_
          obtain ⟨cl27, Ar27, hs27⟩ := id V25
          obtain ⟨T27, h27, X27, e27, W27, st27⟩ := stC X26 hx hZ e26 Ar27 (j := (1 : Int32)) (own_Ar_in (i := 1) hs27 (by decide) (by simp)) (g := (mkF m 160 #[.val (.int kk), .val (.long xl), .second, .val (.long yl), .second, .val (.int (kk &&& (7 : Int32))), .unset, .val (.int (1 : Int32)), .val (.int (0 : Int32)), .val (.ref b23)] [(.int r26), (.int (1 : Int32)), (.ref b23)])) rfl rfl (hb hby at_160)
          have V27 := own_Ar_set (i := 1) (v := r26) V25 W27 (by decide) (own_i2c_small (own_ok128 ok26).1 (Int.lt_trans (own_ok128 ok26).2 (by decide)))
          have N27 := Fr.snoc X27 N26 g_b23
          have Z27 : n0 ≤ h27.size := Nat.le_trans Z25 (Keep.of_wr W27).1
          have CS27 : CHr Z own_EL s.vm h0 s.vm h27 := CS25.trans (CHr.wr W27 sf25_b23 CS25.1)
          have sf27_b23 := Safe.wr W27 sf25_b23 CS25.1 sf25_b23
          refine own_ww (T' := T27) (g' := (mkF m 161 #[.val (.int kk), .val (.long xl), .second, .val (.long yl), .second, .val (.int (kk &&& (7 : Int32))), .unset, .val (.int (1 : Int32)), .val (.int (0 : Int32)), .val (.ref b23)] [])) st27 ?_
          have K27 := K25.wr W27 (Or.inr (Nat.le_of_eq gq23.symm))
          refine own_ww (T' := T27) (g' := (mkF m 163 #[.val (.int kk), .val (.long xl), .second, .val (.long yl), .second, .val (.int (kk &&& (7 : Int32))), .unset, .val (.int (1 : Int32)), .val (.int (0 : Int32)), .val (.ref b23)] [(.ref b23)])) (fun _ k_ => XS.aload X27.here hx rfl (hb hby at_161) rfl rfl k_) ?_
          refine own_ww (T' := T27) (g' := (mkF m 164 #[.val (.int kk), .val (.long xl), .second, .val (.long yl), .second, .val (.int (kk &&& (7 : Int32))), .unset, .val (.int (1 : Int32)), .val (.int (0 : Int32)), .val (.ref b23)] [(.int (2 : Int32)), (.ref b23)])) (fun _ k_ => XS.iconst X27.here hx rfl (hb hby at_163) k_) ?_
          refine own_ww (T' := T27) (g' := (mkF m 166 #[.val (.int kk), .val (.long xl), .second, .val (.long yl), .second, .val (.int (kk &&& (7 : Int32))), .unset, .val (.int (1 : Int32)), .val (.int (0 : Int32)), .val (.ref b23)] [(.int (0 : Int32)), (.int (2 : Int32)), (.ref b23)])) (fun _ k_ => XS.iload X27.here hx rfl (hb hby at_164) rfl k_) ?_
          refine own_ww (T' := T27) (g' := (mkF m 167 #[.val (.int kk), .val (.long xl), .second, .val (.long yl), .second, .val (.int (kk &&& (7 : Int32))), .unset, .val (.int (1 : Int32)), .val (.int (0 : Int32)), .val (.ref b23)] [(.int (2 : Int32)), (.int (0 : Int32)), (.int (2 : Int32)), (.ref b23)])) (fun _ k_ => XS.iconst X27.here hx rfl (hb hby at_166) k_) ?_
          refine own_ww (T' := T27) (g' := (mkF m 168 #[.val (.int kk), .val (.long xl), .second, .val (.long yl), .second, .val (.int (kk &&& (7 : Int32))), .unset, .val (.int (1 : Int32)), .val (.int (0 : Int32)), .val (.ref b23)] [(.long xl), (.int (2 : Int32)), (.int (0 : Int32)), (.int (2 : Int32)), (.ref b23)])) (fun _ k_ => XS.lloadN X27.here hx rfl (hb hby at_167) rfl k_) ?_
          refine own_ww (T' := T27) (g' := (mkF m 170 #[.val (.int kk), .val (.long xl), .second, .val (.long yl), .second, .val (.int (kk &&& (7 : Int32))), .unset, .val (.int (1 : Int32)), .val (.int (0 : Int32)), .val (.ref b23)] [(.int (42 : Int32)), (.long xl), (.int (2 : Int32)), (.int (0 : Int32)), (.int (2 : Int32)), (.ref b23)])) (fun _ k_ => XS.bipush X27.here hx rfl (hb hby at_168) k_) ?_
          refine own_ww (T' := T27) (g' := (mkF m 171 #[.val (.int kk), .val (.long xl), .second, .val (.long yl), .second, .val (.int (kk &&& (7 : Int32))), .unset, .val (.int (1 : Int32)), .val (.int (0 : Int32)), .val (.ref b23)] [(.long ((xl.toUInt64 >>> ((42 : Int32) &&& 0x3f).toInt64.toUInt64).toInt64)), (.int (2 : Int32)), (.int (0 : Int32)), (.int (2 : Int32)), (.ref b23)])) (fun _ k_ => XS.lushr X27.here hx rfl (hb hby at_170) rfl k_) ?_
          obtain ⟨_, _, ⟨T28, L28, k28, n28⟩, -, X28, ⟨Lc28, hQ28, l28, y28, z28⟩, st28⟩ := Jvm.LawKit.callS X27 hx (y := (⟨"com/example/adjacency/adjacency/identity/NodeNameParsePinLaw", "pos", "(IIJ)C"⟩ : MethodName)) hown (mvT hZ (hw _ (List.mem_of_getElem? (i := 1) rfl))) (mvT hZ (hw _ (List.mem_of_getElem? (i := 2) rfl))) (mvT hZ (hw _ (List.mem_of_getElem? (i := 3) rfl))) (mvT hZ (hw _ (List.mem_of_getElem? (i := 4) rfl))) (by decide) (backOf (W := 2) (own_rm1_c l Z a0 hw [] (0 : Int32) (2 : Int32) ((xl.toUInt64 >>> ((42 : Int32) &&& 0x3f).toInt64.toUInt64).toInt64)  h27 n0 Z27 (by decide)) hZ (hw _ (List.mem_of_getElem? (i := 4) rfl)) (hw _ (List.mem_of_getElem? (i := 3) rfl)) (by decide) (by decide)) (g := (mkF m 171 #[.val (.int kk), .val (.long xl), .second, .val (.long yl), .second, .val (.int (kk &&& (7 : Int32))), .unset, .val (.int (1 : Int32)), .val (.int (0 : Int32)), .val (.ref b23)] [(.long ((xl.toUInt64 >>> ((42 : Int32) &&& 0x3f).toInt64.toUInt64).toInt64)), (.int (2 : Int32)), (.int (0 : Int32)), (.int (2 : Int32)), (.ref b23)])) rfl (by rw [hml]; rfl) (argsL := [(.int (0 : Int32)), (.int (2 : Int32)), (.long ((xl.toUInt64 >>> ((42 : Int32) &&& 0x3f).toInt64.toUInt64).toInt64))]) (rest := [(.int (2 : Int32)), (.ref b23)]) (lenOf own_pd27 rfl) rfl (by show 2 * 0 + _ ≤ _; exact Nat.le_of_eq rfl) (hb hby at_171) (fun _ _ => ⟨rfl, e27, (by decide : 1 + 0 ≤ _), (by decide : 7 + 0 ≤ _)⟩)
          dsimp only [Pt.U, Pt.locs, Pt.cells, Pt.slots] at X28 l28 y28 z28 st28 hQ28
          subst l28 y28 z28
          obtain ⟨r28, rfl, N28q, e28, ok28, nh28⟩ := hQ28
          have N28 := Fr.app N27 N28q
          refine own_ww (T' := T28) (g' := (mkF m 174 #[.val (.int kk), .val (.long xl), .second, .val (.long yl), .second, .val (.int (kk &&& (7 : Int32))), .unset, .val (.int (1 : Int32)), .val (.int (0 : Int32)), .val (.ref b23)] [(.int r28), (.int (2 : Int32)), (.ref b23)])) st28 ?_
          obtain ⟨cl29, Ar29, hs29⟩ := id V27
          obtain ⟨T29, h29, X29, e29, W29, st29⟩ := stC X28 hx hZ e28 Ar29 (j := (2 : Int32)) (own_Ar_in (i := 2) hs29 (by decide) (by simp)) (g := (mkF m 174 #[.val (.int kk), .val (.long xl), .second, .val (.long yl), .second, .val (.int (kk &&& (7 : Int32))), .unset, .val (.int (1 : Int32)), .val (.int (0 : Int32)), .val (.ref b23)] [(.int r28), (.int (2 : Int32)), (.ref b23)])) rfl rfl (hb hby at_174)
          have V29 := own_Ar_set (i := 2) (v := r28) V27 W29 (by decide) (own_i2c_small (own_ok128 ok28).1 (Int.lt_trans (own_ok128 ok28).2 (by decide)))
          have N29 := Fr.snoc X29 N28 g_b23
          have Z29 : n0 ≤ h29.size := Nat.le_trans Z27 (Keep.of_wr W29).1
          have CS29 : CHr Z own_EL s.vm h0 s.vm h29 := CS27.trans (CHr.wr W29 sf27_b23 CS27.1)
          have sf29_b23 := Safe.wr W29 sf27_b23 CS27.1 sf27_b23
          refine own_ww (T' := T29) (g' := (mkF m 175 #[.val (.int kk), .val (.long xl), .second, .val (.long yl), .second, .val (.int (kk &&& (7 : Int32))), .unset, .val (.int (1 : Int32)), .val (.int (0 : Int32)), .val (.ref b23)] [])) st29 ?_
          have K29 := K27.wr W29 (Or.inr (Nat.le_of_eq gq23.symm))
          refine own_ww (T' := T29) (g' := (mkF m 177 #[.val (.int kk), .val (.long xl), .second, .val (.long yl), .second, .val (.int (kk &&& (7 : Int32))), .unset, .val (.int (1 : Int32)), .val (.int (0 : Int32)), .val (.ref b23)] [(.ref b23)])) (fun _ k_ => XS.aload X29.here hx rfl (hb hby at_175) rfl rfl k_) ?_
          refine own_ww (T' := T29) (g' := (mkF m 178 #[.val (.int kk), .val (.long xl), .second, .val (.long yl), .second, .val (.int (kk &&& (7 : Int32))), .unset, .val (.int (1 : Int32)), .val (.int (0 : Int32)), .val (.ref b23)] [(.int (3 : Int32)), (.ref b23)])) (fun _ k_ => XS.iconst X29.here hx rfl (hb hby at_177) k_) ?_
          refine own_ww (T' := T29) (g' := (mkF m 180 #[.val (.int kk), .val (.long xl), .second, .val (.long yl), .second, .val (.int (kk &&& (7 : Int32))), .unset, .val (.int (1 : Int32)), .val (.int (0 : Int32)), .val (.ref b23)] [(.int (0 : Int32)), (.int (3 : Int32)), (.ref b23)])) (fun _ k_ => XS.iload X29.here hx rfl (hb hby at_178) rfl k_) ?_
          refine own_ww (T' := T29) (g' := (mkF m 181 #[.val (.int kk), .val (.long xl), .second, .val (.long yl), .second, .val (.int (kk &&& (7 : Int32))), .unset, .val (.int (1 : Int32)), .val (.int (0 : Int32)), .val (.ref b23)] [(.int (3 : Int32)), (.int (0 : Int32)), (.int (3 : Int32)), (.ref b23)])) (fun _ k_ => XS.iconst X29.here hx rfl (hb hby at_180) k_) ?_
          refine own_ww (T' := T29) (g' := (mkF m 182 #[.val (.int kk), .val (.long xl), .second, .val (.long yl), .second, .val (.int (kk &&& (7 : Int32))), .unset, .val (.int (1 : Int32)), .val (.int (0 : Int32)), .val (.ref b23)] [(.long yl), (.int (3 : Int32)), (.int (0 : Int32)), (.int (3 : Int32)), (.ref b23)])) (fun _ k_ => XS.lloadN X29.here hx rfl (hb hby at_181) rfl k_) ?_
          obtain ⟨_, _, ⟨T30, L30, k30, n30⟩, -, X30, ⟨Lc30, hQ30, l30, y30, z30⟩, st30⟩ := Jvm.LawKit.callS X29 hx (y := (⟨"com/example/adjacency/adjacency/identity/NodeNameParsePinLaw", "pos", "(IIJ)C"⟩ : MethodName)) hown (mvT hZ (hw _ (List.mem_of_getElem? (i := 1) rfl))) (mvT hZ (hw _ (List.mem_of_getElem? (i := 2) rfl))) (mvT hZ (hw _ (List.mem_of_getElem? (i := 3) rfl))) (mvT hZ (hw _ (List.mem_of_getElem? (i := 4) rfl))) (by decide) (backOf (W := 2) (own_rm1_c l Z a0 hw [] (0 : Int32) (3 : Int32) yl  h29 n0 Z29 (by decide)) hZ (hw _ (List.mem_of_getElem? (i := 4) rfl)) (hw _ (List.mem_of_getElem? (i := 3) rfl)) (by decide) (by decide)) (g := (mkF m 182 #[.val (.int kk), .val (.long xl), .second, .val (.long yl), .second, .val (.int (kk &&& (7 : Int32))), .unset, .val (.int (1 : Int32)), .val (.int (0 : Int32)), .val (.ref b23)] [(.long yl), (.int (3 : Int32)), (.int (0 : Int32)), (.int (3 : Int32)), (.ref b23)])) rfl (by rw [hml]; rfl) (argsL := [(.int (0 : Int32)), (.int (3 : Int32)), (.long yl)]) (rest := [(.int (3 : Int32)), (.ref b23)]) (lenOf own_pd27 rfl) rfl (by show 2 * 0 + _ ≤ _; exact Nat.le_of_eq rfl) (hb hby at_182) (fun _ _ => ⟨rfl, e29, (by decide : 1 + 0 ≤ _), (by decide : 7 + 0 ≤ _)⟩)
          dsimp only [Pt.U, Pt.locs, Pt.cells, Pt.slots] at X30 l30 y30 z30 st30 hQ30
          subst l30 y30 z30
          obtain ⟨r30, rfl, N30q, e30, ok30, nh30⟩ := hQ30
          have N30 := Fr.app N29 N30q
          refine own_ww (T' := T30) (g' := (mkF m 185 #[.val (.int kk), .val (.long xl), .second, .val (.long yl), .second, .val (.int (kk &&& (7 : Int32))), .unset, .val (.int (1 : Int32)), .val (.int (0 : Int32)), .val (.ref b23)] [(.int r30), (.int (3 : Int32)), (.ref b23)])) st30 ?_
          obtain ⟨cl31, Ar31, hs31⟩ := id V29
          obtain ⟨T31, h31, X31, e31, W31, st31⟩ := stC X30 hx hZ e30 Ar31 (j := (3 : Int32)) (own_Ar_in (i := 3) hs31 (by decide) (by simp)) (g := (mkF m 185 #[.val (.int kk), .val (.long xl), .second, .val (.long yl), .second, .val (.int (kk &&& (7 : Int32))), .unset, .val (.int (1 : Int32)), .val (.int (0 : Int32)), .val (.ref b23)] [(.int r30), (.int (3 : Int32)), (.ref b23)])) rfl rfl (hb hby at_185)
          have V31 := own_Ar_set (i := 3) (v := r30) V29 W31 (by decide) (own_i2c_small (own_ok128 ok30).1 (Int.lt_trans (own_ok128 ok30).2 (by decide)))
          have N31 := Fr.snoc X31 N30 g_b23
          have Z31 : n0 ≤ h31.size := Nat.le_trans Z29 (Keep.of_wr W31).1
          have CS31 : CHr Z own_EL s.vm h0 s.vm h31 := CS29.trans (CHr.wr W31 sf29_b23 CS29.1)
          have sf31_b23 := Safe.wr W31 sf29_b23 CS29.1 sf29_b23
          refine own_ww (T' := T31) (g' := (mkF m 186 #[.val (.int kk), .val (.long xl), .second, .val (.long yl), .second, .val (.int (kk &&& (7 : Int32))), .unset, .val (.int (1 : Int32)), .val (.int (0 : Int32)), .val (.ref b23)] [])) st31 ?_
          have K31 := K29.wr W31 (Or.inr (Nat.le_of_eq gq23.symm))
          refine own_ww (T' := T31) (g' := (mkF m 188 #[.val (.int kk), .val (.long xl), .second, .val (.long yl), .second, .val (.int (kk &&& (7 : Int32))), .unset, .val (.int (1 : Int32)), .val (.int (0 : Int32)), .val (.ref b23)] [(.ref b23)])) (fun _ k_ => XS.aload X31.here hx rfl (hb hby at_186) rfl rfl k_) ?_
          refine own_ww (T' := T31) (g' := (mkF m 189 #[.val (.int kk), .val (.long xl), .second, .val (.long yl), .second, .val (.int (kk &&& (7 : Int32))), .unset, .val (.int (1 : Int32)), .val (.int (0 : Int32)), .val (.ref b23)] [(.int (4 : Int32)), (.ref b23)])) (fun _ k_ => XS.iconst X31.here hx rfl (hb hby at_188) k_) ?_
          refine own_ww (T' := T31) (g' := (mkF m 191 #[.val (.int kk), .val (.long xl), .second, .val (.long yl), .second, .val (.int (kk &&& (7 : Int32))), .unset, .val (.int (1 : Int32)), .val (.int (0 : Int32)), .val (.ref b23)] [(.int (0 : Int32)), (.int (4 : Int32)), (.ref b23)])) (fun _ k_ => XS.iload X31.here hx rfl (hb hby at_189) rfl k_) ?_
          refine own_ww (T' := T31) (g' := (mkF m 192 #[.val (.int kk), .val (.long xl), .second, .val (.long yl), .second, .val (.int (kk &&& (7 : Int32))), .unset, .val (.int (1 : Int32)), .val (.int (0 : Int32)), .val (.ref b23)] [(.int (4 : Int32)), (.int (0 : Int32)), (.int (4 : Int32)), (.ref b23)])) (fun _ k_ => XS.iconst X31.here hx rfl (hb hby at_191) k_) ?_
          refine own_ww (T' := T31) (g' := (mkF m 193 #[.val (.int kk), .val (.long xl), .second, .val (.long yl), .second, .val (.int (kk &&& (7 : Int32))), .unset, .val (.int (1 : Int32)), .val (.int (0 : Int32)), .val (.ref b23)] [(.long yl), (.int (4 : Int32)), (.int (0 : Int32)), (.int (4 : Int32)), (.ref b23)])) (fun _ k_ => XS.lloadN X31.here hx rfl (hb hby at_192) rfl k_) ?_
          refine own_ww (T' := T31) (g' := (mkF m 195 #[.val (.int kk), .val (.long xl), .second, .val (.long yl), .second, .val (.int (kk &&& (7 : Int32))), .unset, .val (.int (1 : Int32)), .val (.int (0 : Int32)), .val (.ref b23)] [(.int (21 : Int32)), (.long yl), (.int (4 : Int32)), (.int (0 : Int32)), (.int (4 : Int32)), (.ref b23)])) (fun _ k_ => XS.bipush X31.here hx rfl (hb hby at_193) k_) ?_
          refine own_ww (T' := T31) (g' := (mkF m 196 #[.val (.int kk), .val (.long xl), .second, .val (.long yl), .second, .val (.int (kk &&& (7 : Int32))), .unset, .val (.int (1 : Int32)), .val (.int (0 : Int32)), .val (.ref b23)] [(.long ((yl.toUInt64 >>> ((21 : Int32) &&& 0x3f).toInt64.toUInt64).toInt64)), (.int (4 : Int32)), (.int (0 : Int32)), (.int (4 : Int32)), (.ref b23)])) (fun _ k_ => XS.lushr X31.here hx rfl (hb hby at_195) rfl k_) ?_
          obtain ⟨_, _, ⟨T32, L32, k32, n32⟩, -, X32, ⟨Lc32, hQ32, l32, y32, z32⟩, st32⟩ := Jvm.LawKit.callS X31 hx (y := (⟨"com/example/adjacency/adjacency/identity/NodeNameParsePinLaw", "pos", "(IIJ)C"⟩ : MethodName)) hown (mvT hZ (hw _ (List.mem_of_getElem? (i := 1) rfl))) (mvT hZ (hw _ (List.mem_of_getElem? (i := 2) rfl))) (mvT hZ (hw _ (List.mem_of_getElem? (i := 3) rfl))) (mvT hZ (hw _ (List.mem_of_getElem? (i := 4) rfl))) (by decide) (backOf (W := 2) (own_rm1_c l Z a0 hw [] (0 : Int32) (4 : Int32) ((yl.toUInt64 >>> ((21 : Int32) &&& 0x3f).toInt64.toUInt64).toInt64)  h31 n0 Z31 (by decide)) hZ (hw _ (List.mem_of_getElem? (i := 4) rfl)) (hw _ (List.mem_of_getElem? (i := 3) rfl)) (by decide) (by decide)) (g := (mkF m 196 #[.val (.int kk), .val (.long xl), .second, .val (.long yl), .second, .val (.int (kk &&& (7 : Int32))), .unset, .val (.int (1 : Int32)), .val (.int (0 : Int32)), .val (.ref b23)] [(.long ((yl.toUInt64 >>> ((21 : Int32) &&& 0x3f).toInt64.toUInt64).toInt64)), (.int (4 : Int32)), (.int (0 : Int32)), (.int (4 : Int32)), (.ref b23)])) rfl (by rw [hml]; rfl) (argsL := [(.int (0 : Int32)), (.int (4 : Int32)), (.long ((yl.toUInt64 >>> ((21 : Int32) &&& 0x3f).toInt64.toUInt64).toInt64))]) (rest := [(.int (4 : Int32)), (.ref b23)]) (lenOf own_pd27 rfl) rfl (by show 2 * 0 + _ ≤ _; exact Nat.le_of_eq rfl) (hb hby at_196) (fun _ _ => ⟨rfl, e31, (by decide : 1 + 0 ≤ _), (by decide : 7 + 0 ≤ _)⟩)
          dsimp only [Pt.U, Pt.locs, Pt.cells, Pt.slots] at X32 l32 y32 z32 st32 hQ32
          subst l32 y32 z32
          obtain ⟨r32, rfl, N32q, e32, ok32, nh32⟩ := hQ32
          have N32 := Fr.app N31 N32q
          refine own_ww (T' := T32) (g' := (mkF m 199 #[.val (.int kk), .val (.long xl), .second, .val (.long yl), .second, .val (.int (kk &&& (7 : Int32))), .unset, .val (.int (1 : Int32)), .val (.int (0 : Int32)), .val (.ref b23)] [(.int r32), (.int (4 : Int32)), (.ref b23)])) st32 ?_
          obtain ⟨cl33, Ar33, hs33⟩ := id V31
          obtain ⟨T33, h33, X33, e33, W33, st33⟩ := stC X32 hx hZ e32 Ar33 (j := (4 : Int32)) (own_Ar_in (i := 4) hs33 (by decide) (by simp)) (g := (mkF m 199 #[.val (.int kk), .val (.long xl), .second, .val (.long yl), .second, .val (.int (kk &&& (7 : Int32))), .unset, .val (.int (1 : Int32)), .val (.int (0 : Int32)), .val (.ref b23)] [(.int r32), (.int (4 : Int32)), (.ref b23)])) rfl rfl (hb hby at_199)
          have V33 := own_Ar_set (i := 4) (v := r32) V31 W33 (by decide) (own_i2c_small (own_ok128 ok32).1 (Int.lt_trans (own_ok128 ok32).2 (by decide)))
          have N33 := Fr.snoc X33 N32 g_b23
          have Z33 : n0 ≤ h33.size := Nat.le_trans Z31 (Keep.of_wr W33).1
          have CS33 : CHr Z own_EL s.vm h0 s.vm h33 := CS31.trans (CHr.wr W33 sf31_b23 CS31.1)
          have sf33_b23 := Safe.wr W33 sf31_b23 CS31.1 sf31_b23
          refine own_ww (T' := T33) (g' := (mkF m 200 #[.val (.int kk), .val (.long xl), .second, .val (.long yl), .second, .val (.int (kk &&& (7 : Int32))), .unset, .val (.int (1 : Int32)), .val (.int (0 : Int32)), .val (.ref b23)] [])) st33 ?_
          have K33 := K31.wr W33 (Or.inr (Nat.le_of_eq gq23.symm))
          refine own_ww (T' := T33) (g' := (mkF m 202 #[.val (.int kk), .val (.long xl), .second, .val (.long yl), .second, .val (.int (kk &&& (7 : Int32))), .unset, .val (.int (1 : Int32)), .val (.int (0 : Int32)), .val (.ref b23)] [(.ref b23)])) (fun _ k_ => XS.aload X33.here hx rfl (hb hby at_200) rfl rfl k_) ?_
          refine own_ww (T' := T33) (g' := (mkF m 203 #[.val (.int kk), .val (.long xl), .second, .val (.long yl), .second, .val (.int (kk &&& (7 : Int32))), .unset, .val (.int (1 : Int32)), .val (.int (0 : Int32)), .val (.ref b23)] [(.int (5 : Int32)), (.ref b23)])) (fun _ k_ => XS.iconst X33.here hx rfl (hb hby at_202) k_) ?_
          refine own_ww (T' := T33) (g' := (mkF m 205 #[.val (.int kk), .val (.long xl), .second, .val (.long yl), .second, .val (.int (kk &&& (7 : Int32))), .unset, .val (.int (1 : Int32)), .val (.int (0 : Int32)), .val (.ref b23)] [(.int (0 : Int32)), (.int (5 : Int32)), (.ref b23)])) (fun _ k_ => XS.iload X33.here hx rfl (hb hby at_203) rfl k_) ?_
          refine own_ww (T' := T33) (g' := (mkF m 206 #[.val (.int kk), .val (.long xl), .second, .val (.long yl), .second, .val (.int (kk &&& (7 : Int32))), .unset, .val (.int (1 : Int32)), .val (.int (0 : Int32)), .val (.ref b23)] [(.int (5 : Int32)), (.int (0 : Int32)), (.int (5 : Int32)), (.ref b23)])) (fun _ k_ => XS.iconst X33.here hx rfl (hb hby at_205) k_) ?_
          refine own_ww (T' := T33) (g' := (mkF m 207 #[.val (.int kk), .val (.long xl), .second, .val (.long yl), .second, .val (.int (kk &&& (7 : Int32))), .unset, .val (.int (1 : Int32)), .val (.int (0 : Int32)), .val (.ref b23)] [(.long yl), (.int (5 : Int32)), (.int (0 : Int32)), (.int (5 : Int32)), (.ref b23)])) (fun _ k_ => XS.lloadN X33.here hx rfl (hb hby at_206) rfl k_) ?_
          refine own_ww (T' := T33) (g' := (mkF m 209 #[.val (.int kk), .val (.long xl), .second, .val (.long yl), .second, .val (.int (kk &&& (7 : Int32))), .unset, .val (.int (1 : Int32)), .val (.int (0 : Int32)), .val (.ref b23)] [(.int (42 : Int32)), (.long yl), (.int (5 : Int32)), (.int (0 : Int32)), (.int (5 : Int32)), (.ref b23)])) (fun _ k_ => XS.bipush X33.here hx rfl (hb hby at_207) k_) ?_
          refine own_ww (T' := T33) (g' := (mkF m 210 #[.val (.int kk), .val (.long xl), .second, .val (.long yl), .second, .val (.int (kk &&& (7 : Int32))), .unset, .val (.int (1 : Int32)), .val (.int (0 : Int32)), .val (.ref b23)] [(.long ((yl.toUInt64 >>> ((42 : Int32) &&& 0x3f).toInt64.toUInt64).toInt64)), (.int (5 : Int32)), (.int (0 : Int32)), (.int (5 : Int32)), (.ref b23)])) (fun _ k_ => XS.lushr X33.here hx rfl (hb hby at_209) rfl k_) ?_
          obtain ⟨_, _, ⟨T34, L34, k34, n34⟩, -, X34, ⟨Lc34, hQ34, l34, y34, z34⟩, st34⟩ := Jvm.LawKit.callS X33 hx (y := (⟨"com/example/adjacency/adjacency/identity/NodeNameParsePinLaw", "pos", "(IIJ)C"⟩ : MethodName)) hown (mvT hZ (hw _ (List.mem_of_getElem? (i := 1) rfl))) (mvT hZ (hw _ (List.mem_of_getElem? (i := 2) rfl))) (mvT hZ (hw _ (List.mem_of_getElem? (i := 3) rfl))) (mvT hZ (hw _ (List.mem_of_getElem? (i := 4) rfl))) (by decide) (backOf (W := 2) (own_rm1_c l Z a0 hw [] (0 : Int32) (5 : Int32) ((yl.toUInt64 >>> ((42 : Int32) &&& 0x3f).toInt64.toUInt64).toInt64)  h33 n0 Z33 (by decide)) hZ (hw _ (List.mem_of_getElem? (i := 4) rfl)) (hw _ (List.mem_of_getElem? (i := 3) rfl)) (by decide) (by decide)) (g := (mkF m 210 #[.val (.int kk), .val (.long xl), .second, .val (.long yl), .second, .val (.int (kk &&& (7 : Int32))), .unset, .val (.int (1 : Int32)), .val (.int (0 : Int32)), .val (.ref b23)] [(.long ((yl.toUInt64 >>> ((42 : Int32) &&& 0x3f).toInt64.toUInt64).toInt64)), (.int (5 : Int32)), (.int (0 : Int32)), (.int (5 : Int32)), (.ref b23)])) rfl (by rw [hml]; rfl) (argsL := [(.int (0 : Int32)), (.int (5 : Int32)), (.long ((yl.toUInt64 >>> ((42 : Int32) &&& 0x3f).toInt64.toUInt64).toInt64))]) (rest := [(.int (5 : Int32)), (.ref b23)]) (lenOf own_pd27 rfl) rfl (by show 2 * 0 + _ ≤ _; exact Nat.le_of_eq rfl) (hb hby at_210) (fun _ _ => ⟨rfl, e33, (by decide : 1 + 0 ≤ _), (by decide : 7 + 0 ≤ _)⟩)
          dsimp only [Pt.U, Pt.locs, Pt.cells, Pt.slots] at X34 l34 y34 z34 st34 hQ34
          subst l34 y34 z34
          obtain ⟨r34, rfl, N34q, e34, ok34, nh34⟩ := hQ34
          have N34 := Fr.app N33 N34q
          refine own_ww (T' := T34) (g' := (mkF m 213 #[.val (.int kk), .val (.long xl), .second, .val (.long yl), .second, .val (.int (kk &&& (7 : Int32))), .unset, .val (.int (1 : Int32)), .val (.int (0 : Int32)), .val (.ref b23)] [(.int r34), (.int (5 : Int32)), (.ref b23)])) st34 ?_
          obtain ⟨cl35, Ar35, hs35⟩ := id V33
          obtain ⟨T35, h35, X35, e35, W35, st35⟩ := stC X34 hx hZ e34 Ar35 (j := (5 : Int32)) (own_Ar_in (i := 5) hs35 (by decide) (by simp)) (g := (mkF m 213 #[.val (.int kk), .val (.long xl), .second, .val (.long yl), .second, .val (.int (kk &&& (7 : Int32))), .unset, .val (.int (1 : Int32)), .val (.int (0 : Int32)), .val (.ref b23)] [(.int r34), (.int (5 : Int32)), (.ref b23)])) rfl rfl (hb hby at_213)
          have V35 := own_Ar_set (i := 5) (v := r34) V33 W35 (by decide) (own_i2c_small (own_ok128 ok34).1 (Int.lt_trans (own_ok128 ok34).2 (by decide)))
          have N35 := Fr.snoc X35 N34 g_b23
          have Z35 : n0 ≤ h35.size := Nat.le_trans Z33 (Keep.of_wr W35).1
          have CS35 : CHr Z own_EL s.vm h0 s.vm h35 := CS33.trans (CHr.wr W35 sf33_b23 CS33.1)
          have sf35_b23 := Safe.wr W35 sf33_b23 CS33.1 sf33_b23
          refine own_ww (T' := T35) (g' := (mkF m 214 #[.val (.int kk), .val (.long xl), .second, .val (.long yl), .second, .val (.int (kk &&& (7 : Int32))), .unset, .val (.int (1 : Int32)), .val (.int (0 : Int32)), .val (.ref b23)] [])) st35 ?_
          have K35 := K33.wr W35 (Or.inr (Nat.le_of_eq gq23.symm))
          refine own_ww (T' := T35) (g' := (mkF m 216 #[.val (.int kk), .val (.long xl), .second, .val (.long yl), .second, .val (.int (kk &&& (7 : Int32))), .unset, .val (.int (1 : Int32)), .val (.int (0 : Int32)), .val (.ref b23)] [(.ref b23)])) (fun _ k_ => XS.aload X35.here hx rfl (hb hby at_214) rfl rfl k_) ?_
          refine own_ww (T' := T35) (g' := (mkF m 218 #[.val (.int kk), .val (.long xl), .second, .val (.long yl), .second, .val (.int (kk &&& (7 : Int32))), .unset, .val (.int (1 : Int32)), .val (.int (0 : Int32)), .val (.ref b23)] [(.int (6 : Int32)), (.ref b23)])) (fun _ k_ => XS.bipush X35.here hx rfl (hb hby at_216) k_) ?_
          refine own_ww (T' := T35) (g' := (mkF m 220 #[.val (.int kk), .val (.long xl), .second, .val (.long yl), .second, .val (.int (kk &&& (7 : Int32))), .unset, .val (.int (1 : Int32)), .val (.int (0 : Int32)), .val (.ref b23)] [(.int (0 : Int32)), (.int (6 : Int32)), (.ref b23)])) (fun _ k_ => XS.iload X35.here hx rfl (hb hby at_218) rfl k_) ?_
          refine own_ww (T' := T35) (g' := (mkF m 222 #[.val (.int kk), .val (.long xl), .second, .val (.long yl), .second, .val (.int (kk &&& (7 : Int32))), .unset, .val (.int (1 : Int32)), .val (.int (0 : Int32)), .val (.ref b23)] [(.int (6 : Int32)), (.int (0 : Int32)), (.int (6 : Int32)), (.ref b23)])) (fun _ k_ => XS.bipush X35.here hx rfl (hb hby at_220) k_) ?_
          refine own_ww (T' := T35) (g' := (mkF m 223 #[.val (.int kk), .val (.long xl), .second, .val (.long yl), .second, .val (.int (kk &&& (7 : Int32))), .unset, .val (.int (1 : Int32)), .val (.int (0 : Int32)), .val (.ref b23)] [(.int kk), (.int (6 : Int32)), (.int (0 : Int32)), (.int (6 : Int32)), (.ref b23)])) (fun _ k_ => XS.iloadN X35.here hx rfl (hb hby at_222) rfl k_) ?_
          refine own_ww (T' := T35) (g' := (mkF m 224 #[.val (.int kk), .val (.long xl), .second, .val (.long yl), .second, .val (.int (kk &&& (7 : Int32))), .unset, .val (.int (1 : Int32)), .val (.int (0 : Int32)), .val (.ref b23)] [(.int (3 : Int32)), (.int kk), (.int (6 : Int32)), (.int (0 : Int32)), (.int (6 : Int32)), (.ref b23)])) (fun _ k_ => XS.iconst X35.here hx rfl (hb hby at_223) k_) ?_
          refine own_ww (T' := T35) (g' := (mkF m 225 #[.val (.int kk), .val (.long xl), .second, .val (.long yl), .second, .val (.int (kk &&& (7 : Int32))), .unset, .val (.int (1 : Int32)), .val (.int (0 : Int32)), .val (.ref b23)] [(.int ((kk.toUInt32 >>> ((3 : Int32) &&& 31).toUInt32).toInt32)), (.int (6 : Int32)), (.int (0 : Int32)), (.int (6 : Int32)), (.ref b23)])) (fun _ k_ => XS.iushr X35.here hx rfl (hb hby at_224) rfl k_) ?_
          refine own_ww (T' := T35) (g' := (mkF m 226 #[.val (.int kk), .val (.long xl), .second, .val (.long yl), .second, .val (.int (kk &&& (7 : Int32))), .unset, .val (.int (1 : Int32)), .val (.int (0 : Int32)), .val (.ref b23)] [(.long (((kk.toUInt32 >>> ((3 : Int32) &&& 31).toUInt32).toInt32).toInt64)), (.int (6 : Int32)), (.int (0 : Int32)), (.int (6 : Int32)), (.ref b23)])) (fun _ k_ => XS.i2l X35.here hx rfl (hb hby at_225) rfl k_) ?_
          obtain ⟨_, _, ⟨T36, L36, k36, n36⟩, -, X36, ⟨Lc36, hQ36, l36, y36, z36⟩, st36⟩ := Jvm.LawKit.callS X35 hx (y := (⟨"com/example/adjacency/adjacency/identity/NodeNameParsePinLaw", "pos", "(IIJ)C"⟩ : MethodName)) hown (mvT hZ (hw _ (List.mem_of_getElem? (i := 1) rfl))) (mvT hZ (hw _ (List.mem_of_getElem? (i := 2) rfl))) (mvT hZ (hw _ (List.mem_of_getElem? (i := 3) rfl))) (mvT hZ (hw _ (List.mem_of_getElem? (i := 4) rfl))) (by decide) (backOf (W := 2) (own_rm1_c l Z a0 hw [] (0 : Int32) (6 : Int32) (((kk.toUInt32 >>> ((3 : Int32) &&& 31).toUInt32).toInt32).toInt64)  h35 n0 Z35 (by decide)) hZ (hw _ (List.mem_of_getElem? (i := 4) rfl)) (hw _ (List.mem_of_getElem? (i := 3) rfl)) (by decide) (by decide)) (g := (mkF m 226 #[.val (.int kk), .val (.long xl), .second, .val (.long yl), .second, .val (.int (kk &&& (7 : Int32))), .unset, .val (.int (1 : Int32)), .val (.int (0 : Int32)), .val (.ref b23)] [(.long (((kk.toUInt32 >>> ((3 : Int32) &&& 31).toUInt32).toInt32).toInt64)), (.int (6 : Int32)), (.int (0 : Int32)), (.int (6 : Int32)), (.ref b23)])) rfl (by rw [hml]; rfl) (argsL := [(.int (0 : Int32)), (.int (6 : Int32)), (.long (((kk.toUInt32 >>> ((3 : Int32) &&& 31).toUInt32).toInt32).toInt64))]) (rest := [(.int (6 : Int32)), (.ref b23)]) (lenOf own_pd27 rfl) rfl (by show 2 * 0 + _ ≤ _; exact Nat.le_of_eq rfl) (hb hby at_226) (fun _ _ => ⟨rfl, e35, (by decide : 1 + 0 ≤ _), (by decide : 7 + 0 ≤ _)⟩)
          dsimp only [Pt.U, Pt.locs, Pt.cells, Pt.slots] at X36 l36 y36 z36 st36 hQ36
          subst l36 y36 z36
          obtain ⟨r36, rfl, N36q, e36, ok36, nh36⟩ := hQ36
          have N36 := Fr.app N35 N36q
          refine own_ww (T' := T36) (g' := (mkF m 229 #[.val (.int kk), .val (.long xl), .second, .val (.long yl), .second, .val (.int (kk &&& (7 : Int32))), .unset, .val (.int (1 : Int32)), .val (.int (0 : Int32)), .val (.ref b23)] [(.int r36), (.int (6 : Int32)), (.ref b23)])) st36 ?_
          obtain ⟨cl37, Ar37, hs37⟩ := id V35
          obtain ⟨T37, h37, X37, e37, W37, st37⟩ := stC X36 hx hZ e36 Ar37 (j := (6 : Int32)) (own_Ar_in (i := 6) hs37 (by decide) (by simp)) (g := (mkF m 229 #[.val (.int kk), .val (.long xl), .second, .val (.long yl), .second, .val (.int (kk &&& (7 : Int32))), .unset, .val (.int (1 : Int32)), .val (.int (0 : Int32)), .val (.ref b23)] [(.int r36), (.int (6 : Int32)), (.ref b23)])) rfl rfl (hb hby at_229)
          have V37 := own_Ar_set (i := 6) (v := r36) V35 W37 (by decide) (own_i2c_small (own_ok128 ok36).1 (Int.lt_trans (own_ok128 ok36).2 (by decide)))
          have N37 := Fr.snoc X37 N36 g_b23
          have Z37 : n0 ≤ h37.size := Nat.le_trans Z35 (Keep.of_wr W37).1
          have CS37 : CHr Z own_EL s.vm h0 s.vm h37 := CS35.trans (CHr.wr W37 sf35_b23 CS35.1)
          have sf37_b23 := Safe.wr W37 sf35_b23 CS35.1 sf35_b23
          refine own_ww (T' := T37) (g' := (mkF m 230 #[.val (.int kk), .val (.long xl), .second, .val (.long yl), .second, .val (.int (kk &&& (7 : Int32))), .unset, .val (.int (1 : Int32)), .val (.int (0 : Int32)), .val (.ref b23)] [])) st37 ?_
          have K37 := K35.wr W37 (Or.inr (Nat.le_of_eq gq23.symm))
          obtain ⟨T38, h38, X38, e38, E38, A38, D38, -, st38⟩ := newO X37 hx hZ hown (hw _ (List.mem_of_getElem? (i := 9) rfl)) (hw _ (List.mem_of_getElem? (i := 10) rfl)) (hw _ (List.mem_of_getElem? (i := 11) rfl)) e37 (g := (mkF m 230 #[.val (.int kk), .val (.long xl), .second, .val (.long yl), .second, .val (.int (kk &&& (7 : Int32))), .unset, .val (.int (1 : Int32)), .val (.int (0 : Int32)), .val (.ref b23)] [])) rfl (hb hby at_230) (by decide) (by decide)
          obtain ⟨b38, gq38⟩ : ∃ z, z = h37.size := ⟨_, rfl⟩
          rw [← gq38] at A38 D38 st38
          have g_b38 : n0 ≤ b38 := Nat.le_trans Z37 (Nat.le_of_eq gq38.symm)
          have Z38 : n0 ≤ h38.size := Nat.le_trans Z37 E38.1
          have CS38 : CHr Z own_EL s.vm h0 s.vm h38 := CS37.trans (CHr.ext E38 CS37.1)
          have sf38_b23 := Safe.ext E38 CS37.1 sf37_b23
          have sf38_b38 : Safe Z own_EL s.vm h38 b38 := Safe.ext E38 CS37.1 (Safe.new (Nat.le_of_eq gq38.symm))
          refine own_ww (T' := T38) (g' := (mkF m 233 #[.val (.int kk), .val (.long xl), .second, .val (.long yl), .second, .val (.int (kk &&& (7 : Int32))), .unset, .val (.int (1 : Int32)), .val (.int (0 : Int32)), .val (.ref b23)] [(.ref b38)])) st38 ?_
          refine own_ww (T' := T38) (g' := (mkF m 234 #[.val (.int kk), .val (.long xl), .second, .val (.long yl), .second, .val (.int (kk &&& (7 : Int32))), .unset, .val (.int (1 : Int32)), .val (.int (0 : Int32)), .val (.ref b23)] [(.ref b38), (.ref b38)])) (fun _ k_ => XS.dup X38.here hx rfl (hb hby at_233) rfl rfl k_) ?_
          refine own_ww (T' := T38) (g' := (mkF m 236 #[.val (.int kk), .val (.long xl), .second, .val (.long yl), .second, .val (.int (kk &&& (7 : Int32))), .unset, .val (.int (1 : Int32)), .val (.int (0 : Int32)), .val (.ref b23)] [(.ref b23), (.ref b38), (.ref b38)])) (fun _ k_ => XS.aload X38.here hx rfl (hb hby at_234) rfl rfl k_) ?_
          have S1 := (own_sta0 S K37).ext E38
          have SF1 := (own_sta0 SF K37).ext E38
          obtain ⟨_, _, ⟨T39, L39, k39, n39⟩, -, X39, ⟨Lc39, hQ39, l39, y39, z39⟩, st39⟩ := X38.specialBack hx (y := (⟨"java/lang/String", "<init>", "([C)V"⟩ : MethodName)) rfl hown (mvT hZ (hw _ (List.mem_of_getElem? (i := 12) rfl))) (mvT hZ (hw _ (List.mem_of_getElem? (i := 13) rfl))) (mvT hZ (hw _ (List.mem_of_getElem? (i := 14) rfl))) (by decide) (backOf (W := 1) (own_rm3 l Z a0 hw [] b38 b23 _ _ cs r24 r26 r28 r30 r32 r34 r36 h38 n0 Z38 (D38 (Or.inr (hw _ (List.mem_of_getElem? (i := 37) rfl))) (ty := (.array .byte)) (by decide)) (D38 (Or.inr (hw _ (List.mem_of_getElem? (i := 35) rfl))) (ty := .byte) (by decide)) A38 g_b38 (own_Ar_ext V37 E38) hcs S1 (own_ok255 ok24) (own_ok255 ok26) (own_ok255 ok28) (own_ok255 ok30) (own_ok255 ok32) (own_ok255 ok34) (own_ok255 ok36)) hZ (hw _ (List.mem_of_getElem? (i := 14) rfl)) (hw _ (List.mem_of_getElem? (i := 11) rfl)) (by decide) (by decide)) (g := (mkF m 236 #[.val (.int kk), .val (.long xl), .second, .val (.long yl), .second, .val (.int (kk &&& (7 : Int32))), .unset, .val (.int (1 : Int32)), .val (.int (0 : Int32)), .val (.ref b23)] [(.ref b23), (.ref b38), (.ref b38)])) rfl (by rw [hml]; rfl) (Steps.refl _) (a := b38) (argsL := [(.ref b23)]) (rest := [(.ref b38)]) (lenOf own_pd28 rfl) rfl (by show 2 * 0 + _ ≤ _; exact Nat.le_of_eq rfl) (hb hby at_236) (fun _ _ => ⟨rfl, e38, (by decide : 2 + 1 ≤ _), (by decide : 11 + 7 ≤ _)⟩)
          dsimp only [Pt.U, Pt.locs, Pt.cells, Pt.slots] at X39 l39 y39 z39 st39 hQ39
          subst l39 y39 z39
          obtain ⟨h39, e39⟩ : ∃ h, T39.heap = h := ⟨_, rfl⟩
          rw [e39] at hQ39
          obtain ⟨rfl, N39q, K39, Q39⟩ := hQ39
          have CS39 : CHr Z own_EL s.vm h0 s.vm h39 := CS38.trans (CHr.keep K39 (sfS sf38_b38 sf0) CS38.1)
          have sf39_b23 := Safe.keep K39 (sfS sf38_b38 sf0) CS38.1 sf38_b23
          have sf39_b38 := Safe.keep K39 (sfS sf38_b38 sf0) CS38.1 sf38_b38
          have N39 := Fr.app N37 N39q
          refine own_wt (T' := T39) (g' := (mkF m 239 #[.val (.int kk), .val (.long xl), .second, .val (.long yl), .second, .val (.int (kk &&& (7 : Int32))), .unset, .val (.int (1 : Int32)), .val (.int (0 : Int32)), .val (.ref b23)] [(.ref b38)])) st39 ?_
          have Z39 : n0 ≤ h39.size := Nat.le_trans Z38 K39.1
          have KA : Keep h37 h39 [] := ((Keep.refl _ []).ext E38).trans K39 (fun x hx => Or.inr (by rw [List.mem_singleton.mp hx]; exact Nat.le_of_eq gq38.symm))
          have S2 := own_sta0 (own_sta0 S K37) KA
          have SF2 := own_sta0 (own_sta0 SF K37) KA
          have Qs : own_Str Z h39 b38 [r24, r26, r28, r30, r32, r34, r36] := by
            have q := Q39
            rw [own_i2b_small (own_ok128 ok24), own_i2b_small (own_ok128 ok26), own_i2b_small (own_ok128 ok28), own_i2b_small (own_ok128 ok30), own_i2b_small (own_ok128 ok32), own_i2b_small (own_ok128 ok34), own_i2b_small (own_ok128 ok36)] at q
            exact q
          refine own_ww (T' := T39) (g' := (mkF m 241 #[.val (.int kk), .val (.long xl), .second, .val (.long yl), .second, .val (.int (kk &&& (7 : Int32))), .val (.ref b38), .val (.int (1 : Int32)), .val (.int (0 : Int32)), .val (.ref b23)] [])) (fun _ k_ => XS.astore X39.here hx rfl (hb hby at_239) rfl rfl (l' := #[.val (.int kk), .val (.long xl), .second, .val (.long yl), .second, .val (.int (kk &&& (7 : Int32))), .val (.ref b38), .val (.int (1 : Int32)), .val (.int (0 : Int32)), .val (.ref b23)]) rfl k_) ?_
          obtain ⟨LA40, XA40, NA40⟩ : ∃ L, Stand p l e room_1 (s.setVm s.vm) m #[(.int kk), (.long xl), (.long yl)] below meth c T39 L 3 18 ∧ Fr n0 L := ⟨_, X39, N39⟩
          have PL := own_pl_0 ok24 ok26 ok28 ok30 ok32 ok34 ok36 (nh24 (by decide)) (nh36 (by decide))
          have hro := own_ro1 PL.2.2.2
          refine own_ww (T' := T39) (g' := (mkF m 243 #[.val (.int kk), .val (.long xl), .second, .val (.long yl), .second, .val (.int (kk &&& (7 : Int32))), .val (.ref b38), .val (.int (1 : Int32)), .val (.int (0 : Int32)), .val (.ref b23)] [(.ref b38)])) (fun _ k_ => XS.aload XA40.here hx rfl (hb hby at_241) rfl rfl k_) ?_
          obtain ⟨_, _, ⟨T41, L41, k41, n41⟩, -, X41', hs241, hg41, ⟨Lc41, hQ41, l41, y41, z41, cr41⟩, st41⟩ := callSS XA40 hx (y := (⟨"com/example/adjacency/adjacency/identity/NodeName", "parse", "(Ljava/lang/String;)Lcom/example/adjacency/adjacency/identity/NodeName;"⟩ : MethodName)) hown (mvT hZ (hw _ (List.mem_of_getElem? (i := 38) rfl))) (mvT hZ (hw _ (List.mem_of_getElem? (i := 39) rfl))) (mvT hZ (hw _ (List.mem_of_getElem? (i := 40) rfl))) (mvT hZ (hw _ (List.mem_of_getElem? (i := 41) rfl))) (by decide) (backOfSH (W := 0) (own_rm9 l Z a0 hw [] b38 [r24, r26, r28, r30, r32, r34, r36] cs sf h39 n0 Z39 Qs (show 7 < 1000 by decide) hcs S2 hsf SF2 PL.1 PL.2.1 (by rw [PL.2.2.1]; decide)) hZ (hw _ (List.mem_of_getElem? (i := 41) rfl)) (hw _ (List.mem_of_getElem? (i := 40) rfl)) (by decide) (by decide) (own_EW hw) CS39.1) (g := (mkF m 243 #[.val (.int kk), .val (.long xl), .second, .val (.long yl), .second, .val (.int (kk &&& (7 : Int32))), .val (.ref b38), .val (.int (1 : Int32)), .val (.int (0 : Int32)), .val (.ref b23)] [(.ref b38)])) rfl (by rw [hml]; rfl) (argsL := [(.ref b38)]) (rest := []) (lenOf own_pd24 rfl) rfl (by show 2 * 0 + _ ≤ _; exact Nat.le_of_eq rfl) (hb hby at_243) (fun _ _ => ⟨rfl, e39, (by decide : 3 + 3 ≤ _), (by decide : 18 + 21 ≤ _)⟩)
          dsimp only [Pt.U, Pt.locs, Pt.cells, Pt.slots] at X41' hs241 hg41 l41 y41 z41 st41 hQ41 cr41
          subst l41 y41 z41
          obtain ⟨X41, hS41, hZ41, ho41⟩ := rebS hS0 (by rw [e39]; exact CS39.2.1) X41' hs241 hg41 hZ hown
          obtain ⟨h41, e41⟩ : ∃ h, T41.heap = h := ⟨_, rfl⟩
          rw [e41] at hQ41 hS41 cr41
          obtain ⟨r41, rfl, N41q, K41, Ex41, F41⟩ := hQ41
          have N41 := Fr.app NA40 N41q
          have CB41 : CHr Z own_EL s.vm h0 T41.vm h41 := (CB0.trans CS39).trans cr41
          have CS41 : CHr Z own_EL T41.vm h41 T41.vm h41 := CHr.refl CB41.1
          have Z41 : n0 ≤ h41.size := Nat.le_trans Z39 cr41.2.1
          refine own_wt (T' := T41) (g' := (mkF m 246 #[.val (.int kk), .val (.long xl), .second, .val (.long yl), .second, .val (.int (kk &&& (7 : Int32))), .val (.ref b38), .val (.int (1 : Int32)), .val (.int (0 : Int32)), .val (.ref b23)] [(.ref r41)])) st41 ?_
          have Se := own_Str_keep Qs K41
          have Sf := own_sta0 S2 K41
          have Sg := own_sta0 SF2 K41
          refine own_ww (T' := T41) (g' := (mkF m 248 #[.val (.int kk), .val (.long xl), .second, .val (.long yl), .second, .val (.int (kk &&& (7 : Int32))), .val (.ref b38), .val (.int (1 : Int32)), .val (.ref r41), .val (.ref b23)] [])) (fun _ k_ => XS.astore X41.here hx rfl (hb hby at_246) rfl rfl (l' := #[.val (.int kk), .val (.long xl), .second, .val (.long yl), .second, .val (.int (kk &&& (7 : Int32))), .val (.ref b38), .val (.int (1 : Int32)), .val (.ref r41), .val (.ref b23)]) rfl k_) ?_
          refine own_ww (T' := T41) (g' := (mkF m 250 #[.val (.int kk), .val (.long xl), .second, .val (.long yl), .second, .val (.int (kk &&& (7 : Int32))), .val (.ref b38), .val (.int (1 : Int32)), .val (.ref r41), .val (.ref b23)] [(.ref r41)])) (fun _ k_ => XS.aload X41.here hx rfl (hb hby at_248) rfl rfl k_) ?_
          obtain ⟨cq42, kq42, q42a, q42b, q42c⟩ := isOf hZ41 e41 Ex41
          obtain ⟨_, _, ⟨T42, L42, k42, n42⟩, -, X42, ⟨Lc42, hQ42, l42, y42, z42⟩, st42⟩ := X41.virtualBack hx (y := (⟨"com/example/adjacency/adjacency/identity/NodeName", "toString", "()Ljava/lang/String;"⟩ : MethodName)) (z := (⟨"com/example/adjacency/adjacency/identity/NodeName", "toString", "()Ljava/lang/String;"⟩ : MethodName)) ho41 (mvT hZ41 (hw _ (List.mem_of_getElem? (i := 117) rfl))) (mvT hZ41 (hw _ (List.mem_of_getElem? (i := 118) rfl))) (notFace_of_selects (args := #[]) (mvT hZ41 (hw _ (List.mem_of_getElem? (i := 120) rfl)))) (mvT hZ41 (hw _ (List.mem_of_getElem? (i := 120) rfl))) (mvT hZ41 (hw _ (List.mem_of_getElem? (i := 119) rfl))) (by decide) (backOf (W := 0) (own_rm27 l Z a0 hw [] r41 b38 h41 n0 Z41 F41) hZ41 (hw _ (List.mem_of_getElem? (i := 121) rfl)) (hw _ (List.mem_of_getElem? (i := 40) rfl)) (by decide) (by decide)) q42a q42c (g := (mkF m 250 #[.val (.int kk), .val (.long xl), .second, .val (.long yl), .second, .val (.int (kk &&& (7 : Int32))), .val (.ref b38), .val (.int (1 : Int32)), .val (.ref r41), .val (.ref b23)] [(.ref r41)])) rfl (by rw [hml]; rfl) (Steps.refl _) (argsL := []) (rest := []) (lenOf own_pd25 rfl) rfl (by show 2 * 0 + _ ≤ _; exact Nat.le_of_eq rfl) (hb hby at_250) (fun _ _ => ⟨rfl, e41, (by decide : 6 + 0 ≤ _), (by decide : 39 + 0 ≤ _)⟩)
          dsimp only [Pt.U, Pt.locs, Pt.cells, Pt.slots] at X42 l42 y42 z42 st42 hQ42
          subst l42 y42 z42
          obtain ⟨rfl, N42q, e42⟩ := hQ42
          have N42 := Fr.app N41 N42q
          refine own_wt (T' := T42) (g' := (mkF m 253 #[.val (.int kk), .val (.long xl), .second, .val (.long yl), .second, .val (.int (kk &&& (7 : Int32))), .val (.ref b38), .val (.int (1 : Int32)), .val (.ref r41), .val (.ref b23)] [(.ref b38)])) st42 ?_
          refine own_ww (T' := T42) (g' := (mkF m 255 #[.val (.int kk), .val (.long xl), .second, .val (.long yl), .second, .val (.int (kk &&& (7 : Int32))), .val (.ref b38), .val (.int (1 : Int32)), .val (.ref r41), .val (.ref b23)] [(.ref b38), (.ref b38)])) (fun _ k_ => XS.aload X42.here hx rfl (hb hby at_253) rfl rfl k_) ?_
          obtain ⟨cq43, kq43, q43a, q43b, q43c⟩ := isOf hZ41 e42 Se.1
          obtain ⟨_, _, ⟨T43, L43, k43, n43⟩, -, X43, ⟨Lc43, hQ43, l43, y43, z43⟩, st43⟩ := X42.virtualBack hx (y := (⟨"java/lang/String", "equals", "(Ljava/lang/Object;)Z"⟩ : MethodName)) (z := (⟨"java/lang/String", "equals", "(Ljava/lang/Object;)Z"⟩ : MethodName)) ho41 (mvT hZ41 (hw _ (List.mem_of_getElem? (i := 122) rfl))) (mvT hZ41 (hw _ (List.mem_of_getElem? (i := 123) rfl))) (notFace_of_selects (args := #[]) (mvT hZ41 (hw _ (List.mem_of_getElem? (i := 125) rfl)))) (mvT hZ41 (hw _ (List.mem_of_getElem? (i := 125) rfl))) (mvT hZ41 (hw _ (List.mem_of_getElem? (i := 124) rfl))) (by decide) (backOf (W := 0) (own_rm28 l Z a0 hw [] b38 b38  h41 n0 Z41 rfl) hZ41 (hw _ (List.mem_of_getElem? (i := 126) rfl)) (hw _ (List.mem_of_getElem? (i := 11) rfl)) (by decide) (by decide)) q43a q43c (g := (mkF m 255 #[.val (.int kk), .val (.long xl), .second, .val (.long yl), .second, .val (.int (kk &&& (7 : Int32))), .val (.ref b38), .val (.int (1 : Int32)), .val (.ref r41), .val (.ref b23)] [(.ref b38), (.ref b38)])) rfl (by rw [hml]; rfl) (Steps.refl _) (argsL := [(.ref b38)]) (rest := []) (lenOf own_pd26 rfl) rfl (by show 2 * 0 + _ ≤ _; exact Nat.le_of_eq rfl) (hb hby at_255) (fun _ _ => ⟨rfl, e42, (by decide : 6 + 0 ≤ _), (by decide : 39 + 0 ≤ _)⟩)
          dsimp only [Pt.U, Pt.locs, Pt.cells, Pt.slots] at X43 l43 y43 z43 st43 hQ43
          subst l43 y43 z43
          obtain ⟨rfl, N43q, e43⟩ := hQ43
          have N43 := Fr.app N42 N43q
          refine own_wt (T' := T43) (g' := (mkF m 258 #[.val (.int kk), .val (.long xl), .second, .val (.long yl), .second, .val (.int (kk &&& (7 : Int32))), .val (.ref b38), .val (.int (1 : Int32)), .val (.ref r41), .val (.ref b23)] [(.int (1 : Int32))])) st43 ?_
          refine own_ww (T' := T43) (g' := (mkF m 261 #[.val (.int kk), .val (.long xl), .second, .val (.long yl), .second, .val (.int (kk &&& (7 : Int32))), .val (.ref b38), .val (.int (1 : Int32)), .val (.ref r41), .val (.ref b23)] [])) (fun _ k_ => XS.ifNo X43.here hx rfl (hb hby at_258) rfl ((if0 _ _).trans (feq (by decide)).1) k_) ?_
          refine own_ww (T' := T43) (g' := (mkF m 263 #[.val (.int kk), .val (.long xl), .second, .val (.long yl), .second, .val (.int (kk &&& (7 : Int32))), .val (.ref b38), .val (.int (1 : Int32)), .val (.ref r41), .val (.ref b23)] [(.ref r41)])) (fun _ k_ => XS.aload X43.here hx rfl (hb hby at_261) rfl rfl k_) ?_
          obtain ⟨cq44, kq44, q44a, q44b, q44c⟩ := isOf hZ41 e43 Ex41
          obtain ⟨_, _, ⟨T44, L44, k44, n44⟩, -, X44, ⟨Lc44, hQ44, l44, y44, z44⟩, st44⟩ := X43.virtualBack hx (y := (⟨"com/example/adjacency/adjacency/identity/NodeName", "labelCount", "()I"⟩ : MethodName)) (z := (⟨"com/example/adjacency/adjacency/identity/NodeName", "labelCount", "()I"⟩ : MethodName)) ho41 (mvT hZ41 (hw _ (List.mem_of_getElem? (i := 127) rfl))) (mvT hZ41 (hw _ (List.mem_of_getElem? (i := 128) rfl))) (notFace_of_selects (args := #[]) (mvT hZ41 (hw _ (List.mem_of_getElem? (i := 130) rfl)))) (mvT hZ41 (hw _ (List.mem_of_getElem? (i := 130) rfl))) (mvT hZ41 (hw _ (List.mem_of_getElem? (i := 129) rfl))) (by decide) (backOf (W := 0) (own_rm29 l Z a0 hw [] r41 b38 [r24, r26, r28, r30, r32, r34, r36] cs sf h41 n0 Z41 F41 Se (show 7 < 1000 by decide) hcs Sf hsf Sg PL.1) hZ41 (hw _ (List.mem_of_getElem? (i := 131) rfl)) (hw _ (List.mem_of_getElem? (i := 40) rfl)) (by decide) (by decide)) q44a q44c (g := (mkF m 263 #[.val (.int kk), .val (.long xl), .second, .val (.long yl), .second, .val (.int (kk &&& (7 : Int32))), .val (.ref b38), .val (.int (1 : Int32)), .val (.ref r41), .val (.ref b23)] [(.ref r41)])) rfl (by rw [hml]; rfl) (Steps.refl _) (argsL := []) (rest := []) (lenOf own_pd8 rfl) rfl (by show 2 * 0 + _ ≤ _; exact Nat.le_of_eq rfl) (hb hby at_263) (fun _ _ => ⟨rfl, e43, (by decide : 6 + 0 ≤ _), (by decide : 39 + 0 ≤ _)⟩)
          dsimp only [Pt.U, Pt.locs, Pt.cells, Pt.slots] at X44 l44 y44 z44 st44 hQ44
          subst l44 y44 z44
          obtain ⟨rfl, N44q, e44⟩ := hQ44
          have N44 := Fr.app N43 N44q
          refine own_wt (T' := T44) (g' := (mkF m 266 #[.val (.int kk), .val (.long xl), .second, .val (.long yl), .second, .val (.int (kk &&& (7 : Int32))), .val (.ref b38), .val (.int (1 : Int32)), .val (.ref r41), .val (.ref b23)] [(.int (own_cl [r24, r26, r28, r30, r32, r34, r36]))])) st44 ?_
          refine own_ww (T' := T44) (g' := (mkF m 268 #[.val (.int kk), .val (.long xl), .second, .val (.long yl), .second, .val (.int (kk &&& (7 : Int32))), .val (.ref b38), .val (.int (1 : Int32)), .val (.ref r41), .val (.ref b23)] [(.int (1 : Int32)), (.int (own_cl [r24, r26, r28, r30, r32, r34, r36]))])) (fun _ k_ => XS.iload X44.here hx rfl (hb hby at_266) rfl k_) ?_
          refine own_ww (T' := T44) (g' := (mkF m 271 #[.val (.int kk), .val (.long xl), .second, .val (.long yl), .second, .val (.int (kk &&& (7 : Int32))), .val (.ref b38), .val (.int (1 : Int32)), .val (.ref r41), .val (.ref b23)] [])) (fun _ k_ => XS.icmpNo X44.here hx rfl (hb hby at_268) rfl (teq PL.2.2.1).2 k_) ?_
          refine own_ww (T' := T44) (g' := (mkF m 273 #[.val (.int kk), .val (.long xl), .second, .val (.long yl), .second, .val (.int (kk &&& (7 : Int32))), .val (.ref b38), .val (.int (1 : Int32)), .val (.ref r41), .val (.ref b23)] [(.ref r41)])) (fun _ k_ => XS.aload X44.here hx rfl (hb hby at_271) rfl rfl k_) ?_
          obtain ⟨cq45, kq45, q45a, q45b, q45c⟩ := isOf hZ41 e44 Ex41
          obtain ⟨_, _, ⟨T45, L45, k45, n45⟩, -, X45, ⟨Lc45, hQ45, l45, y45, z45⟩, st45⟩ := X44.virtualBack hx (y := (⟨"com/example/adjacency/adjacency/identity/NodeName", "isRoot", "()Z"⟩ : MethodName)) (z := (⟨"com/example/adjacency/adjacency/identity/NodeName", "isRoot", "()Z"⟩ : MethodName)) ho41 (mvT hZ41 (hw _ (List.mem_of_getElem? (i := 132) rfl))) (mvT hZ41 (hw _ (List.mem_of_getElem? (i := 133) rfl))) (notFace_of_selects (args := #[]) (mvT hZ41 (hw _ (List.mem_of_getElem? (i := 135) rfl)))) (mvT hZ41 (hw _ (List.mem_of_getElem? (i := 135) rfl))) (mvT hZ41 (hw _ (List.mem_of_getElem? (i := 134) rfl))) (by decide) (backOf (W := 0) (own_rm30 l Z a0 hw [] r41 b38 [r24, r26, r28, r30, r32, r34, r36] cs h41 n0 Z41 F41 Se (show 7 < 1000 by decide) hcs Sf) hZ41 (hw _ (List.mem_of_getElem? (i := 136) rfl)) (hw _ (List.mem_of_getElem? (i := 40) rfl)) (by decide) (by decide)) q45a q45c (g := (mkF m 273 #[.val (.int kk), .val (.long xl), .second, .val (.long yl), .second, .val (.int (kk &&& (7 : Int32))), .val (.ref b38), .val (.int (1 : Int32)), .val (.ref r41), .val (.ref b23)] [(.ref r41)])) rfl (by rw [hml]; rfl) (Steps.refl _) (argsL := []) (rest := []) (lenOf own_pd3 rfl) rfl (by show 2 * 0 + _ ≤ _; exact Nat.le_of_eq rfl) (hb hby at_273) (fun _ _ => ⟨rfl, e44, (by decide : 6 + 0 ≤ _), (by decide : 39 + 0 ≤ _)⟩)
          dsimp only [Pt.U, Pt.locs, Pt.cells, Pt.slots] at X45 l45 y45 z45 st45 hQ45
          subst l45 y45 z45
          obtain ⟨rfl, N45q, e45⟩ := hQ45
          have N45 := Fr.app N44 N45q
          refine own_wt (T' := T45) (g' := (mkF m 276 #[.val (.int kk), .val (.long xl), .second, .val (.long yl), .second, .val (.int (kk &&& (7 : Int32))), .val (.ref b38), .val (.int (1 : Int32)), .val (.ref r41), .val (.ref b23)] [(.int (if (own_io [r24, r26, r28, r30, r32, r34, r36] 0 < (0 : Int32)) then (1 : Int32) else 0))])) st45 ?_
          refine own_ww (T' := T45) (g' := (mkF m 278 #[.val (.int kk), .val (.long xl), .second, .val (.long yl), .second, .val (.int (kk &&& (7 : Int32))), .val (.ref b38), .val (.int (1 : Int32)), .val (.ref r41), .val (.ref b23)] [(.int (1 : Int32)), (.int (if (own_io [r24, r26, r28, r30, r32, r34, r36] 0 < (0 : Int32)) then (1 : Int32) else 0))])) (fun _ k_ => XS.iload X45.here hx rfl (hb hby at_276) rfl k_) ?_
          refine own_ww (T' := T45) (g' := (mkF m 279 #[.val (.int kk), .val (.long xl), .second, .val (.long yl), .second, .val (.int (kk &&& (7 : Int32))), .val (.ref b38), .val (.int (1 : Int32)), .val (.ref r41), .val (.ref b23)] [(.int (1 : Int32)), (.int (1 : Int32)), (.int (if (own_io [r24, r26, r28, r30, r32, r34, r36] 0 < (0 : Int32)) then (1 : Int32) else 0))])) (fun _ k_ => XS.iconst X45.here hx rfl (hb hby at_278) k_) ?_
          refine own_ww (T' := T45) (g' := (mkF m 282 #[.val (.int kk), .val (.long xl), .second, .val (.long yl), .second, .val (.int (kk &&& (7 : Int32))), .val (.ref b38), .val (.int (1 : Int32)), .val (.ref r41), .val (.ref b23)] [(.int (if (own_io [r24, r26, r28, r30, r32, r34, r36] 0 < (0 : Int32)) then (1 : Int32) else 0))])) (fun _ k_ => XS.icmpNo X45.here hx rfl (hb hby at_279) rfl (teq (by decide)).2 k_) ?_
          refine own_ww (T' := T45) (g' := (mkF m 283 #[.val (.int kk), .val (.long xl), .second, .val (.long yl), .second, .val (.int (kk &&& (7 : Int32))), .val (.ref b38), .val (.int (1 : Int32)), .val (.ref r41), .val (.ref b23)] [(.int (1 : Int32)), (.int (if (own_io [r24, r26, r28, r30, r32, r34, r36] 0 < (0 : Int32)) then (1 : Int32) else 0))])) (fun _ k_ => XS.iconst X45.here hx rfl (hb hby at_282) k_) ?_
          refine own_ww (T' := T45) (g' := (mkF m 287 #[.val (.int kk), .val (.long xl), .second, .val (.long yl), .second, .val (.int (kk &&& (7 : Int32))), .val (.ref b38), .val (.int (1 : Int32)), .val (.ref r41), .val (.ref b23)] [(.int (1 : Int32)), (.int (if (own_io [r24, r26, r28, r30, r32, r34, r36] 0 < (0 : Int32)) then (1 : Int32) else 0))])) (fun _ k_ => XS.goto X45.here hx rfl (pc0 := 283) (pc' := 287) rfl (hb hby at_283) (by decide) (by decide) k_) ?_
          refine own_ww (T' := T45) (g' := (mkF m 290 #[.val (.int kk), .val (.long xl), .second, .val (.long yl), .second, .val (.int (kk &&& (7 : Int32))), .val (.ref b38), .val (.int (1 : Int32)), .val (.ref r41), .val (.ref b23)] [])) (fun _ k_ => XS.icmpNo X45.here hx rfl (hb hby at_287) rfl (teq (if_pos hro)).2 k_) ?_
          refine own_ww (T' := T45) (g' := (mkF m 291 #[.val (.int kk), .val (.long xl), .second, .val (.long yl), .second, .val (.int (kk &&& (7 : Int32))), .val (.ref b38), .val (.int (1 : Int32)), .val (.ref r41), .val (.ref b23)] [(.int (1 : Int32))])) (fun _ k_ => XS.iconst X45.here hx rfl (hb hby at_290) k_) ?_
          refine own_ww (T' := T45) (g' := (mkF m 295 #[.val (.int kk), .val (.long xl), .second, .val (.long yl), .second, .val (.int (kk &&& (7 : Int32))), .val (.ref b38), .val (.int (1 : Int32)), .val (.ref r41), .val (.ref b23)] [(.int (1 : Int32))])) (fun _ k_ => XS.goto X45.here hx rfl (pc0 := 291) (pc' := 295) rfl (hb hby at_291) (by decide) (by decide) k_) ?_
          obtain ⟨fs, hr, hrun, hended, hRE⟩ := X45.leaveW (own_since hS41 CS41.2.1) (by rw [e45]; exact Nat.le_refl _) (v := some (.int (1 : Int32))) (fun h => by rw [Bd.returns] at h; cases h)
          exact ⟨_, _, retOut X45 hx Bd.returns rfl (Or.inl ⟨rfl, Or.inr (Or.inl rfl), _, rfl⟩) (hb hby at_295) hr, hrun, hended, _, _, rfl, (by show own_Q0 Z kk xl yl cs sf h0 n0 _ T45.heap _; rw [e45]; exact ⟨rfl, N45⟩), (by show CHr Z own_EL s.vm s.heap T45.vm T45.heap; rw [e45, hh]; exact (CB41.trans CS41).trans (CHv.at X45 hZ41 (own_EW hw) CS41.1)), own_rmono hRE (by decide) (by decide)⟩
        · refine own_ww (T' := s₁) (g' := (mkF m 75 #[.val (.int kk), .val (.long xl), .second, .val (.long yl), .second, .val (.int (kk &&& (7 : Int32))), .unset, .unset, .unset, .unset] [])) (fun _ k_ => XS.ifYes X0.here hx rfl (pc0 := 63) (pc' := 75) rfl (hb hby at_63) rfl ((if0 _ _).trans (feq hc63).2) (by decide) (by decide) k_) ?_
          refine own_ww (T' := s₁) (g' := (mkF m 77 #[.val (.int kk), .val (.long xl), .second, .val (.long yl), .second, .val (.int (kk &&& (7 : Int32))), .unset, .unset, .unset, .unset] [(.int (kk &&& (7 : Int32)))])) (fun _ k_ => XS.iload X0.here hx rfl (hb hby at_75) rfl k_) ?_
          refine own_ww (T' := s₁) (g' := (mkF m 78 #[.val (.int kk), .val (.long xl), .second, .val (.long yl), .second, .val (.int (kk &&& (7 : Int32))), .unset, .unset, .unset, .unset] [(.int (1 : Int32)), (.int (kk &&& (7 : Int32)))])) (fun _ k_ => XS.iconst X0.here hx rfl (hb hby at_77) k_) ?_
          by_cases hc78 : (kk &&& (7 : Int32)) = (1 : Int32)
          · refine own_ww (T' := s₁) (g' := (mkF m 81 #[.val (.int kk), .val (.long xl), .second, .val (.long yl), .second, .val (.int (kk &&& (7 : Int32))), .unset, .unset, .unset, .unset] [])) (fun _ k_ => XS.icmpNo X0.here hx rfl (hb hby at_78) rfl (teq hc78).2 k_) ?_
            refine own_ww (T' := s₁) (g' := (mkF m 83 #[.val (.int kk), .val (.long xl), .second, .val (.long yl), .second, .val (.int (kk &&& (7 : Int32))), .unset, .unset, .unset, .unset] [(.int (8 : Int32))])) (fun _ k_ => XS.bipush X0.here hx rfl (hb hby at_81) k_) ?_
            refine own_ww (T' := s₁) (g' := (mkF m 85 #[.val (.int kk), .val (.long xl), .second, .val (.long yl), .second, .val (.int (kk &&& (7 : Int32))), .unset, .unset, .val (.int (8 : Int32)), .unset] [])) (fun _ k_ => XS.istore X0.here hx rfl (hb hby at_83) rfl (l' := #[.val (.int kk), .val (.long xl), .second, .val (.long yl), .second, .val (.int (kk &&& (7 : Int32))), .unset, .unset, .val (.int (8 : Int32)), .unset]) rfl k_) ?_
            refine own_ww (T' := s₁) (g' := (mkF m 86 #[.val (.int kk), .val (.long xl), .second, .val (.long yl), .second, .val (.int (kk &&& (7 : Int32))), .unset, .unset, .val (.int (8 : Int32)), .unset] [(.int (2 : Int32))])) (fun _ k_ => XS.iconst X0.here hx rfl (hb hby at_85) k_) ?_
            refine own_ww (T' := s₁) (g' := (mkF m 88 #[.val (.int kk), .val (.long xl), .second, .val (.long yl), .second, .val (.int (kk &&& (7 : Int32))), .unset, .val (.int (2 : Int32)), .val (.int (8 : Int32)), .unset] [])) (fun _ k_ => XS.istore X0.here hx rfl (hb hby at_86) rfl (l' := #[.val (.int kk), .val (.long xl), .second, .val (.long yl), .second, .val (.int (kk &&& (7 : Int32))), .unset, .val (.int (2 : Int32)), .val (.int (8 : Int32)), .unset]) rfl k_) ?_
            refine own_ww (T' := s₁) (g' := (mkF m 130 #[.val (.int kk), .val (.long xl), .second, .val (.long yl), .second, .val (.int (kk &&& (7 : Int32))), .unset, .val (.int (2 : Int32)), .val (.int (8 : Int32)), .unset] [])) (fun _ k_ => XS.goto X0.here hx rfl (pc0 := 88) (pc' := 130) rfl (hb hby at_88) (by decide) (by decide) k_) ?_
            refine own_ww (T' := s₁) (g' := (mkF m 132 #[.val (.int kk), .val (.long xl), .second, .val (.long yl), .second, .val (.int (kk &&& (7 : Int32))), .unset, .val (.int (2 : Int32)), .val (.int (8 : Int32)), .unset] [(.int (7 : Int32))])) (fun _ k_ => XS.bipush X0.here hx rfl (hb hby at_130) k_) ?_
            obtain ⟨T46, h46, k46, X46, e46, E46, A46, st46⟩ := newP X0 hx hZ (hw _ (List.mem_of_getElem? (i := 0) rfl)) e0 (g := (mkF m 132 #[.val (.int kk), .val (.long xl), .second, .val (.long yl), .second, .val (.int (kk &&& (7 : Int32))), .unset, .val (.int (2 : Int32)), .val (.int (8 : Int32)), .unset] [(.int (7 : Int32))])) rfl (hb hby at_132) rfl (by decide) (cap := 7) (by decide) (by decide) (by decide) (by decide)
            obtain ⟨b46, gq46⟩ : ∃ z, z = h0.size := ⟨_, rfl⟩
            rw [← gq46] at A46 st46
            have V_b46 := own_Ar_new A46 rfl (k := 7) rfl
            have g_b46 : n0 ≤ b46 := Nat.le_trans Z0 (Nat.le_of_eq gq46.symm)
            have Z46 : n0 ≤ h46.size := Nat.le_trans Z0 E46.1
            have CS46 : CHr Z own_EL s.vm h0 s.vm h46 := CB0.trans (CHr.ext E46 CB0.1)
            have sf46_b46 : Safe Z own_EL s.vm h46 b46 := Safe.ext E46 CB0.1 (Safe.new (Nat.le_of_eq gq46.symm))
            refine own_ww (T' := T46) (g' := (mkF m 134 #[.val (.int kk), .val (.long xl), .second, .val (.long yl), .second, .val (.int (kk &&& (7 : Int32))), .unset, .val (.int (2 : Int32)), .val (.int (8 : Int32)), .unset] [(.ref b46)])) st46 ?_
            have KK : Keep h0 h46 [] := (Keep.refl h0 []).ext E46
            refine own_ww (T' := T46) (g' := (mkF m 136 #[.val (.int kk), .val (.long xl), .second, .val (.long yl), .second, .val (.int (kk &&& (7 : Int32))), .unset, .val (.int (2 : Int32)), .val (.int (8 : Int32)), .val (.ref b46)] [])) (fun _ k_ => XS.astore X46.here hx rfl (hb hby at_134) rfl rfl (l' := #[.val (.int kk), .val (.long xl), .second, .val (.long yl), .second, .val (.int (kk &&& (7 : Int32))), .unset, .val (.int (2 : Int32)), .val (.int (8 : Int32)), .val (.ref b46)]) rfl k_) ?_
            refine own_ww (T' := T46) (g' := (mkF m 138 #[.val (.int kk), .val (.long xl), .second, .val (.long yl), .second, .val (.int (kk &&& (7 : Int32))), .unset, .val (.int (2 : Int32)), .val (.int (8 : Int32)), .val (.ref b46)] [(.ref b46)])) (fun _ k_ => XS.aload X46.here hx rfl (hb hby at_136) rfl rfl k_) ?_
            refine own_ww (T' := T46) (g' := (mkF m 139 #[.val (.int kk), .val (.long xl), .second, .val (.long yl), .second, .val (.int (kk &&& (7 : Int32))), .unset, .val (.int (2 : Int32)), .val (.int (8 : Int32)), .val (.ref b46)] [(.int (0 : Int32)), (.ref b46)])) (fun _ k_ => XS.iconst X46.here hx rfl (hb hby at_138) k_) ?_
            refine own_ww (T' := T46) (g' := (mkF m 141 #[.val (.int kk), .val (.long xl), .second, .val (.long yl), .second, .val (.int (kk &&& (7 : Int32))), .unset, .val (.int (2 : Int32)), .val (.int (8 : Int32)), .val (.ref b46)] [(.int (8 : Int32)), (.int (0 : Int32)), (.ref b46)])) (fun _ k_ => XS.iload X46.here hx rfl (hb hby at_139) rfl k_) ?_
            refine own_ww (T' := T46) (g' := (mkF m 142 #[.val (.int kk), .val (.long xl), .second, .val (.long yl), .second, .val (.int (kk &&& (7 : Int32))), .unset, .val (.int (2 : Int32)), .val (.int (8 : Int32)), .val (.ref b46)] [(.int (0 : Int32)), (.int (8 : Int32)), (.int (0 : Int32)), (.ref b46)])) (fun _ k_ => XS.iconst X46.here hx rfl (hb hby at_141) k_) ?_
            refine own_ww (T' := T46) (g' := (mkF m 143 #[.val (.int kk), .val (.long xl), .second, .val (.long yl), .second, .val (.int (kk &&& (7 : Int32))), .unset, .val (.int (2 : Int32)), .val (.int (8 : Int32)), .val (.ref b46)] [(.long xl), (.int (0 : Int32)), (.int (8 : Int32)), (.int (0 : Int32)), (.ref b46)])) (fun _ k_ => XS.lloadN X46.here hx rfl (hb hby at_142) rfl k_) ?_
            obtain ⟨_, _, ⟨T47, L47, k47, n47⟩, -, X47, ⟨Lc47, hQ47, l47, y47, z47⟩, st47⟩ := Jvm.LawKit.callS X46 hx (y := (⟨"com/example/adjacency/adjacency/identity/NodeNameParsePinLaw", "pos", "(IIJ)C"⟩ : MethodName)) hown (mvT hZ (hw _ (List.mem_of_getElem? (i := 1) rfl))) (mvT hZ (hw _ (List.mem_of_getElem? (i := 2) rfl))) (mvT hZ (hw _ (List.mem_of_getElem? (i := 3) rfl))) (mvT hZ (hw _ (List.mem_of_getElem? (i := 4) rfl))) (by decide) (backOf (W := 2) (own_rm1_c l Z a0 hw [] (8 : Int32) (0 : Int32) xl  h46 n0 Z46 (by decide)) hZ (hw _ (List.mem_of_getElem? (i := 4) rfl)) (hw _ (List.mem_of_getElem? (i := 3) rfl)) (by decide) (by decide)) (g := (mkF m 143 #[.val (.int kk), .val (.long xl), .second, .val (.long yl), .second, .val (.int (kk &&& (7 : Int32))), .unset, .val (.int (2 : Int32)), .val (.int (8 : Int32)), .val (.ref b46)] [(.long xl), (.int (0 : Int32)), (.int (8 : Int32)), (.int (0 : Int32)), (.ref b46)])) rfl (by rw [hml]; rfl) (argsL := [(.int (8 : Int32)), (.int (0 : Int32)), (.long xl)]) (rest := [(.int (0 : Int32)), (.ref b46)]) (lenOf own_pd27 rfl) rfl (by show 2 * 0 + _ ≤ _; exact Nat.le_of_eq rfl) (hb hby at_143) (fun _ _ => ⟨rfl, e46, (by decide : 1 + 0 ≤ _), (by decide : 7 + 0 ≤ _)⟩)
            dsimp only [Pt.U, Pt.locs, Pt.cells, Pt.slots] at X47 l47 y47 z47 st47 hQ47
            subst l47 y47 z47
            obtain ⟨r47, rfl, N47q, e47, ok47, nh47⟩ := hQ47
            have N47 := Fr.app N0 N47q
            refine own_ww (T' := T47) (g' := (mkF m 146 #[.val (.int kk), .val (.long xl), .second, .val (.long yl), .second, .val (.int (kk &&& (7 : Int32))), .unset, .val (.int (2 : Int32)), .val (.int (8 : Int32)), .val (.ref b46)] [(.int r47), (.int (0 : Int32)), (.ref b46)])) st47 ?_
            obtain ⟨cl48, Ar48, hs48⟩ := id V_b46
            obtain ⟨T48, h48, X48, e48, W48, st48⟩ := stC X47 hx hZ e47 Ar48 (j := (0 : Int32)) (own_Ar_in (i := 0) hs48 (by decide) (by simp)) (g := (mkF m 146 #[.val (.int kk), .val (.long xl), .second, .val (.long yl), .second, .val (.int (kk &&& (7 : Int32))), .unset, .val (.int (2 : Int32)), .val (.int (8 : Int32)), .val (.ref b46)] [(.int r47), (.int (0 : Int32)), (.ref b46)])) rfl rfl (hb hby at_146)
            have V48 := own_Ar_set (i := 0) (v := r47) V_b46 W48 (by decide) (own_i2c_small (own_ok128 ok47).1 (Int.lt_trans (own_ok128 ok47).2 (by decide)))
            have N48 := Fr.snoc X48 N47 g_b46
            have Z48 : n0 ≤ h48.size := Nat.le_trans Z46 (Keep.of_wr W48).1
            have CS48 : CHr Z own_EL s.vm h0 s.vm h48 := CS46.trans (CHr.wr W48 sf46_b46 CS46.1)
            have sf48_b46 := Safe.wr W48 sf46_b46 CS46.1 sf46_b46
            refine own_ww (T' := T48) (g' := (mkF m 147 #[.val (.int kk), .val (.long xl), .second, .val (.long yl), .second, .val (.int (kk &&& (7 : Int32))), .unset, .val (.int (2 : Int32)), .val (.int (8 : Int32)), .val (.ref b46)] [])) st48 ?_
            have K48 := KK.wr W48 (Or.inr (Nat.le_of_eq gq46.symm))
            refine own_ww (T' := T48) (g' := (mkF m 149 #[.val (.int kk), .val (.long xl), .second, .val (.long yl), .second, .val (.int (kk &&& (7 : Int32))), .unset, .val (.int (2 : Int32)), .val (.int (8 : Int32)), .val (.ref b46)] [(.ref b46)])) (fun _ k_ => XS.aload X48.here hx rfl (hb hby at_147) rfl rfl k_) ?_
            refine own_ww (T' := T48) (g' := (mkF m 150 #[.val (.int kk), .val (.long xl), .second, .val (.long yl), .second, .val (.int (kk &&& (7 : Int32))), .unset, .val (.int (2 : Int32)), .val (.int (8 : Int32)), .val (.ref b46)] [(.int (1 : Int32)), (.ref b46)])) (fun _ k_ => XS.iconst X48.here hx rfl (hb hby at_149) k_) ?_
            refine own_ww (T' := T48) (g' := (mkF m 152 #[.val (.int kk), .val (.long xl), .second, .val (.long yl), .second, .val (.int (kk &&& (7 : Int32))), .unset, .val (.int (2 : Int32)), .val (.int (8 : Int32)), .val (.ref b46)] [(.int (8 : Int32)), (.int (1 : Int32)), (.ref b46)])) (fun _ k_ => XS.iload X48.here hx rfl (hb hby at_150) rfl k_) ?_
            refine own_ww (T' := T48) (g' := (mkF m 153 #[.val (.int kk), .val (.long xl), .second, .val (.long yl), .second, .val (.int (kk &&& (7 : Int32))), .unset, .val (.int (2 : Int32)), .val (.int (8 : Int32)), .val (.ref b46)] [(.int (1 : Int32)), (.int (8 : Int32)), (.int (1 : Int32)), (.ref b46)])) (fun _ k_ => XS.iconst X48.here hx rfl (hb hby at_152) k_) ?_
            refine own_ww (T' := T48) (g' := (mkF m 154 #[.val (.int kk), .val (.long xl), .second, .val (.long yl), .second, .val (.int (kk &&& (7 : Int32))), .unset, .val (.int (2 : Int32)), .val (.int (8 : Int32)), .val (.ref b46)] [(.long xl), (.int (1 : Int32)), (.int (8 : Int32)), (.int (1 : Int32)), (.ref b46)])) (fun _ k_ => XS.lloadN X48.here hx rfl (hb hby at_153) rfl k_) ?_
            refine own_ww (T' := T48) (g' := (mkF m 156 #[.val (.int kk), .val (.long xl), .second, .val (.long yl), .second, .val (.int (kk &&& (7 : Int32))), .unset, .val (.int (2 : Int32)), .val (.int (8 : Int32)), .val (.ref b46)] [(.int (21 : Int32)), (.long xl), (.int (1 : Int32)), (.int (8 : Int32)), (.int (1 : Int32)), (.ref b46)])) (fun _ k_ => XS.bipush X48.here hx rfl (hb hby at_154) k_) ?_
            refine own_ww (T' := T48) (g' := (mkF m 157 #[.val (.int kk), .val (.long xl), .second, .val (.long yl), .second, .val (.int (kk &&& (7 : Int32))), .unset, .val (.int (2 : Int32)), .val (.int (8 : Int32)), .val (.ref b46)] [(.long ((xl.toUInt64 >>> ((21 : Int32) &&& 0x3f).toInt64.toUInt64).toInt64)), (.int (1 : Int32)), (.int (8 : Int32)), (.int (1 : Int32)), (.ref b46)])) (fun _ k_ => XS.lushr X48.here hx rfl (hb hby at_156) rfl k_) ?_
            obtain ⟨_, _, ⟨T49, L49, k49, n49⟩, -, X49, ⟨Lc49, hQ49, l49, y49, z49⟩, st49⟩ := Jvm.LawKit.callS X48 hx (y := (⟨"com/example/adjacency/adjacency/identity/NodeNameParsePinLaw", "pos", "(IIJ)C"⟩ : MethodName)) hown (mvT hZ (hw _ (List.mem_of_getElem? (i := 1) rfl))) (mvT hZ (hw _ (List.mem_of_getElem? (i := 2) rfl))) (mvT hZ (hw _ (List.mem_of_getElem? (i := 3) rfl))) (mvT hZ (hw _ (List.mem_of_getElem? (i := 4) rfl))) (by decide) (backOf (W := 2) (own_rm1_c l Z a0 hw [] (8 : Int32) (1 : Int32) ((xl.toUInt64 >>> ((21 : Int32) &&& 0x3f).toInt64.toUInt64).toInt64)  h48 n0 Z48 (by decide)) hZ (hw _ (List.mem_of_getElem? (i := 4) rfl)) (hw _ (List.mem_of_getElem? (i := 3) rfl)) (by decide) (by decide)) (g := (mkF m 157 #[.val (.int kk), .val (.long xl), .second, .val (.long yl), .second, .val (.int (kk &&& (7 : Int32))), .unset, .val (.int (2 : Int32)), .val (.int (8 : Int32)), .val (.ref b46)] [(.long ((xl.toUInt64 >>> ((21 : Int32) &&& 0x3f).toInt64.toUInt64).toInt64)), (.int (1 : Int32)), (.int (8 : Int32)), (.int (1 : Int32)), (.ref b46)])) rfl (by rw [hml]; rfl) (argsL := [(.int (8 : Int32)), (.int (1 : Int32)), (.long ((xl.toUInt64 >>> ((21 : Int32) &&& 0x3f).toInt64.toUInt64).toInt64))]) (rest := [(.int (1 : Int32)), (.ref b46)]) (lenOf own_pd27 rfl) rfl (by show 2 * 0 + _ ≤ _; exact Nat.le_of_eq rfl) (hb hby at_157) (fun _ _ => ⟨rfl, e48, (by decide : 1 + 0 ≤ _), (by decide : 7 + 0 ≤ _)⟩)
            dsimp only [Pt.U, Pt.locs, Pt.cells, Pt.slots] at X49 l49 y49 z49 st49 hQ49
            subst l49 y49 z49
            obtain ⟨r49, rfl, N49q, e49, ok49, nh49⟩ := hQ49
            have N49 := Fr.app N48 N49q
            refine own_ww (T' := T49) (g' := (mkF m 160 #[.val (.int kk), .val (.long xl), .second, .val (.long yl), .second, .val (.int (kk &&& (7 : Int32))), .unset, .val (.int (2 : Int32)), .val (.int (8 : Int32)), .val (.ref b46)] [(.int r49), (.int (1 : Int32)), (.ref b46)])) st49 ?_
            obtain ⟨cl50, Ar50, hs50⟩ := id V48
            obtain ⟨T50, h50, X50, e50, W50, st50⟩ := stC X49 hx hZ e49 Ar50 (j := (1 : Int32)) (own_Ar_in (i := 1) hs50 (by decide) (by simp)) (g := (mkF m 160 #[.val (.int kk), .val (.long xl), .second, .val (.long yl), .second, .val (.int (kk &&& (7 : Int32))), .unset, .val (.int (2 : Int32)), .val (.int (8 : Int32)), .val (.ref b46)] [(.int r49), (.int (1 : Int32)), (.ref b46)])) rfl rfl (hb hby at_160)
            have V50 := own_Ar_set (i := 1) (v := r49) V48 W50 (by decide) (own_i2c_small (own_ok128 ok49).1 (Int.lt_trans (own_ok128 ok49).2 (by decide)))
            have N50 := Fr.snoc X50 N49 g_b46
            have Z50 : n0 ≤ h50.size := Nat.le_trans Z48 (Keep.of_wr W50).1
            have CS50 : CHr Z own_EL s.vm h0 s.vm h50 := CS48.trans (CHr.wr W50 sf48_b46 CS48.1)
            have sf50_b46 := Safe.wr W50 sf48_b46 CS48.1 sf48_b46
            refine own_ww (T' := T50) (g' := (mkF m 161 #[.val (.int kk), .val (.long xl), .second, .val (.long yl), .second, .val (.int (kk &&& (7 : Int32))), .unset, .val (.int (2 : Int32)), .val (.int (8 : Int32)), .val (.ref b46)] [])) st50 ?_
            have K50 := K48.wr W50 (Or.inr (Nat.le_of_eq gq46.symm))
            refine own_ww (T' := T50) (g' := (mkF m 163 #[.val (.int kk), .val (.long xl), .second, .val (.long yl), .second, .val (.int (kk &&& (7 : Int32))), .unset, .val (.int (2 : Int32)), .val (.int (8 : Int32)), .val (.ref b46)] [(.ref b46)])) (fun _ k_ => XS.aload X50.here hx rfl (hb hby at_161) rfl rfl k_) ?_
            refine own_ww (T' := T50) (g' := (mkF m 164 #[.val (.int kk), .val (.long xl), .second, .val (.long yl), .second, .val (.int (kk &&& (7 : Int32))), .unset, .val (.int (2 : Int32)), .val (.int (8 : Int32)), .val (.ref b46)] [(.int (2 : Int32)), (.ref b46)])) (fun _ k_ => XS.iconst X50.here hx rfl (hb hby at_163) k_) ?_
            refine own_ww (T' := T50) (g' := (mkF m 166 #[.val (.int kk), .val (.long xl), .second, .val (.long yl), .second, .val (.int (kk &&& (7 : Int32))), .unset, .val (.int (2 : Int32)), .val (.int (8 : Int32)), .val (.ref b46)] [(.int (8 : Int32)), (.int (2 : Int32)), (.ref b46)])) (fun _ k_ => XS.iload X50.here hx rfl (hb hby at_164) rfl k_) ?_
            refine own_ww (T' := T50) (g' := (mkF m 167 #[.val (.int kk), .val (.long xl), .second, .val (.long yl), .second, .val (.int (kk &&& (7 : Int32))), .unset, .val (.int (2 : Int32)), .val (.int (8 : Int32)), .val (.ref b46)] [(.int (2 : Int32)), (.int (8 : Int32)), (.int (2 : Int32)), (.ref b46)])) (fun _ k_ => XS.iconst X50.here hx rfl (hb hby at_166) k_) ?_
            refine own_ww (T' := T50) (g' := (mkF m 168 #[.val (.int kk), .val (.long xl), .second, .val (.long yl), .second, .val (.int (kk &&& (7 : Int32))), .unset, .val (.int (2 : Int32)), .val (.int (8 : Int32)), .val (.ref b46)] [(.long xl), (.int (2 : Int32)), (.int (8 : Int32)), (.int (2 : Int32)), (.ref b46)])) (fun _ k_ => XS.lloadN X50.here hx rfl (hb hby at_167) rfl k_) ?_
            refine own_ww (T' := T50) (g' := (mkF m 170 #[.val (.int kk), .val (.long xl), .second, .val (.long yl), .second, .val (.int (kk &&& (7 : Int32))), .unset, .val (.int (2 : Int32)), .val (.int (8 : Int32)), .val (.ref b46)] [(.int (42 : Int32)), (.long xl), (.int (2 : Int32)), (.int (8 : Int32)), (.int (2 : Int32)), (.ref b46)])) (fun _ k_ => XS.bipush X50.here hx rfl (hb hby at_168) k_) ?_
            refine own_ww (T' := T50) (g' := (mkF m 171 #[.val (.int kk), .val (.long xl), .second, .val (.long yl), .second, .val (.int (kk &&& (7 : Int32))), .unset, .val (.int (2 : Int32)), .val (.int (8 : Int32)), .val (.ref b46)] [(.long ((xl.toUInt64 >>> ((42 : Int32) &&& 0x3f).toInt64.toUInt64).toInt64)), (.int (2 : Int32)), (.int (8 : Int32)), (.int (2 : Int32)), (.ref b46)])) (fun _ k_ => XS.lushr X50.here hx rfl (hb hby at_170) rfl k_) ?_
            obtain ⟨_, _, ⟨T51, L51, k51, n51⟩, -, X51, ⟨Lc51, hQ51, l51, y51, z51⟩, st51⟩ := Jvm.LawKit.callS X50 hx (y := (⟨"com/example/adjacency/adjacency/identity/NodeNameParsePinLaw", "pos", "(IIJ)C"⟩ : MethodName)) hown (mvT hZ (hw _ (List.mem_of_getElem? (i := 1) rfl))) (mvT hZ (hw _ (List.mem_of_getElem? (i := 2) rfl))) (mvT hZ (hw _ (List.mem_of_getElem? (i := 3) rfl))) (mvT hZ (hw _ (List.mem_of_getElem? (i := 4) rfl))) (by decide) (backOf (W := 2) (own_rm1_c l Z a0 hw [] (8 : Int32) (2 : Int32) ((xl.toUInt64 >>> ((42 : Int32) &&& 0x3f).toInt64.toUInt64).toInt64)  h50 n0 Z50 (by decide)) hZ (hw _ (List.mem_of_getElem? (i := 4) rfl)) (hw _ (List.mem_of_getElem? (i := 3) rfl)) (by decide) (by decide)) (g := (mkF m 171 #[.val (.int kk), .val (.long xl), .second, .val (.long yl), .second, .val (.int (kk &&& (7 : Int32))), .unset, .val (.int (2 : Int32)), .val (.int (8 : Int32)), .val (.ref b46)] [(.long ((xl.toUInt64 >>> ((42 : Int32) &&& 0x3f).toInt64.toUInt64).toInt64)), (.int (2 : Int32)), (.int (8 : Int32)), (.int (2 : Int32)), (.ref b46)])) rfl (by rw [hml]; rfl) (argsL := [(.int (8 : Int32)), (.int (2 : Int32)), (.long ((xl.toUInt64 >>> ((42 : Int32) &&& 0x3f).toInt64.toUInt64).toInt64))]) (rest := [(.int (2 : Int32)), (.ref b46)]) (lenOf own_pd27 rfl) rfl (by show 2 * 0 + _ ≤ _; exact Nat.le_of_eq rfl) (hb hby at_171) (fun _ _ => ⟨rfl, e50, (by decide : 1 + 0 ≤ _), (by decide : 7 + 0 ≤ _)⟩)
            dsimp only [Pt.U, Pt.locs, Pt.cells, Pt.slots] at X51 l51 y51 z51 st51 hQ51
            subst l51 y51 z51
            obtain ⟨r51, rfl, N51q, e51, ok51, nh51⟩ := hQ51
            have N51 := Fr.app N50 N51q
            refine own_ww (T' := T51) (g' := (mkF m 174 #[.val (.int kk), .val (.long xl), .second, .val (.long yl), .second, .val (.int (kk &&& (7 : Int32))), .unset, .val (.int (2 : Int32)), .val (.int (8 : Int32)), .val (.ref b46)] [(.int r51), (.int (2 : Int32)), (.ref b46)])) st51 ?_
            obtain ⟨cl52, Ar52, hs52⟩ := id V50
            obtain ⟨T52, h52, X52, e52, W52, st52⟩ := stC X51 hx hZ e51 Ar52 (j := (2 : Int32)) (own_Ar_in (i := 2) hs52 (by decide) (by simp)) (g := (mkF m 174 #[.val (.int kk), .val (.long xl), .second, .val (.long yl), .second, .val (.int (kk &&& (7 : Int32))), .unset, .val (.int (2 : Int32)), .val (.int (8 : Int32)), .val (.ref b46)] [(.int r51), (.int (2 : Int32)), (.ref b46)])) rfl rfl (hb hby at_174)
            have V52 := own_Ar_set (i := 2) (v := r51) V50 W52 (by decide) (own_i2c_small (own_ok128 ok51).1 (Int.lt_trans (own_ok128 ok51).2 (by decide)))
            have N52 := Fr.snoc X52 N51 g_b46
            have Z52 : n0 ≤ h52.size := Nat.le_trans Z50 (Keep.of_wr W52).1
            have CS52 : CHr Z own_EL s.vm h0 s.vm h52 := CS50.trans (CHr.wr W52 sf50_b46 CS50.1)
            have sf52_b46 := Safe.wr W52 sf50_b46 CS50.1 sf50_b46
            refine own_ww (T' := T52) (g' := (mkF m 175 #[.val (.int kk), .val (.long xl), .second, .val (.long yl), .second, .val (.int (kk &&& (7 : Int32))), .unset, .val (.int (2 : Int32)), .val (.int (8 : Int32)), .val (.ref b46)] [])) st52 ?_
            have K52 := K50.wr W52 (Or.inr (Nat.le_of_eq gq46.symm))
            refine own_ww (T' := T52) (g' := (mkF m 177 #[.val (.int kk), .val (.long xl), .second, .val (.long yl), .second, .val (.int (kk &&& (7 : Int32))), .unset, .val (.int (2 : Int32)), .val (.int (8 : Int32)), .val (.ref b46)] [(.ref b46)])) (fun _ k_ => XS.aload X52.here hx rfl (hb hby at_175) rfl rfl k_) ?_
            refine own_ww (T' := T52) (g' := (mkF m 178 #[.val (.int kk), .val (.long xl), .second, .val (.long yl), .second, .val (.int (kk &&& (7 : Int32))), .unset, .val (.int (2 : Int32)), .val (.int (8 : Int32)), .val (.ref b46)] [(.int (3 : Int32)), (.ref b46)])) (fun _ k_ => XS.iconst X52.here hx rfl (hb hby at_177) k_) ?_
            refine own_ww (T' := T52) (g' := (mkF m 180 #[.val (.int kk), .val (.long xl), .second, .val (.long yl), .second, .val (.int (kk &&& (7 : Int32))), .unset, .val (.int (2 : Int32)), .val (.int (8 : Int32)), .val (.ref b46)] [(.int (8 : Int32)), (.int (3 : Int32)), (.ref b46)])) (fun _ k_ => XS.iload X52.here hx rfl (hb hby at_178) rfl k_) ?_
            refine own_ww (T' := T52) (g' := (mkF m 181 #[.val (.int kk), .val (.long xl), .second, .val (.long yl), .second, .val (.int (kk &&& (7 : Int32))), .unset, .val (.int (2 : Int32)), .val (.int (8 : Int32)), .val (.ref b46)] [(.int (3 : Int32)), (.int (8 : Int32)), (.int (3 : Int32)), (.ref b46)])) (fun _ k_ => XS.iconst X52.here hx rfl (hb hby at_180) k_) ?_
            refine own_ww (T' := T52) (g' := (mkF m 182 #[.val (.int kk), .val (.long xl), .second, .val (.long yl), .second, .val (.int (kk &&& (7 : Int32))), .unset, .val (.int (2 : Int32)), .val (.int (8 : Int32)), .val (.ref b46)] [(.long yl), (.int (3 : Int32)), (.int (8 : Int32)), (.int (3 : Int32)), (.ref b46)])) (fun _ k_ => XS.lloadN X52.here hx rfl (hb hby at_181) rfl k_) ?_
            obtain ⟨_, _, ⟨T53, L53, k53, n53⟩, -, X53, ⟨Lc53, hQ53, l53, y53, z53⟩, st53⟩ := Jvm.LawKit.callS X52 hx (y := (⟨"com/example/adjacency/adjacency/identity/NodeNameParsePinLaw", "pos", "(IIJ)C"⟩ : MethodName)) hown (mvT hZ (hw _ (List.mem_of_getElem? (i := 1) rfl))) (mvT hZ (hw _ (List.mem_of_getElem? (i := 2) rfl))) (mvT hZ (hw _ (List.mem_of_getElem? (i := 3) rfl))) (mvT hZ (hw _ (List.mem_of_getElem? (i := 4) rfl))) (by decide) (backOf (W := 2) (own_rm1_d l Z a0 hw [] (8 : Int32) (3 : Int32) yl  h52 n0 Z52 (by decide)) hZ (hw _ (List.mem_of_getElem? (i := 4) rfl)) (hw _ (List.mem_of_getElem? (i := 3) rfl)) (by decide) (by decide)) (g := (mkF m 182 #[.val (.int kk), .val (.long xl), .second, .val (.long yl), .second, .val (.int (kk &&& (7 : Int32))), .unset, .val (.int (2 : Int32)), .val (.int (8 : Int32)), .val (.ref b46)] [(.long yl), (.int (3 : Int32)), (.int (8 : Int32)), (.int (3 : Int32)), (.ref b46)])) rfl (by rw [hml]; rfl) (argsL := [(.int (8 : Int32)), (.int (3 : Int32)), (.long yl)]) (rest := [(.int (3 : Int32)), (.ref b46)]) (lenOf own_pd27 rfl) rfl (by show 2 * 0 + _ ≤ _; exact Nat.le_of_eq rfl) (hb hby at_182) (fun _ _ => ⟨rfl, e52, (by decide : 1 + 0 ≤ _), (by decide : 7 + 0 ≤ _)⟩)
            dsimp only [Pt.U, Pt.locs, Pt.cells, Pt.slots] at X53 l53 y53 z53 st53 hQ53
            subst l53 y53 z53
            obtain ⟨rfl, N53q, e53⟩ := hQ53
            have N53 := Fr.app N52 N53q
            refine own_ww (T' := T53) (g' := (mkF m 185 #[.val (.int kk), .val (.long xl), .second, .val (.long yl), .second, .val (.int (kk &&& (7 : Int32))), .unset, .val (.int (2 : Int32)), .val (.int (8 : Int32)), .val (.ref b46)] [(.int (46 : Int32)), (.int (3 : Int32)), (.ref b46)])) st53 ?_
            obtain ⟨cl54, Ar54, hs54⟩ := id V52
            obtain ⟨T54, h54, X54, e54, W54, st54⟩ := stC X53 hx hZ e53 Ar54 (j := (3 : Int32)) (own_Ar_in (i := 3) hs54 (by decide) (by simp)) (g := (mkF m 185 #[.val (.int kk), .val (.long xl), .second, .val (.long yl), .second, .val (.int (kk &&& (7 : Int32))), .unset, .val (.int (2 : Int32)), .val (.int (8 : Int32)), .val (.ref b46)] [(.int (46 : Int32)), (.int (3 : Int32)), (.ref b46)])) rfl rfl (hb hby at_185)
            have V54 := own_Ar_set (i := 3) (v := (46 : Int32)) V52 W54 (by decide) (by decide)
            have N54 := Fr.snoc X54 N53 g_b46
            have Z54 : n0 ≤ h54.size := Nat.le_trans Z52 (Keep.of_wr W54).1
            have CS54 : CHr Z own_EL s.vm h0 s.vm h54 := CS52.trans (CHr.wr W54 sf52_b46 CS52.1)
            have sf54_b46 := Safe.wr W54 sf52_b46 CS52.1 sf52_b46
            refine own_ww (T' := T54) (g' := (mkF m 186 #[.val (.int kk), .val (.long xl), .second, .val (.long yl), .second, .val (.int (kk &&& (7 : Int32))), .unset, .val (.int (2 : Int32)), .val (.int (8 : Int32)), .val (.ref b46)] [])) st54 ?_
            have K54 := K52.wr W54 (Or.inr (Nat.le_of_eq gq46.symm))
            refine own_ww (T' := T54) (g' := (mkF m 188 #[.val (.int kk), .val (.long xl), .second, .val (.long yl), .second, .val (.int (kk &&& (7 : Int32))), .unset, .val (.int (2 : Int32)), .val (.int (8 : Int32)), .val (.ref b46)] [(.ref b46)])) (fun _ k_ => XS.aload X54.here hx rfl (hb hby at_186) rfl rfl k_) ?_
            refine own_ww (T' := T54) (g' := (mkF m 189 #[.val (.int kk), .val (.long xl), .second, .val (.long yl), .second, .val (.int (kk &&& (7 : Int32))), .unset, .val (.int (2 : Int32)), .val (.int (8 : Int32)), .val (.ref b46)] [(.int (4 : Int32)), (.ref b46)])) (fun _ k_ => XS.iconst X54.here hx rfl (hb hby at_188) k_) ?_
            refine own_ww (T' := T54) (g' := (mkF m 191 #[.val (.int kk), .val (.long xl), .second, .val (.long yl), .second, .val (.int (kk &&& (7 : Int32))), .unset, .val (.int (2 : Int32)), .val (.int (8 : Int32)), .val (.ref b46)] [(.int (8 : Int32)), (.int (4 : Int32)), (.ref b46)])) (fun _ k_ => XS.iload X54.here hx rfl (hb hby at_189) rfl k_) ?_
            refine own_ww (T' := T54) (g' := (mkF m 192 #[.val (.int kk), .val (.long xl), .second, .val (.long yl), .second, .val (.int (kk &&& (7 : Int32))), .unset, .val (.int (2 : Int32)), .val (.int (8 : Int32)), .val (.ref b46)] [(.int (4 : Int32)), (.int (8 : Int32)), (.int (4 : Int32)), (.ref b46)])) (fun _ k_ => XS.iconst X54.here hx rfl (hb hby at_191) k_) ?_
            refine own_ww (T' := T54) (g' := (mkF m 193 #[.val (.int kk), .val (.long xl), .second, .val (.long yl), .second, .val (.int (kk &&& (7 : Int32))), .unset, .val (.int (2 : Int32)), .val (.int (8 : Int32)), .val (.ref b46)] [(.long yl), (.int (4 : Int32)), (.int (8 : Int32)), (.int (4 : Int32)), (.ref b46)])) (fun _ k_ => XS.lloadN X54.here hx rfl (hb hby at_192) rfl k_) ?_
            refine own_ww (T' := T54) (g' := (mkF m 195 #[.val (.int kk), .val (.long xl), .second, .val (.long yl), .second, .val (.int (kk &&& (7 : Int32))), .unset, .val (.int (2 : Int32)), .val (.int (8 : Int32)), .val (.ref b46)] [(.int (21 : Int32)), (.long yl), (.int (4 : Int32)), (.int (8 : Int32)), (.int (4 : Int32)), (.ref b46)])) (fun _ k_ => XS.bipush X54.here hx rfl (hb hby at_193) k_) ?_
            refine own_ww (T' := T54) (g' := (mkF m 196 #[.val (.int kk), .val (.long xl), .second, .val (.long yl), .second, .val (.int (kk &&& (7 : Int32))), .unset, .val (.int (2 : Int32)), .val (.int (8 : Int32)), .val (.ref b46)] [(.long ((yl.toUInt64 >>> ((21 : Int32) &&& 0x3f).toInt64.toUInt64).toInt64)), (.int (4 : Int32)), (.int (8 : Int32)), (.int (4 : Int32)), (.ref b46)])) (fun _ k_ => XS.lushr X54.here hx rfl (hb hby at_195) rfl k_) ?_
            obtain ⟨_, _, ⟨T55, L55, k55, n55⟩, -, X55, ⟨Lc55, hQ55, l55, y55, z55⟩, st55⟩ := Jvm.LawKit.callS X54 hx (y := (⟨"com/example/adjacency/adjacency/identity/NodeNameParsePinLaw", "pos", "(IIJ)C"⟩ : MethodName)) hown (mvT hZ (hw _ (List.mem_of_getElem? (i := 1) rfl))) (mvT hZ (hw _ (List.mem_of_getElem? (i := 2) rfl))) (mvT hZ (hw _ (List.mem_of_getElem? (i := 3) rfl))) (mvT hZ (hw _ (List.mem_of_getElem? (i := 4) rfl))) (by decide) (backOf (W := 2) (own_rm1_c l Z a0 hw [] (8 : Int32) (4 : Int32) ((yl.toUInt64 >>> ((21 : Int32) &&& 0x3f).toInt64.toUInt64).toInt64)  h54 n0 Z54 (by decide)) hZ (hw _ (List.mem_of_getElem? (i := 4) rfl)) (hw _ (List.mem_of_getElem? (i := 3) rfl)) (by decide) (by decide)) (g := (mkF m 196 #[.val (.int kk), .val (.long xl), .second, .val (.long yl), .second, .val (.int (kk &&& (7 : Int32))), .unset, .val (.int (2 : Int32)), .val (.int (8 : Int32)), .val (.ref b46)] [(.long ((yl.toUInt64 >>> ((21 : Int32) &&& 0x3f).toInt64.toUInt64).toInt64)), (.int (4 : Int32)), (.int (8 : Int32)), (.int (4 : Int32)), (.ref b46)])) rfl (by rw [hml]; rfl) (argsL := [(.int (8 : Int32)), (.int (4 : Int32)), (.long ((yl.toUInt64 >>> ((21 : Int32) &&& 0x3f).toInt64.toUInt64).toInt64))]) (rest := [(.int (4 : Int32)), (.ref b46)]) (lenOf own_pd27 rfl) rfl (by show 2 * 0 + _ ≤ _; exact Nat.le_of_eq rfl) (hb hby at_196) (fun _ _ => ⟨rfl, e54, (by decide : 1 + 0 ≤ _), (by decide : 7 + 0 ≤ _)⟩)
            dsimp only [Pt.U, Pt.locs, Pt.cells, Pt.slots] at X55 l55 y55 z55 st55 hQ55
            subst l55 y55 z55
            obtain ⟨r55, rfl, N55q, e55, ok55, nh55⟩ := hQ55
            have N55 := Fr.app N54 N55q
            refine own_ww (T' := T55) (g' := (mkF m 199 #[.val (.int kk), .val (.long xl), .second, .val (.long yl), .second, .val (.int (kk &&& (7 : Int32))), .unset, .val (.int (2 : Int32)), .val (.int (8 : Int32)), .val (.ref b46)] [(.int r55), (.int (4 : Int32)), (.ref b46)])) st55 ?_
            obtain ⟨cl56, Ar56, hs56⟩ := id V54
            obtain ⟨T56, h56, X56, e56, W56, st56⟩ := stC X55 hx hZ e55 Ar56 (j := (4 : Int32)) (own_Ar_in (i := 4) hs56 (by decide) (by simp)) (g := (mkF m 199 #[.val (.int kk), .val (.long xl), .second, .val (.long yl), .second, .val (.int (kk &&& (7 : Int32))), .unset, .val (.int (2 : Int32)), .val (.int (8 : Int32)), .val (.ref b46)] [(.int r55), (.int (4 : Int32)), (.ref b46)])) rfl rfl (hb hby at_199)
            have V56 := own_Ar_set (i := 4) (v := r55) V54 W56 (by decide) (own_i2c_small (own_ok128 ok55).1 (Int.lt_trans (own_ok128 ok55).2 (by decide)))
            have N56 := Fr.snoc X56 N55 g_b46
            have Z56 : n0 ≤ h56.size := Nat.le_trans Z54 (Keep.of_wr W56).1
            have CS56 : CHr Z own_EL s.vm h0 s.vm h56 := CS54.trans (CHr.wr W56 sf54_b46 CS54.1)
            have sf56_b46 := Safe.wr W56 sf54_b46 CS54.1 sf54_b46
            refine own_ww (T' := T56) (g' := (mkF m 200 #[.val (.int kk), .val (.long xl), .second, .val (.long yl), .second, .val (.int (kk &&& (7 : Int32))), .unset, .val (.int (2 : Int32)), .val (.int (8 : Int32)), .val (.ref b46)] [])) st56 ?_
            have K56 := K54.wr W56 (Or.inr (Nat.le_of_eq gq46.symm))
            refine own_ww (T' := T56) (g' := (mkF m 202 #[.val (.int kk), .val (.long xl), .second, .val (.long yl), .second, .val (.int (kk &&& (7 : Int32))), .unset, .val (.int (2 : Int32)), .val (.int (8 : Int32)), .val (.ref b46)] [(.ref b46)])) (fun _ k_ => XS.aload X56.here hx rfl (hb hby at_200) rfl rfl k_) ?_
            refine own_ww (T' := T56) (g' := (mkF m 203 #[.val (.int kk), .val (.long xl), .second, .val (.long yl), .second, .val (.int (kk &&& (7 : Int32))), .unset, .val (.int (2 : Int32)), .val (.int (8 : Int32)), .val (.ref b46)] [(.int (5 : Int32)), (.ref b46)])) (fun _ k_ => XS.iconst X56.here hx rfl (hb hby at_202) k_) ?_
            refine own_ww (T' := T56) (g' := (mkF m 205 #[.val (.int kk), .val (.long xl), .second, .val (.long yl), .second, .val (.int (kk &&& (7 : Int32))), .unset, .val (.int (2 : Int32)), .val (.int (8 : Int32)), .val (.ref b46)] [(.int (8 : Int32)), (.int (5 : Int32)), (.ref b46)])) (fun _ k_ => XS.iload X56.here hx rfl (hb hby at_203) rfl k_) ?_
            refine own_ww (T' := T56) (g' := (mkF m 206 #[.val (.int kk), .val (.long xl), .second, .val (.long yl), .second, .val (.int (kk &&& (7 : Int32))), .unset, .val (.int (2 : Int32)), .val (.int (8 : Int32)), .val (.ref b46)] [(.int (5 : Int32)), (.int (8 : Int32)), (.int (5 : Int32)), (.ref b46)])) (fun _ k_ => XS.iconst X56.here hx rfl (hb hby at_205) k_) ?_
            refine own_ww (T' := T56) (g' := (mkF m 207 #[.val (.int kk), .val (.long xl), .second, .val (.long yl), .second, .val (.int (kk &&& (7 : Int32))), .unset, .val (.int (2 : Int32)), .val (.int (8 : Int32)), .val (.ref b46)] [(.long yl), (.int (5 : Int32)), (.int (8 : Int32)), (.int (5 : Int32)), (.ref b46)])) (fun _ k_ => XS.lloadN X56.here hx rfl (hb hby at_206) rfl k_) ?_
            refine own_ww (T' := T56) (g' := (mkF m 209 #[.val (.int kk), .val (.long xl), .second, .val (.long yl), .second, .val (.int (kk &&& (7 : Int32))), .unset, .val (.int (2 : Int32)), .val (.int (8 : Int32)), .val (.ref b46)] [(.int (42 : Int32)), (.long yl), (.int (5 : Int32)), (.int (8 : Int32)), (.int (5 : Int32)), (.ref b46)])) (fun _ k_ => XS.bipush X56.here hx rfl (hb hby at_207) k_) ?_
            refine own_ww (T' := T56) (g' := (mkF m 210 #[.val (.int kk), .val (.long xl), .second, .val (.long yl), .second, .val (.int (kk &&& (7 : Int32))), .unset, .val (.int (2 : Int32)), .val (.int (8 : Int32)), .val (.ref b46)] [(.long ((yl.toUInt64 >>> ((42 : Int32) &&& 0x3f).toInt64.toUInt64).toInt64)), (.int (5 : Int32)), (.int (8 : Int32)), (.int (5 : Int32)), (.ref b46)])) (fun _ k_ => XS.lushr X56.here hx rfl (hb hby at_209) rfl k_) ?_
            obtain ⟨_, _, ⟨T57, L57, k57, n57⟩, -, X57, ⟨Lc57, hQ57, l57, y57, z57⟩, st57⟩ := Jvm.LawKit.callS X56 hx (y := (⟨"com/example/adjacency/adjacency/identity/NodeNameParsePinLaw", "pos", "(IIJ)C"⟩ : MethodName)) hown (mvT hZ (hw _ (List.mem_of_getElem? (i := 1) rfl))) (mvT hZ (hw _ (List.mem_of_getElem? (i := 2) rfl))) (mvT hZ (hw _ (List.mem_of_getElem? (i := 3) rfl))) (mvT hZ (hw _ (List.mem_of_getElem? (i := 4) rfl))) (by decide) (backOf (W := 2) (own_rm1_c l Z a0 hw [] (8 : Int32) (5 : Int32) ((yl.toUInt64 >>> ((42 : Int32) &&& 0x3f).toInt64.toUInt64).toInt64)  h56 n0 Z56 (by decide)) hZ (hw _ (List.mem_of_getElem? (i := 4) rfl)) (hw _ (List.mem_of_getElem? (i := 3) rfl)) (by decide) (by decide)) (g := (mkF m 210 #[.val (.int kk), .val (.long xl), .second, .val (.long yl), .second, .val (.int (kk &&& (7 : Int32))), .unset, .val (.int (2 : Int32)), .val (.int (8 : Int32)), .val (.ref b46)] [(.long ((yl.toUInt64 >>> ((42 : Int32) &&& 0x3f).toInt64.toUInt64).toInt64)), (.int (5 : Int32)), (.int (8 : Int32)), (.int (5 : Int32)), (.ref b46)])) rfl (by rw [hml]; rfl) (argsL := [(.int (8 : Int32)), (.int (5 : Int32)), (.long ((yl.toUInt64 >>> ((42 : Int32) &&& 0x3f).toInt64.toUInt64).toInt64))]) (rest := [(.int (5 : Int32)), (.ref b46)]) (lenOf own_pd27 rfl) rfl (by show 2 * 0 + _ ≤ _; exact Nat.le_of_eq rfl) (hb hby at_210) (fun _ _ => ⟨rfl, e56, (by decide : 1 + 0 ≤ _), (by decide : 7 + 0 ≤ _)⟩)
            dsimp only [Pt.U, Pt.locs, Pt.cells, Pt.slots] at X57 l57 y57 z57 st57 hQ57
            subst l57 y57 z57
            obtain ⟨r57, rfl, N57q, e57, ok57, nh57⟩ := hQ57
            have N57 := Fr.app N56 N57q
            refine own_ww (T' := T57) (g' := (mkF m 213 #[.val (.int kk), .val (.long xl), .second, .val (.long yl), .second, .val (.int (kk &&& (7 : Int32))), .unset, .val (.int (2 : Int32)), .val (.int (8 : Int32)), .val (.ref b46)] [(.int r57), (.int (5 : Int32)), (.ref b46)])) st57 ?_
            obtain ⟨cl58, Ar58, hs58⟩ := id V56
            obtain ⟨T58, h58, X58, e58, W58, st58⟩ := stC X57 hx hZ e57 Ar58 (j := (5 : Int32)) (own_Ar_in (i := 5) hs58 (by decide) (by simp)) (g := (mkF m 213 #[.val (.int kk), .val (.long xl), .second, .val (.long yl), .second, .val (.int (kk &&& (7 : Int32))), .unset, .val (.int (2 : Int32)), .val (.int (8 : Int32)), .val (.ref b46)] [(.int r57), (.int (5 : Int32)), (.ref b46)])) rfl rfl (hb hby at_213)
            have V58 := own_Ar_set (i := 5) (v := r57) V56 W58 (by decide) (own_i2c_small (own_ok128 ok57).1 (Int.lt_trans (own_ok128 ok57).2 (by decide)))
            have N58 := Fr.snoc X58 N57 g_b46
            have Z58 : n0 ≤ h58.size := Nat.le_trans Z56 (Keep.of_wr W58).1
            have CS58 : CHr Z own_EL s.vm h0 s.vm h58 := CS56.trans (CHr.wr W58 sf56_b46 CS56.1)
            have sf58_b46 := Safe.wr W58 sf56_b46 CS56.1 sf56_b46
            refine own_ww (T' := T58) (g' := (mkF m 214 #[.val (.int kk), .val (.long xl), .second, .val (.long yl), .second, .val (.int (kk &&& (7 : Int32))), .unset, .val (.int (2 : Int32)), .val (.int (8 : Int32)), .val (.ref b46)] [])) st58 ?_
            have K58 := K56.wr W58 (Or.inr (Nat.le_of_eq gq46.symm))
            refine own_ww (T' := T58) (g' := (mkF m 216 #[.val (.int kk), .val (.long xl), .second, .val (.long yl), .second, .val (.int (kk &&& (7 : Int32))), .unset, .val (.int (2 : Int32)), .val (.int (8 : Int32)), .val (.ref b46)] [(.ref b46)])) (fun _ k_ => XS.aload X58.here hx rfl (hb hby at_214) rfl rfl k_) ?_
            refine own_ww (T' := T58) (g' := (mkF m 218 #[.val (.int kk), .val (.long xl), .second, .val (.long yl), .second, .val (.int (kk &&& (7 : Int32))), .unset, .val (.int (2 : Int32)), .val (.int (8 : Int32)), .val (.ref b46)] [(.int (6 : Int32)), (.ref b46)])) (fun _ k_ => XS.bipush X58.here hx rfl (hb hby at_216) k_) ?_
            refine own_ww (T' := T58) (g' := (mkF m 220 #[.val (.int kk), .val (.long xl), .second, .val (.long yl), .second, .val (.int (kk &&& (7 : Int32))), .unset, .val (.int (2 : Int32)), .val (.int (8 : Int32)), .val (.ref b46)] [(.int (8 : Int32)), (.int (6 : Int32)), (.ref b46)])) (fun _ k_ => XS.iload X58.here hx rfl (hb hby at_218) rfl k_) ?_
            refine own_ww (T' := T58) (g' := (mkF m 222 #[.val (.int kk), .val (.long xl), .second, .val (.long yl), .second, .val (.int (kk &&& (7 : Int32))), .unset, .val (.int (2 : Int32)), .val (.int (8 : Int32)), .val (.ref b46)] [(.int (6 : Int32)), (.int (8 : Int32)), (.int (6 : Int32)), (.ref b46)])) (fun _ k_ => XS.bipush X58.here hx rfl (hb hby at_220) k_) ?_
            refine own_ww (T' := T58) (g' := (mkF m 223 #[.val (.int kk), .val (.long xl), .second, .val (.long yl), .second, .val (.int (kk &&& (7 : Int32))), .unset, .val (.int (2 : Int32)), .val (.int (8 : Int32)), .val (.ref b46)] [(.int kk), (.int (6 : Int32)), (.int (8 : Int32)), (.int (6 : Int32)), (.ref b46)])) (fun _ k_ => XS.iloadN X58.here hx rfl (hb hby at_222) rfl k_) ?_
            refine own_ww (T' := T58) (g' := (mkF m 224 #[.val (.int kk), .val (.long xl), .second, .val (.long yl), .second, .val (.int (kk &&& (7 : Int32))), .unset, .val (.int (2 : Int32)), .val (.int (8 : Int32)), .val (.ref b46)] [(.int (3 : Int32)), (.int kk), (.int (6 : Int32)), (.int (8 : Int32)), (.int (6 : Int32)), (.ref b46)])) (fun _ k_ => XS.iconst X58.here hx rfl (hb hby at_223) k_) ?_
            refine own_ww (T' := T58) (g' := (mkF m 225 #[.val (.int kk), .val (.long xl), .second, .val (.long yl), .second, .val (.int (kk &&& (7 : Int32))), .unset, .val (.int (2 : Int32)), .val (.int (8 : Int32)), .val (.ref b46)] [(.int ((kk.toUInt32 >>> ((3 : Int32) &&& 31).toUInt32).toInt32)), (.int (6 : Int32)), (.int (8 : Int32)), (.int (6 : Int32)), (.ref b46)])) (fun _ k_ => XS.iushr X58.here hx rfl (hb hby at_224) rfl k_) ?_
            refine own_ww (T' := T58) (g' := (mkF m 226 #[.val (.int kk), .val (.long xl), .second, .val (.long yl), .second, .val (.int (kk &&& (7 : Int32))), .unset, .val (.int (2 : Int32)), .val (.int (8 : Int32)), .val (.ref b46)] [(.long (((kk.toUInt32 >>> ((3 : Int32) &&& 31).toUInt32).toInt32).toInt64)), (.int (6 : Int32)), (.int (8 : Int32)), (.int (6 : Int32)), (.ref b46)])) (fun _ k_ => XS.i2l X58.here hx rfl (hb hby at_225) rfl k_) ?_
            obtain ⟨_, _, ⟨T59, L59, k59, n59⟩, -, X59, ⟨Lc59, hQ59, l59, y59, z59⟩, st59⟩ := Jvm.LawKit.callS X58 hx (y := (⟨"com/example/adjacency/adjacency/identity/NodeNameParsePinLaw", "pos", "(IIJ)C"⟩ : MethodName)) hown (mvT hZ (hw _ (List.mem_of_getElem? (i := 1) rfl))) (mvT hZ (hw _ (List.mem_of_getElem? (i := 2) rfl))) (mvT hZ (hw _ (List.mem_of_getElem? (i := 3) rfl))) (mvT hZ (hw _ (List.mem_of_getElem? (i := 4) rfl))) (by decide) (backOf (W := 2) (own_rm1_c l Z a0 hw [] (8 : Int32) (6 : Int32) (((kk.toUInt32 >>> ((3 : Int32) &&& 31).toUInt32).toInt32).toInt64)  h58 n0 Z58 (by decide)) hZ (hw _ (List.mem_of_getElem? (i := 4) rfl)) (hw _ (List.mem_of_getElem? (i := 3) rfl)) (by decide) (by decide)) (g := (mkF m 226 #[.val (.int kk), .val (.long xl), .second, .val (.long yl), .second, .val (.int (kk &&& (7 : Int32))), .unset, .val (.int (2 : Int32)), .val (.int (8 : Int32)), .val (.ref b46)] [(.long (((kk.toUInt32 >>> ((3 : Int32) &&& 31).toUInt32).toInt32).toInt64)), (.int (6 : Int32)), (.int (8 : Int32)), (.int (6 : Int32)), (.ref b46)])) rfl (by rw [hml]; rfl) (argsL := [(.int (8 : Int32)), (.int (6 : Int32)), (.long (((kk.toUInt32 >>> ((3 : Int32) &&& 31).toUInt32).toInt32).toInt64))]) (rest := [(.int (6 : Int32)), (.ref b46)]) (lenOf own_pd27 rfl) rfl (by show 2 * 0 + _ ≤ _; exact Nat.le_of_eq rfl) (hb hby at_226) (fun _ _ => ⟨rfl, e58, (by decide : 1 + 0 ≤ _), (by decide : 7 + 0 ≤ _)⟩)
            dsimp only [Pt.U, Pt.locs, Pt.cells, Pt.slots] at X59 l59 y59 z59 st59 hQ59
            subst l59 y59 z59
            obtain ⟨r59, rfl, N59q, e59, ok59, nh59⟩ := hQ59
            have N59 := Fr.app N58 N59q
            refine own_ww (T' := T59) (g' := (mkF m 229 #[.val (.int kk), .val (.long xl), .second, .val (.long yl), .second, .val (.int (kk &&& (7 : Int32))), .unset, .val (.int (2 : Int32)), .val (.int (8 : Int32)), .val (.ref b46)] [(.int r59), (.int (6 : Int32)), (.ref b46)])) st59 ?_
            obtain ⟨cl60, Ar60, hs60⟩ := id V58
            obtain ⟨T60, h60, X60, e60, W60, st60⟩ := stC X59 hx hZ e59 Ar60 (j := (6 : Int32)) (own_Ar_in (i := 6) hs60 (by decide) (by simp)) (g := (mkF m 229 #[.val (.int kk), .val (.long xl), .second, .val (.long yl), .second, .val (.int (kk &&& (7 : Int32))), .unset, .val (.int (2 : Int32)), .val (.int (8 : Int32)), .val (.ref b46)] [(.int r59), (.int (6 : Int32)), (.ref b46)])) rfl rfl (hb hby at_229)
            have V60 := own_Ar_set (i := 6) (v := r59) V58 W60 (by decide) (own_i2c_small (own_ok128 ok59).1 (Int.lt_trans (own_ok128 ok59).2 (by decide)))
            have N60 := Fr.snoc X60 N59 g_b46
            have Z60 : n0 ≤ h60.size := Nat.le_trans Z58 (Keep.of_wr W60).1
            have CS60 : CHr Z own_EL s.vm h0 s.vm h60 := CS58.trans (CHr.wr W60 sf58_b46 CS58.1)
            have sf60_b46 := Safe.wr W60 sf58_b46 CS58.1 sf58_b46
            refine own_ww (T' := T60) (g' := (mkF m 230 #[.val (.int kk), .val (.long xl), .second, .val (.long yl), .second, .val (.int (kk &&& (7 : Int32))), .unset, .val (.int (2 : Int32)), .val (.int (8 : Int32)), .val (.ref b46)] [])) st60 ?_
            have K60 := K58.wr W60 (Or.inr (Nat.le_of_eq gq46.symm))
            obtain ⟨T61, h61, X61, e61, E61, A61, D61, -, st61⟩ := newO X60 hx hZ hown (hw _ (List.mem_of_getElem? (i := 9) rfl)) (hw _ (List.mem_of_getElem? (i := 10) rfl)) (hw _ (List.mem_of_getElem? (i := 11) rfl)) e60 (g := (mkF m 230 #[.val (.int kk), .val (.long xl), .second, .val (.long yl), .second, .val (.int (kk &&& (7 : Int32))), .unset, .val (.int (2 : Int32)), .val (.int (8 : Int32)), .val (.ref b46)] [])) rfl (hb hby at_230) (by decide) (by decide)
            obtain ⟨b61, gq61⟩ : ∃ z, z = h60.size := ⟨_, rfl⟩
            rw [← gq61] at A61 D61 st61
            have g_b61 : n0 ≤ b61 := Nat.le_trans Z60 (Nat.le_of_eq gq61.symm)
            have Z61 : n0 ≤ h61.size := Nat.le_trans Z60 E61.1
            have CS61 : CHr Z own_EL s.vm h0 s.vm h61 := CS60.trans (CHr.ext E61 CS60.1)
            have sf61_b46 := Safe.ext E61 CS60.1 sf60_b46
            have sf61_b61 : Safe Z own_EL s.vm h61 b61 := Safe.ext E61 CS60.1 (Safe.new (Nat.le_of_eq gq61.symm))
            refine own_ww (T' := T61) (g' := (mkF m 233 #[.val (.int kk), .val (.long xl), .second, .val (.long yl), .second, .val (.int (kk &&& (7 : Int32))), .unset, .val (.int (2 : Int32)), .val (.int (8 : Int32)), .val (.ref b46)] [(.ref b61)])) st61 ?_
            refine own_ww (T' := T61) (g' := (mkF m 234 #[.val (.int kk), .val (.long xl), .second, .val (.long yl), .second, .val (.int (kk &&& (7 : Int32))), .unset, .val (.int (2 : Int32)), .val (.int (8 : Int32)), .val (.ref b46)] [(.ref b61), (.ref b61)])) (fun _ k_ => XS.dup X61.here hx rfl (hb hby at_233) rfl rfl k_) ?_
            refine own_ww (T' := T61) (g' := (mkF m 236 #[.val (.int kk), .val (.long xl), .second, .val (.long yl), .second, .val (.int (kk &&& (7 : Int32))), .unset, .val (.int (2 : Int32)), .val (.int (8 : Int32)), .val (.ref b46)] [(.ref b46), (.ref b61), (.ref b61)])) (fun _ k_ => XS.aload X61.here hx rfl (hb hby at_234) rfl rfl k_) ?_
            have S1 := (own_sta0 S K60).ext E61
            have SF1 := (own_sta0 SF K60).ext E61
            obtain ⟨_, _, ⟨T62, L62, k62, n62⟩, -, X62, ⟨Lc62, hQ62, l62, y62, z62⟩, st62⟩ := X61.specialBack hx (y := (⟨"java/lang/String", "<init>", "([C)V"⟩ : MethodName)) rfl hown (mvT hZ (hw _ (List.mem_of_getElem? (i := 12) rfl))) (mvT hZ (hw _ (List.mem_of_getElem? (i := 13) rfl))) (mvT hZ (hw _ (List.mem_of_getElem? (i := 14) rfl))) (by decide) (backOf (W := 1) (own_rm3 l Z a0 hw [] b61 b46 _ _ cs r47 r49 r51 (46 : Int32) r55 r57 r59 h61 n0 Z61 (D61 (Or.inr (hw _ (List.mem_of_getElem? (i := 37) rfl))) (ty := (.array .byte)) (by decide)) (D61 (Or.inr (hw _ (List.mem_of_getElem? (i := 35) rfl))) (ty := .byte) (by decide)) A61 g_b61 (own_Ar_ext V60 E61) hcs S1 (own_ok255 ok47) (own_ok255 ok49) (own_ok255 ok51) (by decide) (own_ok255 ok55) (own_ok255 ok57) (own_ok255 ok59)) hZ (hw _ (List.mem_of_getElem? (i := 14) rfl)) (hw _ (List.mem_of_getElem? (i := 11) rfl)) (by decide) (by decide)) (g := (mkF m 236 #[.val (.int kk), .val (.long xl), .second, .val (.long yl), .second, .val (.int (kk &&& (7 : Int32))), .unset, .val (.int (2 : Int32)), .val (.int (8 : Int32)), .val (.ref b46)] [(.ref b46), (.ref b61), (.ref b61)])) rfl (by rw [hml]; rfl) (Steps.refl _) (a := b61) (argsL := [(.ref b46)]) (rest := [(.ref b61)]) (lenOf own_pd28 rfl) rfl (by show 2 * 0 + _ ≤ _; exact Nat.le_of_eq rfl) (hb hby at_236) (fun _ _ => ⟨rfl, e61, (by decide : 2 + 1 ≤ _), (by decide : 11 + 7 ≤ _)⟩)
            dsimp only [Pt.U, Pt.locs, Pt.cells, Pt.slots] at X62 l62 y62 z62 st62 hQ62
            subst l62 y62 z62
            obtain ⟨h62, e62⟩ : ∃ h, T62.heap = h := ⟨_, rfl⟩
            rw [e62] at hQ62
            obtain ⟨rfl, N62q, K62, Q62⟩ := hQ62
            have CS62 : CHr Z own_EL s.vm h0 s.vm h62 := CS61.trans (CHr.keep K62 (sfS sf61_b61 sf0) CS61.1)
            have sf62_b46 := Safe.keep K62 (sfS sf61_b61 sf0) CS61.1 sf61_b46
            have sf62_b61 := Safe.keep K62 (sfS sf61_b61 sf0) CS61.1 sf61_b61
            have N62 := Fr.app N60 N62q
            refine own_wt (T' := T62) (g' := (mkF m 239 #[.val (.int kk), .val (.long xl), .second, .val (.long yl), .second, .val (.int (kk &&& (7 : Int32))), .unset, .val (.int (2 : Int32)), .val (.int (8 : Int32)), .val (.ref b46)] [(.ref b61)])) st62 ?_
            have Z62 : n0 ≤ h62.size := Nat.le_trans Z61 K62.1
            have KA : Keep h60 h62 [] := ((Keep.refl _ []).ext E61).trans K62 (fun x hx => Or.inr (by rw [List.mem_singleton.mp hx]; exact Nat.le_of_eq gq61.symm))
            have S2 := own_sta0 (own_sta0 S K60) KA
            have SF2 := own_sta0 (own_sta0 SF K60) KA
            have Qs : own_Str Z h62 b61 [r47, r49, r51, (46 : Int32), r55, r57, r59] := by
              have q := Q62
              rw [own_i2b_small (own_ok128 ok47), own_i2b_small (own_ok128 ok49), own_i2b_small (own_ok128 ok51), show (46 : Int32).toInt8.toInt32 = 46 by decide, own_i2b_small (own_ok128 ok55), own_i2b_small (own_ok128 ok57), own_i2b_small (own_ok128 ok59)] at q
              exact q
            refine own_ww (T' := T62) (g' := (mkF m 241 #[.val (.int kk), .val (.long xl), .second, .val (.long yl), .second, .val (.int (kk &&& (7 : Int32))), .val (.ref b61), .val (.int (2 : Int32)), .val (.int (8 : Int32)), .val (.ref b46)] [])) (fun _ k_ => XS.astore X62.here hx rfl (hb hby at_239) rfl rfl (l' := #[.val (.int kk), .val (.long xl), .second, .val (.long yl), .second, .val (.int (kk &&& (7 : Int32))), .val (.ref b61), .val (.int (2 : Int32)), .val (.int (8 : Int32)), .val (.ref b46)]) rfl k_) ?_
            obtain ⟨LA63, XA63, NA63⟩ : ∃ L, Stand p l e room_1 (s.setVm s.vm) m #[(.int kk), (.long xl), (.long yl)] below meth c T62 L 3 18 ∧ Fr n0 L := ⟨_, X62, N62⟩
            have PL := own_pl_8 ok47 ok49 ok51 ok55 ok57 ok59 (nh47 (by decide)) (nh51 (by decide)) (nh55 (by decide)) (nh59 (by decide))
            have hro := own_ro PL.2.2.2 (by decide)
            refine own_ww (T' := T62) (g' := (mkF m 243 #[.val (.int kk), .val (.long xl), .second, .val (.long yl), .second, .val (.int (kk &&& (7 : Int32))), .val (.ref b61), .val (.int (2 : Int32)), .val (.int (8 : Int32)), .val (.ref b46)] [(.ref b61)])) (fun _ k_ => XS.aload XA63.here hx rfl (hb hby at_241) rfl rfl k_) ?_
            obtain ⟨_, _, ⟨T64, L64, k64, n64⟩, -, X64', hs264, hg64, ⟨Lc64, hQ64, l64, y64, z64, cr64⟩, st64⟩ := callSS XA63 hx (y := (⟨"com/example/adjacency/adjacency/identity/NodeName", "parse", "(Ljava/lang/String;)Lcom/example/adjacency/adjacency/identity/NodeName;"⟩ : MethodName)) hown (mvT hZ (hw _ (List.mem_of_getElem? (i := 38) rfl))) (mvT hZ (hw _ (List.mem_of_getElem? (i := 39) rfl))) (mvT hZ (hw _ (List.mem_of_getElem? (i := 40) rfl))) (mvT hZ (hw _ (List.mem_of_getElem? (i := 41) rfl))) (by decide) (backOfSH (W := 0) (own_rm9 l Z a0 hw [] b61 [r47, r49, r51, (46 : Int32), r55, r57, r59] cs sf h62 n0 Z62 Qs (show 7 < 1000 by decide) hcs S2 hsf SF2 PL.1 PL.2.1 (by rw [PL.2.2.1]; decide)) hZ (hw _ (List.mem_of_getElem? (i := 41) rfl)) (hw _ (List.mem_of_getElem? (i := 40) rfl)) (by decide) (by decide) (own_EW hw) CS62.1) (g := (mkF m 243 #[.val (.int kk), .val (.long xl), .second, .val (.long yl), .second, .val (.int (kk &&& (7 : Int32))), .val (.ref b61), .val (.int (2 : Int32)), .val (.int (8 : Int32)), .val (.ref b46)] [(.ref b61)])) rfl (by rw [hml]; rfl) (argsL := [(.ref b61)]) (rest := []) (lenOf own_pd24 rfl) rfl (by show 2 * 0 + _ ≤ _; exact Nat.le_of_eq rfl) (hb hby at_243) (fun _ _ => ⟨rfl, e62, (by decide : 3 + 3 ≤ _), (by decide : 18 + 21 ≤ _)⟩)
            dsimp only [Pt.U, Pt.locs, Pt.cells, Pt.slots] at X64' hs264 hg64 l64 y64 z64 st64 hQ64 cr64
            subst l64 y64 z64
            obtain ⟨X64, hS64, hZ64, ho64⟩ := rebS hS0 (by rw [e62]; exact CS62.2.1) X64' hs264 hg64 hZ hown
            obtain ⟨h64, e64⟩ : ∃ h, T64.heap = h := ⟨_, rfl⟩
            rw [e64] at hQ64 hS64 cr64
            obtain ⟨r64, rfl, N64q, K64, Ex64, F64⟩ := hQ64
            have N64 := Fr.app NA63 N64q
            have CB64 : CHr Z own_EL s.vm h0 T64.vm h64 := (CB0.trans CS62).trans cr64
            have CS64 : CHr Z own_EL T64.vm h64 T64.vm h64 := CHr.refl CB64.1
            have Z64 : n0 ≤ h64.size := Nat.le_trans Z62 cr64.2.1
            refine own_wt (T' := T64) (g' := (mkF m 246 #[.val (.int kk), .val (.long xl), .second, .val (.long yl), .second, .val (.int (kk &&& (7 : Int32))), .val (.ref b61), .val (.int (2 : Int32)), .val (.int (8 : Int32)), .val (.ref b46)] [(.ref r64)])) st64 ?_
            have Se := own_Str_keep Qs K64
            have Sf := own_sta0 S2 K64
            have Sg := own_sta0 SF2 K64
            refine own_ww (T' := T64) (g' := (mkF m 248 #[.val (.int kk), .val (.long xl), .second, .val (.long yl), .second, .val (.int (kk &&& (7 : Int32))), .val (.ref b61), .val (.int (2 : Int32)), .val (.ref r64), .val (.ref b46)] [])) (fun _ k_ => XS.astore X64.here hx rfl (hb hby at_246) rfl rfl (l' := #[.val (.int kk), .val (.long xl), .second, .val (.long yl), .second, .val (.int (kk &&& (7 : Int32))), .val (.ref b61), .val (.int (2 : Int32)), .val (.ref r64), .val (.ref b46)]) rfl k_) ?_
            refine own_ww (T' := T64) (g' := (mkF m 250 #[.val (.int kk), .val (.long xl), .second, .val (.long yl), .second, .val (.int (kk &&& (7 : Int32))), .val (.ref b61), .val (.int (2 : Int32)), .val (.ref r64), .val (.ref b46)] [(.ref r64)])) (fun _ k_ => XS.aload X64.here hx rfl (hb hby at_248) rfl rfl k_) ?_
            obtain ⟨cq65, kq65, q65a, q65b, q65c⟩ := isOf hZ64 e64 Ex64
            obtain ⟨_, _, ⟨T65, L65, k65, n65⟩, -, X65, ⟨Lc65, hQ65, l65, y65, z65⟩, st65⟩ := X64.virtualBack hx (y := (⟨"com/example/adjacency/adjacency/identity/NodeName", "toString", "()Ljava/lang/String;"⟩ : MethodName)) (z := (⟨"com/example/adjacency/adjacency/identity/NodeName", "toString", "()Ljava/lang/String;"⟩ : MethodName)) ho64 (mvT hZ64 (hw _ (List.mem_of_getElem? (i := 117) rfl))) (mvT hZ64 (hw _ (List.mem_of_getElem? (i := 118) rfl))) (notFace_of_selects (args := #[]) (mvT hZ64 (hw _ (List.mem_of_getElem? (i := 120) rfl)))) (mvT hZ64 (hw _ (List.mem_of_getElem? (i := 120) rfl))) (mvT hZ64 (hw _ (List.mem_of_getElem? (i := 119) rfl))) (by decide) (backOf (W := 0) (own_rm27 l Z a0 hw [] r64 b61 h64 n0 Z64 F64) hZ64 (hw _ (List.mem_of_getElem? (i := 121) rfl)) (hw _ (List.mem_of_getElem? (i := 40) rfl)) (by decide) (by decide)) q65a q65c (g := (mkF m 250 #[.val (.int kk), .val (.long xl), .second, .val (.long yl), .second, .val (.int (kk &&& (7 : Int32))), .val (.ref b61), .val (.int (2 : Int32)), .val (.ref r64), .val (.ref b46)] [(.ref r64)])) rfl (by rw [hml]; rfl) (Steps.refl _) (argsL := []) (rest := []) (lenOf own_pd25 rfl) rfl (by show 2 * 0 + _ ≤ _; exact Nat.le_of_eq rfl) (hb hby at_250) (fun _ _ => ⟨rfl, e64, (by decide : 6 + 0 ≤ _), (by decide : 39 + 0 ≤ _)⟩)
            dsimp only [Pt.U, Pt.locs, Pt.cells, Pt.slots] at X65 l65 y65 z65 st65 hQ65
            subst l65 y65 z65
            obtain ⟨rfl, N65q, e65⟩ := hQ65
            have N65 := Fr.app N64 N65q
            refine own_wt (T' := T65) (g' := (mkF m 253 #[.val (.int kk), .val (.long xl), .second, .val (.long yl), .second, .val (.int (kk &&& (7 : Int32))), .val (.ref b61), .val (.int (2 : Int32)), .val (.ref r64), .val (.ref b46)] [(.ref b61)])) st65 ?_
            refine own_ww (T' := T65) (g' := (mkF m 255 #[.val (.int kk), .val (.long xl), .second, .val (.long yl), .second, .val (.int (kk &&& (7 : Int32))), .val (.ref b61), .val (.int (2 : Int32)), .val (.ref r64), .val (.ref b46)] [(.ref b61), (.ref b61)])) (fun _ k_ => XS.aload X65.here hx rfl (hb hby at_253) rfl rfl k_) ?_
            obtain ⟨cq66, kq66, q66a, q66b, q66c⟩ := isOf hZ64 e65 Se.1
            obtain ⟨_, _, ⟨T66, L66, k66, n66⟩, -, X66, ⟨Lc66, hQ66, l66, y66, z66⟩, st66⟩ := X65.virtualBack hx (y := (⟨"java/lang/String", "equals", "(Ljava/lang/Object;)Z"⟩ : MethodName)) (z := (⟨"java/lang/String", "equals", "(Ljava/lang/Object;)Z"⟩ : MethodName)) ho64 (mvT hZ64 (hw _ (List.mem_of_getElem? (i := 122) rfl))) (mvT hZ64 (hw _ (List.mem_of_getElem? (i := 123) rfl))) (notFace_of_selects (args := #[]) (mvT hZ64 (hw _ (List.mem_of_getElem? (i := 125) rfl)))) (mvT hZ64 (hw _ (List.mem_of_getElem? (i := 125) rfl))) (mvT hZ64 (hw _ (List.mem_of_getElem? (i := 124) rfl))) (by decide) (backOf (W := 0) (own_rm28 l Z a0 hw [] b61 b61  h64 n0 Z64 rfl) hZ64 (hw _ (List.mem_of_getElem? (i := 126) rfl)) (hw _ (List.mem_of_getElem? (i := 11) rfl)) (by decide) (by decide)) q66a q66c (g := (mkF m 255 #[.val (.int kk), .val (.long xl), .second, .val (.long yl), .second, .val (.int (kk &&& (7 : Int32))), .val (.ref b61), .val (.int (2 : Int32)), .val (.ref r64), .val (.ref b46)] [(.ref b61), (.ref b61)])) rfl (by rw [hml]; rfl) (Steps.refl _) (argsL := [(.ref b61)]) (rest := []) (lenOf own_pd26 rfl) rfl (by show 2 * 0 + _ ≤ _; exact Nat.le_of_eq rfl) (hb hby at_255) (fun _ _ => ⟨rfl, e65, (by decide : 6 + 0 ≤ _), (by decide : 39 + 0 ≤ _)⟩)
            dsimp only [Pt.U, Pt.locs, Pt.cells, Pt.slots] at X66 l66 y66 z66 st66 hQ66
            subst l66 y66 z66
            obtain ⟨rfl, N66q, e66⟩ := hQ66
            have N66 := Fr.app N65 N66q
            refine own_wt (T' := T66) (g' := (mkF m 258 #[.val (.int kk), .val (.long xl), .second, .val (.long yl), .second, .val (.int (kk &&& (7 : Int32))), .val (.ref b61), .val (.int (2 : Int32)), .val (.ref r64), .val (.ref b46)] [(.int (1 : Int32))])) st66 ?_
            refine own_ww (T' := T66) (g' := (mkF m 261 #[.val (.int kk), .val (.long xl), .second, .val (.long yl), .second, .val (.int (kk &&& (7 : Int32))), .val (.ref b61), .val (.int (2 : Int32)), .val (.ref r64), .val (.ref b46)] [])) (fun _ k_ => XS.ifNo X66.here hx rfl (hb hby at_258) rfl ((if0 _ _).trans (feq (by decide)).1) k_) ?_
            refine own_ww (T' := T66) (g' := (mkF m 263 #[.val (.int kk), .val (.long xl), .second, .val (.long yl), .second, .val (.int (kk &&& (7 : Int32))), .val (.ref b61), .val (.int (2 : Int32)), .val (.ref r64), .val (.ref b46)] [(.ref r64)])) (fun _ k_ => XS.aload X66.here hx rfl (hb hby at_261) rfl rfl k_) ?_
            obtain ⟨cq67, kq67, q67a, q67b, q67c⟩ := isOf hZ64 e66 Ex64
            obtain ⟨_, _, ⟨T67, L67, k67, n67⟩, -, X67, ⟨Lc67, hQ67, l67, y67, z67⟩, st67⟩ := X66.virtualBack hx (y := (⟨"com/example/adjacency/adjacency/identity/NodeName", "labelCount", "()I"⟩ : MethodName)) (z := (⟨"com/example/adjacency/adjacency/identity/NodeName", "labelCount", "()I"⟩ : MethodName)) ho64 (mvT hZ64 (hw _ (List.mem_of_getElem? (i := 127) rfl))) (mvT hZ64 (hw _ (List.mem_of_getElem? (i := 128) rfl))) (notFace_of_selects (args := #[]) (mvT hZ64 (hw _ (List.mem_of_getElem? (i := 130) rfl)))) (mvT hZ64 (hw _ (List.mem_of_getElem? (i := 130) rfl))) (mvT hZ64 (hw _ (List.mem_of_getElem? (i := 129) rfl))) (by decide) (backOf (W := 0) (own_rm29 l Z a0 hw [] r64 b61 [r47, r49, r51, (46 : Int32), r55, r57, r59] cs sf h64 n0 Z64 F64 Se (show 7 < 1000 by decide) hcs Sf hsf Sg PL.1) hZ64 (hw _ (List.mem_of_getElem? (i := 131) rfl)) (hw _ (List.mem_of_getElem? (i := 40) rfl)) (by decide) (by decide)) q67a q67c (g := (mkF m 263 #[.val (.int kk), .val (.long xl), .second, .val (.long yl), .second, .val (.int (kk &&& (7 : Int32))), .val (.ref b61), .val (.int (2 : Int32)), .val (.ref r64), .val (.ref b46)] [(.ref r64)])) rfl (by rw [hml]; rfl) (Steps.refl _) (argsL := []) (rest := []) (lenOf own_pd8 rfl) rfl (by show 2 * 0 + _ ≤ _; exact Nat.le_of_eq rfl) (hb hby at_263) (fun _ _ => ⟨rfl, e66, (by decide : 6 + 0 ≤ _), (by decide : 39 + 0 ≤ _)⟩)
            dsimp only [Pt.U, Pt.locs, Pt.cells, Pt.slots] at X67 l67 y67 z67 st67 hQ67
            subst l67 y67 z67
            obtain ⟨rfl, N67q, e67⟩ := hQ67
            have N67 := Fr.app N66 N67q
            refine own_wt (T' := T67) (g' := (mkF m 266 #[.val (.int kk), .val (.long xl), .second, .val (.long yl), .second, .val (.int (kk &&& (7 : Int32))), .val (.ref b61), .val (.int (2 : Int32)), .val (.ref r64), .val (.ref b46)] [(.int (own_cl [r47, r49, r51, (46 : Int32), r55, r57, r59]))])) st67 ?_
            refine own_ww (T' := T67) (g' := (mkF m 268 #[.val (.int kk), .val (.long xl), .second, .val (.long yl), .second, .val (.int (kk &&& (7 : Int32))), .val (.ref b61), .val (.int (2 : Int32)), .val (.ref r64), .val (.ref b46)] [(.int (2 : Int32)), (.int (own_cl [r47, r49, r51, (46 : Int32), r55, r57, r59]))])) (fun _ k_ => XS.iload X67.here hx rfl (hb hby at_266) rfl k_) ?_
            refine own_ww (T' := T67) (g' := (mkF m 271 #[.val (.int kk), .val (.long xl), .second, .val (.long yl), .second, .val (.int (kk &&& (7 : Int32))), .val (.ref b61), .val (.int (2 : Int32)), .val (.ref r64), .val (.ref b46)] [])) (fun _ k_ => XS.icmpNo X67.here hx rfl (hb hby at_268) rfl (teq PL.2.2.1).2 k_) ?_
            refine own_ww (T' := T67) (g' := (mkF m 273 #[.val (.int kk), .val (.long xl), .second, .val (.long yl), .second, .val (.int (kk &&& (7 : Int32))), .val (.ref b61), .val (.int (2 : Int32)), .val (.ref r64), .val (.ref b46)] [(.ref r64)])) (fun _ k_ => XS.aload X67.here hx rfl (hb hby at_271) rfl rfl k_) ?_
            obtain ⟨cq68, kq68, q68a, q68b, q68c⟩ := isOf hZ64 e67 Ex64
            obtain ⟨_, _, ⟨T68, L68, k68, n68⟩, -, X68, ⟨Lc68, hQ68, l68, y68, z68⟩, st68⟩ := X67.virtualBack hx (y := (⟨"com/example/adjacency/adjacency/identity/NodeName", "isRoot", "()Z"⟩ : MethodName)) (z := (⟨"com/example/adjacency/adjacency/identity/NodeName", "isRoot", "()Z"⟩ : MethodName)) ho64 (mvT hZ64 (hw _ (List.mem_of_getElem? (i := 132) rfl))) (mvT hZ64 (hw _ (List.mem_of_getElem? (i := 133) rfl))) (notFace_of_selects (args := #[]) (mvT hZ64 (hw _ (List.mem_of_getElem? (i := 135) rfl)))) (mvT hZ64 (hw _ (List.mem_of_getElem? (i := 135) rfl))) (mvT hZ64 (hw _ (List.mem_of_getElem? (i := 134) rfl))) (by decide) (backOf (W := 0) (own_rm30 l Z a0 hw [] r64 b61 [r47, r49, r51, (46 : Int32), r55, r57, r59] cs h64 n0 Z64 F64 Se (show 7 < 1000 by decide) hcs Sf) hZ64 (hw _ (List.mem_of_getElem? (i := 136) rfl)) (hw _ (List.mem_of_getElem? (i := 40) rfl)) (by decide) (by decide)) q68a q68c (g := (mkF m 273 #[.val (.int kk), .val (.long xl), .second, .val (.long yl), .second, .val (.int (kk &&& (7 : Int32))), .val (.ref b61), .val (.int (2 : Int32)), .val (.ref r64), .val (.ref b46)] [(.ref r64)])) rfl (by rw [hml]; rfl) (Steps.refl _) (argsL := []) (rest := []) (lenOf own_pd3 rfl) rfl (by show 2 * 0 + _ ≤ _; exact Nat.le_of_eq rfl) (hb hby at_273) (fun _ _ => ⟨rfl, e67, (by decide : 6 + 0 ≤ _), (by decide : 39 + 0 ≤ _)⟩)
            dsimp only [Pt.U, Pt.locs, Pt.cells, Pt.slots] at X68 l68 y68 z68 st68 hQ68
            subst l68 y68 z68
            obtain ⟨rfl, N68q, e68⟩ := hQ68
            have N68 := Fr.app N67 N68q
            refine own_wt (T' := T68) (g' := (mkF m 276 #[.val (.int kk), .val (.long xl), .second, .val (.long yl), .second, .val (.int (kk &&& (7 : Int32))), .val (.ref b61), .val (.int (2 : Int32)), .val (.ref r64), .val (.ref b46)] [(.int (if (own_io [r47, r49, r51, (46 : Int32), r55, r57, r59] 0 < (0 : Int32)) then (1 : Int32) else 0))])) st68 ?_
            refine own_ww (T' := T68) (g' := (mkF m 278 #[.val (.int kk), .val (.long xl), .second, .val (.long yl), .second, .val (.int (kk &&& (7 : Int32))), .val (.ref b61), .val (.int (2 : Int32)), .val (.ref r64), .val (.ref b46)] [(.int (2 : Int32)), (.int (if (own_io [r47, r49, r51, (46 : Int32), r55, r57, r59] 0 < (0 : Int32)) then (1 : Int32) else 0))])) (fun _ k_ => XS.iload X68.here hx rfl (hb hby at_276) rfl k_) ?_
            refine own_ww (T' := T68) (g' := (mkF m 279 #[.val (.int kk), .val (.long xl), .second, .val (.long yl), .second, .val (.int (kk &&& (7 : Int32))), .val (.ref b61), .val (.int (2 : Int32)), .val (.ref r64), .val (.ref b46)] [(.int (1 : Int32)), (.int (2 : Int32)), (.int (if (own_io [r47, r49, r51, (46 : Int32), r55, r57, r59] 0 < (0 : Int32)) then (1 : Int32) else 0))])) (fun _ k_ => XS.iconst X68.here hx rfl (hb hby at_278) k_) ?_
            refine own_ww (T' := T68) (g' := (mkF m 286 #[.val (.int kk), .val (.long xl), .second, .val (.long yl), .second, .val (.int (kk &&& (7 : Int32))), .val (.ref b61), .val (.int (2 : Int32)), .val (.ref r64), .val (.ref b46)] [(.int (if (own_io [r47, r49, r51, (46 : Int32), r55, r57, r59] 0 < (0 : Int32)) then (1 : Int32) else 0))])) (fun _ k_ => XS.icmpYes X68.here hx rfl (pc0 := 279) (pc' := 286) rfl (hb hby at_279) rfl (feq (by decide)).2 (by decide) (by decide) k_) ?_
            refine own_ww (T' := T68) (g' := (mkF m 287 #[.val (.int kk), .val (.long xl), .second, .val (.long yl), .second, .val (.int (kk &&& (7 : Int32))), .val (.ref b61), .val (.int (2 : Int32)), .val (.ref r64), .val (.ref b46)] [(.int (0 : Int32)), (.int (if (own_io [r47, r49, r51, (46 : Int32), r55, r57, r59] 0 < (0 : Int32)) then (1 : Int32) else 0))])) (fun _ k_ => XS.iconst X68.here hx rfl (hb hby at_286) k_) ?_
            refine own_ww (T' := T68) (g' := (mkF m 290 #[.val (.int kk), .val (.long xl), .second, .val (.long yl), .second, .val (.int (kk &&& (7 : Int32))), .val (.ref b61), .val (.int (2 : Int32)), .val (.ref r64), .val (.ref b46)] [])) (fun _ k_ => XS.icmpNo X68.here hx rfl (hb hby at_287) rfl (teq (if_neg hro)).2 k_) ?_
            refine own_ww (T' := T68) (g' := (mkF m 291 #[.val (.int kk), .val (.long xl), .second, .val (.long yl), .second, .val (.int (kk &&& (7 : Int32))), .val (.ref b61), .val (.int (2 : Int32)), .val (.ref r64), .val (.ref b46)] [(.int (1 : Int32))])) (fun _ k_ => XS.iconst X68.here hx rfl (hb hby at_290) k_) ?_
            refine own_ww (T' := T68) (g' := (mkF m 295 #[.val (.int kk), .val (.long xl), .second, .val (.long yl), .second, .val (.int (kk &&& (7 : Int32))), .val (.ref b61), .val (.int (2 : Int32)), .val (.ref r64), .val (.ref b46)] [(.int (1 : Int32))])) (fun _ k_ => XS.goto X68.here hx rfl (pc0 := 291) (pc' := 295) rfl (hb hby at_291) (by decide) (by decide) k_) ?_
            obtain ⟨fs, hr, hrun, hended, hRE⟩ := X68.leaveW (own_since hS64 CS64.2.1) (by rw [e68]; exact Nat.le_refl _) (v := some (.int (1 : Int32))) (fun h => by rw [Bd.returns] at h; cases h)
            exact ⟨_, _, retOut X68 hx Bd.returns rfl (Or.inl ⟨rfl, Or.inr (Or.inl rfl), _, rfl⟩) (hb hby at_295) hr, hrun, hended, _, _, rfl, (by show own_Q0 Z kk xl yl cs sf h0 n0 _ T68.heap _; rw [e68]; exact ⟨rfl, N68⟩), (by show CHr Z own_EL s.vm s.heap T68.vm T68.heap; rw [e68, hh]; exact (CB64.trans CS64).trans (CHv.at X68 hZ64 (own_EW hw) CS64.1)), own_rmono hRE (by decide) (by decide)⟩
          · refine own_ww (T' := s₁) (g' := (mkF m 91 #[.val (.int kk), .val (.long xl), .second, .val (.long yl), .second, .val (.int (kk &&& (7 : Int32))), .unset, .unset, .unset, .unset] [])) (fun _ k_ => XS.icmpYes X0.here hx rfl (pc0 := 78) (pc' := 91) rfl (hb hby at_78) rfl (feq hc78).2 (by decide) (by decide) k_) ?_
            refine own_ww (T' := s₁) (g' := (mkF m 93 #[.val (.int kk), .val (.long xl), .second, .val (.long yl), .second, .val (.int (kk &&& (7 : Int32))), .unset, .unset, .unset, .unset] [(.int (kk &&& (7 : Int32)))])) (fun _ k_ => XS.iload X0.here hx rfl (hb hby at_91) rfl k_) ?_
            refine own_ww (T' := s₁) (g' := (mkF m 94 #[.val (.int kk), .val (.long xl), .second, .val (.long yl), .second, .val (.int (kk &&& (7 : Int32))), .unset, .unset, .unset, .unset] [(.int (2 : Int32)), (.int (kk &&& (7 : Int32)))])) (fun _ k_ => XS.iconst X0.here hx rfl (hb hby at_93) k_) ?_
            by_cases hc94 : (kk &&& (7 : Int32)) = (2 : Int32)
            · refine own_ww (T' := s₁) (g' := (mkF m 97 #[.val (.int kk), .val (.long xl), .second, .val (.long yl), .second, .val (.int (kk &&& (7 : Int32))), .unset, .unset, .unset, .unset] [])) (fun _ k_ => XS.icmpNo X0.here hx rfl (hb hby at_94) rfl (teq hc94).2 k_) ?_
              refine own_ww (T' := s₁) (g' := (mkF m 99 #[.val (.int kk), .val (.long xl), .second, .val (.long yl), .second, .val (.int (kk &&& (7 : Int32))), .unset, .unset, .unset, .unset] [(.int (34 : Int32))])) (fun _ k_ => XS.bipush X0.here hx rfl (hb hby at_97) k_) ?_
              refine own_ww (T' := s₁) (g' := (mkF m 101 #[.val (.int kk), .val (.long xl), .second, .val (.long yl), .second, .val (.int (kk &&& (7 : Int32))), .unset, .unset, .val (.int (34 : Int32)), .unset] [])) (fun _ k_ => XS.istore X0.here hx rfl (hb hby at_99) rfl (l' := #[.val (.int kk), .val (.long xl), .second, .val (.long yl), .second, .val (.int (kk &&& (7 : Int32))), .unset, .unset, .val (.int (34 : Int32)), .unset]) rfl k_) ?_
              refine own_ww (T' := s₁) (g' := (mkF m 102 #[.val (.int kk), .val (.long xl), .second, .val (.long yl), .second, .val (.int (kk &&& (7 : Int32))), .unset, .unset, .val (.int (34 : Int32)), .unset] [(.int (3 : Int32))])) (fun _ k_ => XS.iconst X0.here hx rfl (hb hby at_101) k_) ?_
              refine own_ww (T' := s₁) (g' := (mkF m 104 #[.val (.int kk), .val (.long xl), .second, .val (.long yl), .second, .val (.int (kk &&& (7 : Int32))), .unset, .val (.int (3 : Int32)), .val (.int (34 : Int32)), .unset] [])) (fun _ k_ => XS.istore X0.here hx rfl (hb hby at_102) rfl (l' := #[.val (.int kk), .val (.long xl), .second, .val (.long yl), .second, .val (.int (kk &&& (7 : Int32))), .unset, .val (.int (3 : Int32)), .val (.int (34 : Int32)), .unset]) rfl k_) ?_
              refine own_ww (T' := s₁) (g' := (mkF m 130 #[.val (.int kk), .val (.long xl), .second, .val (.long yl), .second, .val (.int (kk &&& (7 : Int32))), .unset, .val (.int (3 : Int32)), .val (.int (34 : Int32)), .unset] [])) (fun _ k_ => XS.goto X0.here hx rfl (pc0 := 104) (pc' := 130) rfl (hb hby at_104) (by decide) (by decide) k_) ?_
              refine own_ww (T' := s₁) (g' := (mkF m 132 #[.val (.int kk), .val (.long xl), .second, .val (.long yl), .second, .val (.int (kk &&& (7 : Int32))), .unset, .val (.int (3 : Int32)), .val (.int (34 : Int32)), .unset] [(.int (7 : Int32))])) (fun _ k_ => XS.bipush X0.here hx rfl (hb hby at_130) k_) ?_
              obtain ⟨T69, h69, k69, X69, e69, E69, A69, st69⟩ := newP X0 hx hZ (hw _ (List.mem_of_getElem? (i := 0) rfl)) e0 (g := (mkF m 132 #[.val (.int kk), .val (.long xl), .second, .val (.long yl), .second, .val (.int (kk &&& (7 : Int32))), .unset, .val (.int (3 : Int32)), .val (.int (34 : Int32)), .unset] [(.int (7 : Int32))])) rfl (hb hby at_132) rfl (by decide) (cap := 7) (by decide) (by decide) (by decide) (by decide)
              obtain ⟨b69, gq69⟩ : ∃ z, z = h0.size := ⟨_, rfl⟩
              rw [← gq69] at A69 st69
              have V_b69 := own_Ar_new A69 rfl (k := 7) rfl
              have g_b69 : n0 ≤ b69 := Nat.le_trans Z0 (Nat.le_of_eq gq69.symm)
              have Z69 : n0 ≤ h69.size := Nat.le_trans Z0 E69.1
              have CS69 : CHr Z own_EL s.vm h0 s.vm h69 := CB0.trans (CHr.ext E69 CB0.1)
              have sf69_b69 : Safe Z own_EL s.vm h69 b69 := Safe.ext E69 CB0.1 (Safe.new (Nat.le_of_eq gq69.symm))
              refine own_ww (T' := T69) (g' := (mkF m 134 #[.val (.int kk), .val (.long xl), .second, .val (.long yl), .second, .val (.int (kk &&& (7 : Int32))), .unset, .val (.int (3 : Int32)), .val (.int (34 : Int32)), .unset] [(.ref b69)])) st69 ?_
              have KK : Keep h0 h69 [] := (Keep.refl h0 []).ext E69
              refine own_ww (T' := T69) (g' := (mkF m 136 #[.val (.int kk), .val (.long xl), .second, .val (.long yl), .second, .val (.int (kk &&& (7 : Int32))), .unset, .val (.int (3 : Int32)), .val (.int (34 : Int32)), .val (.ref b69)] [])) (fun _ k_ => XS.astore X69.here hx rfl (hb hby at_134) rfl rfl (l' := #[.val (.int kk), .val (.long xl), .second, .val (.long yl), .second, .val (.int (kk &&& (7 : Int32))), .unset, .val (.int (3 : Int32)), .val (.int (34 : Int32)), .val (.ref b69)]) rfl k_) ?_
              refine own_ww (T' := T69) (g' := (mkF m 138 #[.val (.int kk), .val (.long xl), .second, .val (.long yl), .second, .val (.int (kk &&& (7 : Int32))), .unset, .val (.int (3 : Int32)), .val (.int (34 : Int32)), .val (.ref b69)] [(.ref b69)])) (fun _ k_ => XS.aload X69.here hx rfl (hb hby at_136) rfl rfl k_) ?_
              refine own_ww (T' := T69) (g' := (mkF m 139 #[.val (.int kk), .val (.long xl), .second, .val (.long yl), .second, .val (.int (kk &&& (7 : Int32))), .unset, .val (.int (3 : Int32)), .val (.int (34 : Int32)), .val (.ref b69)] [(.int (0 : Int32)), (.ref b69)])) (fun _ k_ => XS.iconst X69.here hx rfl (hb hby at_138) k_) ?_
              refine own_ww (T' := T69) (g' := (mkF m 141 #[.val (.int kk), .val (.long xl), .second, .val (.long yl), .second, .val (.int (kk &&& (7 : Int32))), .unset, .val (.int (3 : Int32)), .val (.int (34 : Int32)), .val (.ref b69)] [(.int (34 : Int32)), (.int (0 : Int32)), (.ref b69)])) (fun _ k_ => XS.iload X69.here hx rfl (hb hby at_139) rfl k_) ?_
              refine own_ww (T' := T69) (g' := (mkF m 142 #[.val (.int kk), .val (.long xl), .second, .val (.long yl), .second, .val (.int (kk &&& (7 : Int32))), .unset, .val (.int (3 : Int32)), .val (.int (34 : Int32)), .val (.ref b69)] [(.int (0 : Int32)), (.int (34 : Int32)), (.int (0 : Int32)), (.ref b69)])) (fun _ k_ => XS.iconst X69.here hx rfl (hb hby at_141) k_) ?_
              refine own_ww (T' := T69) (g' := (mkF m 143 #[.val (.int kk), .val (.long xl), .second, .val (.long yl), .second, .val (.int (kk &&& (7 : Int32))), .unset, .val (.int (3 : Int32)), .val (.int (34 : Int32)), .val (.ref b69)] [(.long xl), (.int (0 : Int32)), (.int (34 : Int32)), (.int (0 : Int32)), (.ref b69)])) (fun _ k_ => XS.lloadN X69.here hx rfl (hb hby at_142) rfl k_) ?_
              obtain ⟨_, _, ⟨T70, L70, k70, n70⟩, -, X70, ⟨Lc70, hQ70, l70, y70, z70⟩, st70⟩ := Jvm.LawKit.callS X69 hx (y := (⟨"com/example/adjacency/adjacency/identity/NodeNameParsePinLaw", "pos", "(IIJ)C"⟩ : MethodName)) hown (mvT hZ (hw _ (List.mem_of_getElem? (i := 1) rfl))) (mvT hZ (hw _ (List.mem_of_getElem? (i := 2) rfl))) (mvT hZ (hw _ (List.mem_of_getElem? (i := 3) rfl))) (mvT hZ (hw _ (List.mem_of_getElem? (i := 4) rfl))) (by decide) (backOf (W := 2) (own_rm1_c l Z a0 hw [] (34 : Int32) (0 : Int32) xl  h69 n0 Z69 (by decide)) hZ (hw _ (List.mem_of_getElem? (i := 4) rfl)) (hw _ (List.mem_of_getElem? (i := 3) rfl)) (by decide) (by decide)) (g := (mkF m 143 #[.val (.int kk), .val (.long xl), .second, .val (.long yl), .second, .val (.int (kk &&& (7 : Int32))), .unset, .val (.int (3 : Int32)), .val (.int (34 : Int32)), .val (.ref b69)] [(.long xl), (.int (0 : Int32)), (.int (34 : Int32)), (.int (0 : Int32)), (.ref b69)])) rfl (by rw [hml]; rfl) (argsL := [(.int (34 : Int32)), (.int (0 : Int32)), (.long xl)]) (rest := [(.int (0 : Int32)), (.ref b69)]) (lenOf own_pd27 rfl) rfl (by show 2 * 0 + _ ≤ _; exact Nat.le_of_eq rfl) (hb hby at_143) (fun _ _ => ⟨rfl, e69, (by decide : 1 + 0 ≤ _), (by decide : 7 + 0 ≤ _)⟩)
              dsimp only [Pt.U, Pt.locs, Pt.cells, Pt.slots] at X70 l70 y70 z70 st70 hQ70
              subst l70 y70 z70
              obtain ⟨r70, rfl, N70q, e70, ok70, nh70⟩ := hQ70
              have N70 := Fr.app N0 N70q
              refine own_ww (T' := T70) (g' := (mkF m 146 #[.val (.int kk), .val (.long xl), .second, .val (.long yl), .second, .val (.int (kk &&& (7 : Int32))), .unset, .val (.int (3 : Int32)), .val (.int (34 : Int32)), .val (.ref b69)] [(.int r70), (.int (0 : Int32)), (.ref b69)])) st70 ?_
              obtain ⟨cl71, Ar71, hs71⟩ := id V_b69
              obtain ⟨T71, h71, X71, e71, W71, st71⟩ := stC X70 hx hZ e70 Ar71 (j := (0 : Int32)) (own_Ar_in (i := 0) hs71 (by decide) (by simp)) (g := (mkF m 146 #[.val (.int kk), .val (.long xl), .second, .val (.long yl), .second, .val (.int (kk &&& (7 : Int32))), .unset, .val (.int (3 : Int32)), .val (.int (34 : Int32)), .val (.ref b69)] [(.int r70), (.int (0 : Int32)), (.ref b69)])) rfl rfl (hb hby at_146)
              have V71 := own_Ar_set (i := 0) (v := r70) V_b69 W71 (by decide) (own_i2c_small (own_ok128 ok70).1 (Int.lt_trans (own_ok128 ok70).2 (by decide)))
              have N71 := Fr.snoc X71 N70 g_b69
              have Z71 : n0 ≤ h71.size := Nat.le_trans Z69 (Keep.of_wr W71).1
              have CS71 : CHr Z own_EL s.vm h0 s.vm h71 := CS69.trans (CHr.wr W71 sf69_b69 CS69.1)
              have sf71_b69 := Safe.wr W71 sf69_b69 CS69.1 sf69_b69
              refine own_ww (T' := T71) (g' := (mkF m 147 #[.val (.int kk), .val (.long xl), .second, .val (.long yl), .second, .val (.int (kk &&& (7 : Int32))), .unset, .val (.int (3 : Int32)), .val (.int (34 : Int32)), .val (.ref b69)] [])) st71 ?_
              have K71 := KK.wr W71 (Or.inr (Nat.le_of_eq gq69.symm))
              refine own_ww (T' := T71) (g' := (mkF m 149 #[.val (.int kk), .val (.long xl), .second, .val (.long yl), .second, .val (.int (kk &&& (7 : Int32))), .unset, .val (.int (3 : Int32)), .val (.int (34 : Int32)), .val (.ref b69)] [(.ref b69)])) (fun _ k_ => XS.aload X71.here hx rfl (hb hby at_147) rfl rfl k_) ?_
              refine own_ww (T' := T71) (g' := (mkF m 150 #[.val (.int kk), .val (.long xl), .second, .val (.long yl), .second, .val (.int (kk &&& (7 : Int32))), .unset, .val (.int (3 : Int32)), .val (.int (34 : Int32)), .val (.ref b69)] [(.int (1 : Int32)), (.ref b69)])) (fun _ k_ => XS.iconst X71.here hx rfl (hb hby at_149) k_) ?_
              refine own_ww (T' := T71) (g' := (mkF m 152 #[.val (.int kk), .val (.long xl), .second, .val (.long yl), .second, .val (.int (kk &&& (7 : Int32))), .unset, .val (.int (3 : Int32)), .val (.int (34 : Int32)), .val (.ref b69)] [(.int (34 : Int32)), (.int (1 : Int32)), (.ref b69)])) (fun _ k_ => XS.iload X71.here hx rfl (hb hby at_150) rfl k_) ?_
              refine own_ww (T' := T71) (g' := (mkF m 153 #[.val (.int kk), .val (.long xl), .second, .val (.long yl), .second, .val (.int (kk &&& (7 : Int32))), .unset, .val (.int (3 : Int32)), .val (.int (34 : Int32)), .val (.ref b69)] [(.int (1 : Int32)), (.int (34 : Int32)), (.int (1 : Int32)), (.ref b69)])) (fun _ k_ => XS.iconst X71.here hx rfl (hb hby at_152) k_) ?_
              refine own_ww (T' := T71) (g' := (mkF m 154 #[.val (.int kk), .val (.long xl), .second, .val (.long yl), .second, .val (.int (kk &&& (7 : Int32))), .unset, .val (.int (3 : Int32)), .val (.int (34 : Int32)), .val (.ref b69)] [(.long xl), (.int (1 : Int32)), (.int (34 : Int32)), (.int (1 : Int32)), (.ref b69)])) (fun _ k_ => XS.lloadN X71.here hx rfl (hb hby at_153) rfl k_) ?_
              refine own_ww (T' := T71) (g' := (mkF m 156 #[.val (.int kk), .val (.long xl), .second, .val (.long yl), .second, .val (.int (kk &&& (7 : Int32))), .unset, .val (.int (3 : Int32)), .val (.int (34 : Int32)), .val (.ref b69)] [(.int (21 : Int32)), (.long xl), (.int (1 : Int32)), (.int (34 : Int32)), (.int (1 : Int32)), (.ref b69)])) (fun _ k_ => XS.bipush X71.here hx rfl (hb hby at_154) k_) ?_
              refine own_ww (T' := T71) (g' := (mkF m 157 #[.val (.int kk), .val (.long xl), .second, .val (.long yl), .second, .val (.int (kk &&& (7 : Int32))), .unset, .val (.int (3 : Int32)), .val (.int (34 : Int32)), .val (.ref b69)] [(.long ((xl.toUInt64 >>> ((21 : Int32) &&& 0x3f).toInt64.toUInt64).toInt64)), (.int (1 : Int32)), (.int (34 : Int32)), (.int (1 : Int32)), (.ref b69)])) (fun _ k_ => XS.lushr X71.here hx rfl (hb hby at_156) rfl k_) ?_
              obtain ⟨_, _, ⟨T72, L72, k72, n72⟩, -, X72, ⟨Lc72, hQ72, l72, y72, z72⟩, st72⟩ := Jvm.LawKit.callS X71 hx (y := (⟨"com/example/adjacency/adjacency/identity/NodeNameParsePinLaw", "pos", "(IIJ)C"⟩ : MethodName)) hown (mvT hZ (hw _ (List.mem_of_getElem? (i := 1) rfl))) (mvT hZ (hw _ (List.mem_of_getElem? (i := 2) rfl))) (mvT hZ (hw _ (List.mem_of_getElem? (i := 3) rfl))) (mvT hZ (hw _ (List.mem_of_getElem? (i := 4) rfl))) (by decide) (backOf (W := 2) (own_rm1_d l Z a0 hw [] (34 : Int32) (1 : Int32) ((xl.toUInt64 >>> ((21 : Int32) &&& 0x3f).toInt64.toUInt64).toInt64)  h71 n0 Z71 (by decide)) hZ (hw _ (List.mem_of_getElem? (i := 4) rfl)) (hw _ (List.mem_of_getElem? (i := 3) rfl)) (by decide) (by decide)) (g := (mkF m 157 #[.val (.int kk), .val (.long xl), .second, .val (.long yl), .second, .val (.int (kk &&& (7 : Int32))), .unset, .val (.int (3 : Int32)), .val (.int (34 : Int32)), .val (.ref b69)] [(.long ((xl.toUInt64 >>> ((21 : Int32) &&& 0x3f).toInt64.toUInt64).toInt64)), (.int (1 : Int32)), (.int (34 : Int32)), (.int (1 : Int32)), (.ref b69)])) rfl (by rw [hml]; rfl) (argsL := [(.int (34 : Int32)), (.int (1 : Int32)), (.long ((xl.toUInt64 >>> ((21 : Int32) &&& 0x3f).toInt64.toUInt64).toInt64))]) (rest := [(.int (1 : Int32)), (.ref b69)]) (lenOf own_pd27 rfl) rfl (by show 2 * 0 + _ ≤ _; exact Nat.le_of_eq rfl) (hb hby at_157) (fun _ _ => ⟨rfl, e71, (by decide : 1 + 0 ≤ _), (by decide : 7 + 0 ≤ _)⟩)
              dsimp only [Pt.U, Pt.locs, Pt.cells, Pt.slots] at X72 l72 y72 z72 st72 hQ72
              subst l72 y72 z72
              obtain ⟨rfl, N72q, e72⟩ := hQ72
              have N72 := Fr.app N71 N72q
              refine own_ww (T' := T72) (g' := (mkF m 160 #[.val (.int kk), .val (.long xl), .second, .val (.long yl), .second, .val (.int (kk &&& (7 : Int32))), .unset, .val (.int (3 : Int32)), .val (.int (34 : Int32)), .val (.ref b69)] [(.int (46 : Int32)), (.int (1 : Int32)), (.ref b69)])) st72 ?_
              obtain ⟨cl73, Ar73, hs73⟩ := id V71
              obtain ⟨T73, h73, X73, e73, W73, st73⟩ := stC X72 hx hZ e72 Ar73 (j := (1 : Int32)) (own_Ar_in (i := 1) hs73 (by decide) (by simp)) (g := (mkF m 160 #[.val (.int kk), .val (.long xl), .second, .val (.long yl), .second, .val (.int (kk &&& (7 : Int32))), .unset, .val (.int (3 : Int32)), .val (.int (34 : Int32)), .val (.ref b69)] [(.int (46 : Int32)), (.int (1 : Int32)), (.ref b69)])) rfl rfl (hb hby at_160)
              have V73 := own_Ar_set (i := 1) (v := (46 : Int32)) V71 W73 (by decide) (by decide)
              have N73 := Fr.snoc X73 N72 g_b69
              have Z73 : n0 ≤ h73.size := Nat.le_trans Z71 (Keep.of_wr W73).1
              have CS73 : CHr Z own_EL s.vm h0 s.vm h73 := CS71.trans (CHr.wr W73 sf71_b69 CS71.1)
              have sf73_b69 := Safe.wr W73 sf71_b69 CS71.1 sf71_b69
              refine own_ww (T' := T73) (g' := (mkF m 161 #[.val (.int kk), .val (.long xl), .second, .val (.long yl), .second, .val (.int (kk &&& (7 : Int32))), .unset, .val (.int (3 : Int32)), .val (.int (34 : Int32)), .val (.ref b69)] [])) st73 ?_
              have K73 := K71.wr W73 (Or.inr (Nat.le_of_eq gq69.symm))
              refine own_ww (T' := T73) (g' := (mkF m 163 #[.val (.int kk), .val (.long xl), .second, .val (.long yl), .second, .val (.int (kk &&& (7 : Int32))), .unset, .val (.int (3 : Int32)), .val (.int (34 : Int32)), .val (.ref b69)] [(.ref b69)])) (fun _ k_ => XS.aload X73.here hx rfl (hb hby at_161) rfl rfl k_) ?_
              refine own_ww (T' := T73) (g' := (mkF m 164 #[.val (.int kk), .val (.long xl), .second, .val (.long yl), .second, .val (.int (kk &&& (7 : Int32))), .unset, .val (.int (3 : Int32)), .val (.int (34 : Int32)), .val (.ref b69)] [(.int (2 : Int32)), (.ref b69)])) (fun _ k_ => XS.iconst X73.here hx rfl (hb hby at_163) k_) ?_
              refine own_ww (T' := T73) (g' := (mkF m 166 #[.val (.int kk), .val (.long xl), .second, .val (.long yl), .second, .val (.int (kk &&& (7 : Int32))), .unset, .val (.int (3 : Int32)), .val (.int (34 : Int32)), .val (.ref b69)] [(.int (34 : Int32)), (.int (2 : Int32)), (.ref b69)])) (fun _ k_ => XS.iload X73.here hx rfl (hb hby at_164) rfl k_) ?_
              refine own_ww (T' := T73) (g' := (mkF m 167 #[.val (.int kk), .val (.long xl), .second, .val (.long yl), .second, .val (.int (kk &&& (7 : Int32))), .unset, .val (.int (3 : Int32)), .val (.int (34 : Int32)), .val (.ref b69)] [(.int (2 : Int32)), (.int (34 : Int32)), (.int (2 : Int32)), (.ref b69)])) (fun _ k_ => XS.iconst X73.here hx rfl (hb hby at_166) k_) ?_
              refine own_ww (T' := T73) (g' := (mkF m 168 #[.val (.int kk), .val (.long xl), .second, .val (.long yl), .second, .val (.int (kk &&& (7 : Int32))), .unset, .val (.int (3 : Int32)), .val (.int (34 : Int32)), .val (.ref b69)] [(.long xl), (.int (2 : Int32)), (.int (34 : Int32)), (.int (2 : Int32)), (.ref b69)])) (fun _ k_ => XS.lloadN X73.here hx rfl (hb hby at_167) rfl k_) ?_
              refine own_ww (T' := T73) (g' := (mkF m 170 #[.val (.int kk), .val (.long xl), .second, .val (.long yl), .second, .val (.int (kk &&& (7 : Int32))), .unset, .val (.int (3 : Int32)), .val (.int (34 : Int32)), .val (.ref b69)] [(.int (42 : Int32)), (.long xl), (.int (2 : Int32)), (.int (34 : Int32)), (.int (2 : Int32)), (.ref b69)])) (fun _ k_ => XS.bipush X73.here hx rfl (hb hby at_168) k_) ?_
              refine own_ww (T' := T73) (g' := (mkF m 171 #[.val (.int kk), .val (.long xl), .second, .val (.long yl), .second, .val (.int (kk &&& (7 : Int32))), .unset, .val (.int (3 : Int32)), .val (.int (34 : Int32)), .val (.ref b69)] [(.long ((xl.toUInt64 >>> ((42 : Int32) &&& 0x3f).toInt64.toUInt64).toInt64)), (.int (2 : Int32)), (.int (34 : Int32)), (.int (2 : Int32)), (.ref b69)])) (fun _ k_ => XS.lushr X73.here hx rfl (hb hby at_170) rfl k_) ?_
              obtain ⟨_, _, ⟨T74, L74, k74, n74⟩, -, X74, ⟨Lc74, hQ74, l74, y74, z74⟩, st74⟩ := Jvm.LawKit.callS X73 hx (y := (⟨"com/example/adjacency/adjacency/identity/NodeNameParsePinLaw", "pos", "(IIJ)C"⟩ : MethodName)) hown (mvT hZ (hw _ (List.mem_of_getElem? (i := 1) rfl))) (mvT hZ (hw _ (List.mem_of_getElem? (i := 2) rfl))) (mvT hZ (hw _ (List.mem_of_getElem? (i := 3) rfl))) (mvT hZ (hw _ (List.mem_of_getElem? (i := 4) rfl))) (by decide) (backOf (W := 2) (own_rm1_c l Z a0 hw [] (34 : Int32) (2 : Int32) ((xl.toUInt64 >>> ((42 : Int32) &&& 0x3f).toInt64.toUInt64).toInt64)  h73 n0 Z73 (by decide)) hZ (hw _ (List.mem_of_getElem? (i := 4) rfl)) (hw _ (List.mem_of_getElem? (i := 3) rfl)) (by decide) (by decide)) (g := (mkF m 171 #[.val (.int kk), .val (.long xl), .second, .val (.long yl), .second, .val (.int (kk &&& (7 : Int32))), .unset, .val (.int (3 : Int32)), .val (.int (34 : Int32)), .val (.ref b69)] [(.long ((xl.toUInt64 >>> ((42 : Int32) &&& 0x3f).toInt64.toUInt64).toInt64)), (.int (2 : Int32)), (.int (34 : Int32)), (.int (2 : Int32)), (.ref b69)])) rfl (by rw [hml]; rfl) (argsL := [(.int (34 : Int32)), (.int (2 : Int32)), (.long ((xl.toUInt64 >>> ((42 : Int32) &&& 0x3f).toInt64.toUInt64).toInt64))]) (rest := [(.int (2 : Int32)), (.ref b69)]) (lenOf own_pd27 rfl) rfl (by show 2 * 0 + _ ≤ _; exact Nat.le_of_eq rfl) (hb hby at_171) (fun _ _ => ⟨rfl, e73, (by decide : 1 + 0 ≤ _), (by decide : 7 + 0 ≤ _)⟩)
              dsimp only [Pt.U, Pt.locs, Pt.cells, Pt.slots] at X74 l74 y74 z74 st74 hQ74
              subst l74 y74 z74
              obtain ⟨r74, rfl, N74q, e74, ok74, nh74⟩ := hQ74
              have N74 := Fr.app N73 N74q
              refine own_ww (T' := T74) (g' := (mkF m 174 #[.val (.int kk), .val (.long xl), .second, .val (.long yl), .second, .val (.int (kk &&& (7 : Int32))), .unset, .val (.int (3 : Int32)), .val (.int (34 : Int32)), .val (.ref b69)] [(.int r74), (.int (2 : Int32)), (.ref b69)])) st74 ?_
              obtain ⟨cl75, Ar75, hs75⟩ := id V73
              obtain ⟨T75, h75, X75, e75, W75, st75⟩ := stC X74 hx hZ e74 Ar75 (j := (2 : Int32)) (own_Ar_in (i := 2) hs75 (by decide) (by simp)) (g := (mkF m 174 #[.val (.int kk), .val (.long xl), .second, .val (.long yl), .second, .val (.int (kk &&& (7 : Int32))), .unset, .val (.int (3 : Int32)), .val (.int (34 : Int32)), .val (.ref b69)] [(.int r74), (.int (2 : Int32)), (.ref b69)])) rfl rfl (hb hby at_174)
              have V75 := own_Ar_set (i := 2) (v := r74) V73 W75 (by decide) (own_i2c_small (own_ok128 ok74).1 (Int.lt_trans (own_ok128 ok74).2 (by decide)))
              have N75 := Fr.snoc X75 N74 g_b69
              have Z75 : n0 ≤ h75.size := Nat.le_trans Z73 (Keep.of_wr W75).1
              have CS75 : CHr Z own_EL s.vm h0 s.vm h75 := CS73.trans (CHr.wr W75 sf73_b69 CS73.1)
              have sf75_b69 := Safe.wr W75 sf73_b69 CS73.1 sf73_b69
              refine own_ww (T' := T75) (g' := (mkF m 175 #[.val (.int kk), .val (.long xl), .second, .val (.long yl), .second, .val (.int (kk &&& (7 : Int32))), .unset, .val (.int (3 : Int32)), .val (.int (34 : Int32)), .val (.ref b69)] [])) st75 ?_
              have K75 := K73.wr W75 (Or.inr (Nat.le_of_eq gq69.symm))
              refine own_ww (T' := T75) (g' := (mkF m 177 #[.val (.int kk), .val (.long xl), .second, .val (.long yl), .second, .val (.int (kk &&& (7 : Int32))), .unset, .val (.int (3 : Int32)), .val (.int (34 : Int32)), .val (.ref b69)] [(.ref b69)])) (fun _ k_ => XS.aload X75.here hx rfl (hb hby at_175) rfl rfl k_) ?_
              refine own_ww (T' := T75) (g' := (mkF m 178 #[.val (.int kk), .val (.long xl), .second, .val (.long yl), .second, .val (.int (kk &&& (7 : Int32))), .unset, .val (.int (3 : Int32)), .val (.int (34 : Int32)), .val (.ref b69)] [(.int (3 : Int32)), (.ref b69)])) (fun _ k_ => XS.iconst X75.here hx rfl (hb hby at_177) k_) ?_
              refine own_ww (T' := T75) (g' := (mkF m 180 #[.val (.int kk), .val (.long xl), .second, .val (.long yl), .second, .val (.int (kk &&& (7 : Int32))), .unset, .val (.int (3 : Int32)), .val (.int (34 : Int32)), .val (.ref b69)] [(.int (34 : Int32)), (.int (3 : Int32)), (.ref b69)])) (fun _ k_ => XS.iload X75.here hx rfl (hb hby at_178) rfl k_) ?_
              refine own_ww (T' := T75) (g' := (mkF m 181 #[.val (.int kk), .val (.long xl), .second, .val (.long yl), .second, .val (.int (kk &&& (7 : Int32))), .unset, .val (.int (3 : Int32)), .val (.int (34 : Int32)), .val (.ref b69)] [(.int (3 : Int32)), (.int (34 : Int32)), (.int (3 : Int32)), (.ref b69)])) (fun _ k_ => XS.iconst X75.here hx rfl (hb hby at_180) k_) ?_
              refine own_ww (T' := T75) (g' := (mkF m 182 #[.val (.int kk), .val (.long xl), .second, .val (.long yl), .second, .val (.int (kk &&& (7 : Int32))), .unset, .val (.int (3 : Int32)), .val (.int (34 : Int32)), .val (.ref b69)] [(.long yl), (.int (3 : Int32)), (.int (34 : Int32)), (.int (3 : Int32)), (.ref b69)])) (fun _ k_ => XS.lloadN X75.here hx rfl (hb hby at_181) rfl k_) ?_
              obtain ⟨_, _, ⟨T76, L76, k76, n76⟩, -, X76, ⟨Lc76, hQ76, l76, y76, z76⟩, st76⟩ := Jvm.LawKit.callS X75 hx (y := (⟨"com/example/adjacency/adjacency/identity/NodeNameParsePinLaw", "pos", "(IIJ)C"⟩ : MethodName)) hown (mvT hZ (hw _ (List.mem_of_getElem? (i := 1) rfl))) (mvT hZ (hw _ (List.mem_of_getElem? (i := 2) rfl))) (mvT hZ (hw _ (List.mem_of_getElem? (i := 3) rfl))) (mvT hZ (hw _ (List.mem_of_getElem? (i := 4) rfl))) (by decide) (backOf (W := 2) (own_rm1_c l Z a0 hw [] (34 : Int32) (3 : Int32) yl  h75 n0 Z75 (by decide)) hZ (hw _ (List.mem_of_getElem? (i := 4) rfl)) (hw _ (List.mem_of_getElem? (i := 3) rfl)) (by decide) (by decide)) (g := (mkF m 182 #[.val (.int kk), .val (.long xl), .second, .val (.long yl), .second, .val (.int (kk &&& (7 : Int32))), .unset, .val (.int (3 : Int32)), .val (.int (34 : Int32)), .val (.ref b69)] [(.long yl), (.int (3 : Int32)), (.int (34 : Int32)), (.int (3 : Int32)), (.ref b69)])) rfl (by rw [hml]; rfl) (argsL := [(.int (34 : Int32)), (.int (3 : Int32)), (.long yl)]) (rest := [(.int (3 : Int32)), (.ref b69)]) (lenOf own_pd27 rfl) rfl (by show 2 * 0 + _ ≤ _; exact Nat.le_of_eq rfl) (hb hby at_182) (fun _ _ => ⟨rfl, e75, (by decide : 1 + 0 ≤ _), (by decide : 7 + 0 ≤ _)⟩)
              dsimp only [Pt.U, Pt.locs, Pt.cells, Pt.slots] at X76 l76 y76 z76 st76 hQ76
              subst l76 y76 z76
              obtain ⟨r76, rfl, N76q, e76, ok76, nh76⟩ := hQ76
              have N76 := Fr.app N75 N76q
              refine own_ww (T' := T76) (g' := (mkF m 185 #[.val (.int kk), .val (.long xl), .second, .val (.long yl), .second, .val (.int (kk &&& (7 : Int32))), .unset, .val (.int (3 : Int32)), .val (.int (34 : Int32)), .val (.ref b69)] [(.int r76), (.int (3 : Int32)), (.ref b69)])) st76 ?_
              obtain ⟨cl77, Ar77, hs77⟩ := id V75
              obtain ⟨T77, h77, X77, e77, W77, st77⟩ := stC X76 hx hZ e76 Ar77 (j := (3 : Int32)) (own_Ar_in (i := 3) hs77 (by decide) (by simp)) (g := (mkF m 185 #[.val (.int kk), .val (.long xl), .second, .val (.long yl), .second, .val (.int (kk &&& (7 : Int32))), .unset, .val (.int (3 : Int32)), .val (.int (34 : Int32)), .val (.ref b69)] [(.int r76), (.int (3 : Int32)), (.ref b69)])) rfl rfl (hb hby at_185)
              have V77 := own_Ar_set (i := 3) (v := r76) V75 W77 (by decide) (own_i2c_small (own_ok128 ok76).1 (Int.lt_trans (own_ok128 ok76).2 (by decide)))
              have N77 := Fr.snoc X77 N76 g_b69
              have Z77 : n0 ≤ h77.size := Nat.le_trans Z75 (Keep.of_wr W77).1
              have CS77 : CHr Z own_EL s.vm h0 s.vm h77 := CS75.trans (CHr.wr W77 sf75_b69 CS75.1)
              have sf77_b69 := Safe.wr W77 sf75_b69 CS75.1 sf75_b69
              refine own_ww (T' := T77) (g' := (mkF m 186 #[.val (.int kk), .val (.long xl), .second, .val (.long yl), .second, .val (.int (kk &&& (7 : Int32))), .unset, .val (.int (3 : Int32)), .val (.int (34 : Int32)), .val (.ref b69)] [])) st77 ?_
              have K77 := K75.wr W77 (Or.inr (Nat.le_of_eq gq69.symm))
              refine own_ww (T' := T77) (g' := (mkF m 188 #[.val (.int kk), .val (.long xl), .second, .val (.long yl), .second, .val (.int (kk &&& (7 : Int32))), .unset, .val (.int (3 : Int32)), .val (.int (34 : Int32)), .val (.ref b69)] [(.ref b69)])) (fun _ k_ => XS.aload X77.here hx rfl (hb hby at_186) rfl rfl k_) ?_
              refine own_ww (T' := T77) (g' := (mkF m 189 #[.val (.int kk), .val (.long xl), .second, .val (.long yl), .second, .val (.int (kk &&& (7 : Int32))), .unset, .val (.int (3 : Int32)), .val (.int (34 : Int32)), .val (.ref b69)] [(.int (4 : Int32)), (.ref b69)])) (fun _ k_ => XS.iconst X77.here hx rfl (hb hby at_188) k_) ?_
              refine own_ww (T' := T77) (g' := (mkF m 191 #[.val (.int kk), .val (.long xl), .second, .val (.long yl), .second, .val (.int (kk &&& (7 : Int32))), .unset, .val (.int (3 : Int32)), .val (.int (34 : Int32)), .val (.ref b69)] [(.int (34 : Int32)), (.int (4 : Int32)), (.ref b69)])) (fun _ k_ => XS.iload X77.here hx rfl (hb hby at_189) rfl k_) ?_
              refine own_ww (T' := T77) (g' := (mkF m 192 #[.val (.int kk), .val (.long xl), .second, .val (.long yl), .second, .val (.int (kk &&& (7 : Int32))), .unset, .val (.int (3 : Int32)), .val (.int (34 : Int32)), .val (.ref b69)] [(.int (4 : Int32)), (.int (34 : Int32)), (.int (4 : Int32)), (.ref b69)])) (fun _ k_ => XS.iconst X77.here hx rfl (hb hby at_191) k_) ?_
              refine own_ww (T' := T77) (g' := (mkF m 193 #[.val (.int kk), .val (.long xl), .second, .val (.long yl), .second, .val (.int (kk &&& (7 : Int32))), .unset, .val (.int (3 : Int32)), .val (.int (34 : Int32)), .val (.ref b69)] [(.long yl), (.int (4 : Int32)), (.int (34 : Int32)), (.int (4 : Int32)), (.ref b69)])) (fun _ k_ => XS.lloadN X77.here hx rfl (hb hby at_192) rfl k_) ?_
              refine own_ww (T' := T77) (g' := (mkF m 195 #[.val (.int kk), .val (.long xl), .second, .val (.long yl), .second, .val (.int (kk &&& (7 : Int32))), .unset, .val (.int (3 : Int32)), .val (.int (34 : Int32)), .val (.ref b69)] [(.int (21 : Int32)), (.long yl), (.int (4 : Int32)), (.int (34 : Int32)), (.int (4 : Int32)), (.ref b69)])) (fun _ k_ => XS.bipush X77.here hx rfl (hb hby at_193) k_) ?_
              refine own_ww (T' := T77) (g' := (mkF m 196 #[.val (.int kk), .val (.long xl), .second, .val (.long yl), .second, .val (.int (kk &&& (7 : Int32))), .unset, .val (.int (3 : Int32)), .val (.int (34 : Int32)), .val (.ref b69)] [(.long ((yl.toUInt64 >>> ((21 : Int32) &&& 0x3f).toInt64.toUInt64).toInt64)), (.int (4 : Int32)), (.int (34 : Int32)), (.int (4 : Int32)), (.ref b69)])) (fun _ k_ => XS.lushr X77.here hx rfl (hb hby at_195) rfl k_) ?_
              obtain ⟨_, _, ⟨T78, L78, k78, n78⟩, -, X78, ⟨Lc78, hQ78, l78, y78, z78⟩, st78⟩ := Jvm.LawKit.callS X77 hx (y := (⟨"com/example/adjacency/adjacency/identity/NodeNameParsePinLaw", "pos", "(IIJ)C"⟩ : MethodName)) hown (mvT hZ (hw _ (List.mem_of_getElem? (i := 1) rfl))) (mvT hZ (hw _ (List.mem_of_getElem? (i := 2) rfl))) (mvT hZ (hw _ (List.mem_of_getElem? (i := 3) rfl))) (mvT hZ (hw _ (List.mem_of_getElem? (i := 4) rfl))) (by decide) (backOf (W := 2) (own_rm1_c l Z a0 hw [] (34 : Int32) (4 : Int32) ((yl.toUInt64 >>> ((21 : Int32) &&& 0x3f).toInt64.toUInt64).toInt64)  h77 n0 Z77 (by decide)) hZ (hw _ (List.mem_of_getElem? (i := 4) rfl)) (hw _ (List.mem_of_getElem? (i := 3) rfl)) (by decide) (by decide)) (g := (mkF m 196 #[.val (.int kk), .val (.long xl), .second, .val (.long yl), .second, .val (.int (kk &&& (7 : Int32))), .unset, .val (.int (3 : Int32)), .val (.int (34 : Int32)), .val (.ref b69)] [(.long ((yl.toUInt64 >>> ((21 : Int32) &&& 0x3f).toInt64.toUInt64).toInt64)), (.int (4 : Int32)), (.int (34 : Int32)), (.int (4 : Int32)), (.ref b69)])) rfl (by rw [hml]; rfl) (argsL := [(.int (34 : Int32)), (.int (4 : Int32)), (.long ((yl.toUInt64 >>> ((21 : Int32) &&& 0x3f).toInt64.toUInt64).toInt64))]) (rest := [(.int (4 : Int32)), (.ref b69)]) (lenOf own_pd27 rfl) rfl (by show 2 * 0 + _ ≤ _; exact Nat.le_of_eq rfl) (hb hby at_196) (fun _ _ => ⟨rfl, e77, (by decide : 1 + 0 ≤ _), (by decide : 7 + 0 ≤ _)⟩)
              dsimp only [Pt.U, Pt.locs, Pt.cells, Pt.slots] at X78 l78 y78 z78 st78 hQ78
              subst l78 y78 z78
              obtain ⟨r78, rfl, N78q, e78, ok78, nh78⟩ := hQ78
              have N78 := Fr.app N77 N78q
              refine own_ww (T' := T78) (g' := (mkF m 199 #[.val (.int kk), .val (.long xl), .second, .val (.long yl), .second, .val (.int (kk &&& (7 : Int32))), .unset, .val (.int (3 : Int32)), .val (.int (34 : Int32)), .val (.ref b69)] [(.int r78), (.int (4 : Int32)), (.ref b69)])) st78 ?_
              obtain ⟨cl79, Ar79, hs79⟩ := id V77
              obtain ⟨T79, h79, X79, e79, W79, st79⟩ := stC X78 hx hZ e78 Ar79 (j := (4 : Int32)) (own_Ar_in (i := 4) hs79 (by decide) (by simp)) (g := (mkF m 199 #[.val (.int kk), .val (.long xl), .second, .val (.long yl), .second, .val (.int (kk &&& (7 : Int32))), .unset, .val (.int (3 : Int32)), .val (.int (34 : Int32)), .val (.ref b69)] [(.int r78), (.int (4 : Int32)), (.ref b69)])) rfl rfl (hb hby at_199)
              have V79 := own_Ar_set (i := 4) (v := r78) V77 W79 (by decide) (own_i2c_small (own_ok128 ok78).1 (Int.lt_trans (own_ok128 ok78).2 (by decide)))
              have N79 := Fr.snoc X79 N78 g_b69
              have Z79 : n0 ≤ h79.size := Nat.le_trans Z77 (Keep.of_wr W79).1
              have CS79 : CHr Z own_EL s.vm h0 s.vm h79 := CS77.trans (CHr.wr W79 sf77_b69 CS77.1)
              have sf79_b69 := Safe.wr W79 sf77_b69 CS77.1 sf77_b69
              refine own_ww (T' := T79) (g' := (mkF m 200 #[.val (.int kk), .val (.long xl), .second, .val (.long yl), .second, .val (.int (kk &&& (7 : Int32))), .unset, .val (.int (3 : Int32)), .val (.int (34 : Int32)), .val (.ref b69)] [])) st79 ?_
              have K79 := K77.wr W79 (Or.inr (Nat.le_of_eq gq69.symm))
              refine own_ww (T' := T79) (g' := (mkF m 202 #[.val (.int kk), .val (.long xl), .second, .val (.long yl), .second, .val (.int (kk &&& (7 : Int32))), .unset, .val (.int (3 : Int32)), .val (.int (34 : Int32)), .val (.ref b69)] [(.ref b69)])) (fun _ k_ => XS.aload X79.here hx rfl (hb hby at_200) rfl rfl k_) ?_
              refine own_ww (T' := T79) (g' := (mkF m 203 #[.val (.int kk), .val (.long xl), .second, .val (.long yl), .second, .val (.int (kk &&& (7 : Int32))), .unset, .val (.int (3 : Int32)), .val (.int (34 : Int32)), .val (.ref b69)] [(.int (5 : Int32)), (.ref b69)])) (fun _ k_ => XS.iconst X79.here hx rfl (hb hby at_202) k_) ?_
              refine own_ww (T' := T79) (g' := (mkF m 205 #[.val (.int kk), .val (.long xl), .second, .val (.long yl), .second, .val (.int (kk &&& (7 : Int32))), .unset, .val (.int (3 : Int32)), .val (.int (34 : Int32)), .val (.ref b69)] [(.int (34 : Int32)), (.int (5 : Int32)), (.ref b69)])) (fun _ k_ => XS.iload X79.here hx rfl (hb hby at_203) rfl k_) ?_
              refine own_ww (T' := T79) (g' := (mkF m 206 #[.val (.int kk), .val (.long xl), .second, .val (.long yl), .second, .val (.int (kk &&& (7 : Int32))), .unset, .val (.int (3 : Int32)), .val (.int (34 : Int32)), .val (.ref b69)] [(.int (5 : Int32)), (.int (34 : Int32)), (.int (5 : Int32)), (.ref b69)])) (fun _ k_ => XS.iconst X79.here hx rfl (hb hby at_205) k_) ?_
              refine own_ww (T' := T79) (g' := (mkF m 207 #[.val (.int kk), .val (.long xl), .second, .val (.long yl), .second, .val (.int (kk &&& (7 : Int32))), .unset, .val (.int (3 : Int32)), .val (.int (34 : Int32)), .val (.ref b69)] [(.long yl), (.int (5 : Int32)), (.int (34 : Int32)), (.int (5 : Int32)), (.ref b69)])) (fun _ k_ => XS.lloadN X79.here hx rfl (hb hby at_206) rfl k_) ?_
              refine own_ww (T' := T79) (g' := (mkF m 209 #[.val (.int kk), .val (.long xl), .second, .val (.long yl), .second, .val (.int (kk &&& (7 : Int32))), .unset, .val (.int (3 : Int32)), .val (.int (34 : Int32)), .val (.ref b69)] [(.int (42 : Int32)), (.long yl), (.int (5 : Int32)), (.int (34 : Int32)), (.int (5 : Int32)), (.ref b69)])) (fun _ k_ => XS.bipush X79.here hx rfl (hb hby at_207) k_) ?_
              refine own_ww (T' := T79) (g' := (mkF m 210 #[.val (.int kk), .val (.long xl), .second, .val (.long yl), .second, .val (.int (kk &&& (7 : Int32))), .unset, .val (.int (3 : Int32)), .val (.int (34 : Int32)), .val (.ref b69)] [(.long ((yl.toUInt64 >>> ((42 : Int32) &&& 0x3f).toInt64.toUInt64).toInt64)), (.int (5 : Int32)), (.int (34 : Int32)), (.int (5 : Int32)), (.ref b69)])) (fun _ k_ => XS.lushr X79.here hx rfl (hb hby at_209) rfl k_) ?_
              obtain ⟨_, _, ⟨T80, L80, k80, n80⟩, -, X80, ⟨Lc80, hQ80, l80, y80, z80⟩, st80⟩ := Jvm.LawKit.callS X79 hx (y := (⟨"com/example/adjacency/adjacency/identity/NodeNameParsePinLaw", "pos", "(IIJ)C"⟩ : MethodName)) hown (mvT hZ (hw _ (List.mem_of_getElem? (i := 1) rfl))) (mvT hZ (hw _ (List.mem_of_getElem? (i := 2) rfl))) (mvT hZ (hw _ (List.mem_of_getElem? (i := 3) rfl))) (mvT hZ (hw _ (List.mem_of_getElem? (i := 4) rfl))) (by decide) (backOf (W := 2) (own_rm1_d l Z a0 hw [] (34 : Int32) (5 : Int32) ((yl.toUInt64 >>> ((42 : Int32) &&& 0x3f).toInt64.toUInt64).toInt64)  h79 n0 Z79 (by decide)) hZ (hw _ (List.mem_of_getElem? (i := 4) rfl)) (hw _ (List.mem_of_getElem? (i := 3) rfl)) (by decide) (by decide)) (g := (mkF m 210 #[.val (.int kk), .val (.long xl), .second, .val (.long yl), .second, .val (.int (kk &&& (7 : Int32))), .unset, .val (.int (3 : Int32)), .val (.int (34 : Int32)), .val (.ref b69)] [(.long ((yl.toUInt64 >>> ((42 : Int32) &&& 0x3f).toInt64.toUInt64).toInt64)), (.int (5 : Int32)), (.int (34 : Int32)), (.int (5 : Int32)), (.ref b69)])) rfl (by rw [hml]; rfl) (argsL := [(.int (34 : Int32)), (.int (5 : Int32)), (.long ((yl.toUInt64 >>> ((42 : Int32) &&& 0x3f).toInt64.toUInt64).toInt64))]) (rest := [(.int (5 : Int32)), (.ref b69)]) (lenOf own_pd27 rfl) rfl (by show 2 * 0 + _ ≤ _; exact Nat.le_of_eq rfl) (hb hby at_210) (fun _ _ => ⟨rfl, e79, (by decide : 1 + 0 ≤ _), (by decide : 7 + 0 ≤ _)⟩)
              dsimp only [Pt.U, Pt.locs, Pt.cells, Pt.slots] at X80 l80 y80 z80 st80 hQ80
              subst l80 y80 z80
              obtain ⟨rfl, N80q, e80⟩ := hQ80
              have N80 := Fr.app N79 N80q
              refine own_ww (T' := T80) (g' := (mkF m 213 #[.val (.int kk), .val (.long xl), .second, .val (.long yl), .second, .val (.int (kk &&& (7 : Int32))), .unset, .val (.int (3 : Int32)), .val (.int (34 : Int32)), .val (.ref b69)] [(.int (46 : Int32)), (.int (5 : Int32)), (.ref b69)])) st80 ?_
              obtain ⟨cl81, Ar81, hs81⟩ := id V79
              obtain ⟨T81, h81, X81, e81, W81, st81⟩ := stC X80 hx hZ e80 Ar81 (j := (5 : Int32)) (own_Ar_in (i := 5) hs81 (by decide) (by simp)) (g := (mkF m 213 #[.val (.int kk), .val (.long xl), .second, .val (.long yl), .second, .val (.int (kk &&& (7 : Int32))), .unset, .val (.int (3 : Int32)), .val (.int (34 : Int32)), .val (.ref b69)] [(.int (46 : Int32)), (.int (5 : Int32)), (.ref b69)])) rfl rfl (hb hby at_213)
              have V81 := own_Ar_set (i := 5) (v := (46 : Int32)) V79 W81 (by decide) (by decide)
              have N81 := Fr.snoc X81 N80 g_b69
              have Z81 : n0 ≤ h81.size := Nat.le_trans Z79 (Keep.of_wr W81).1
              have CS81 : CHr Z own_EL s.vm h0 s.vm h81 := CS79.trans (CHr.wr W81 sf79_b69 CS79.1)
              have sf81_b69 := Safe.wr W81 sf79_b69 CS79.1 sf79_b69
              refine own_ww (T' := T81) (g' := (mkF m 214 #[.val (.int kk), .val (.long xl), .second, .val (.long yl), .second, .val (.int (kk &&& (7 : Int32))), .unset, .val (.int (3 : Int32)), .val (.int (34 : Int32)), .val (.ref b69)] [])) st81 ?_
              have K81 := K79.wr W81 (Or.inr (Nat.le_of_eq gq69.symm))
              refine own_ww (T' := T81) (g' := (mkF m 216 #[.val (.int kk), .val (.long xl), .second, .val (.long yl), .second, .val (.int (kk &&& (7 : Int32))), .unset, .val (.int (3 : Int32)), .val (.int (34 : Int32)), .val (.ref b69)] [(.ref b69)])) (fun _ k_ => XS.aload X81.here hx rfl (hb hby at_214) rfl rfl k_) ?_
              refine own_ww (T' := T81) (g' := (mkF m 218 #[.val (.int kk), .val (.long xl), .second, .val (.long yl), .second, .val (.int (kk &&& (7 : Int32))), .unset, .val (.int (3 : Int32)), .val (.int (34 : Int32)), .val (.ref b69)] [(.int (6 : Int32)), (.ref b69)])) (fun _ k_ => XS.bipush X81.here hx rfl (hb hby at_216) k_) ?_
              refine own_ww (T' := T81) (g' := (mkF m 220 #[.val (.int kk), .val (.long xl), .second, .val (.long yl), .second, .val (.int (kk &&& (7 : Int32))), .unset, .val (.int (3 : Int32)), .val (.int (34 : Int32)), .val (.ref b69)] [(.int (34 : Int32)), (.int (6 : Int32)), (.ref b69)])) (fun _ k_ => XS.iload X81.here hx rfl (hb hby at_218) rfl k_) ?_
              refine own_ww (T' := T81) (g' := (mkF m 222 #[.val (.int kk), .val (.long xl), .second, .val (.long yl), .second, .val (.int (kk &&& (7 : Int32))), .unset, .val (.int (3 : Int32)), .val (.int (34 : Int32)), .val (.ref b69)] [(.int (6 : Int32)), (.int (34 : Int32)), (.int (6 : Int32)), (.ref b69)])) (fun _ k_ => XS.bipush X81.here hx rfl (hb hby at_220) k_) ?_
              refine own_ww (T' := T81) (g' := (mkF m 223 #[.val (.int kk), .val (.long xl), .second, .val (.long yl), .second, .val (.int (kk &&& (7 : Int32))), .unset, .val (.int (3 : Int32)), .val (.int (34 : Int32)), .val (.ref b69)] [(.int kk), (.int (6 : Int32)), (.int (34 : Int32)), (.int (6 : Int32)), (.ref b69)])) (fun _ k_ => XS.iloadN X81.here hx rfl (hb hby at_222) rfl k_) ?_
              refine own_ww (T' := T81) (g' := (mkF m 224 #[.val (.int kk), .val (.long xl), .second, .val (.long yl), .second, .val (.int (kk &&& (7 : Int32))), .unset, .val (.int (3 : Int32)), .val (.int (34 : Int32)), .val (.ref b69)] [(.int (3 : Int32)), (.int kk), (.int (6 : Int32)), (.int (34 : Int32)), (.int (6 : Int32)), (.ref b69)])) (fun _ k_ => XS.iconst X81.here hx rfl (hb hby at_223) k_) ?_
              refine own_ww (T' := T81) (g' := (mkF m 225 #[.val (.int kk), .val (.long xl), .second, .val (.long yl), .second, .val (.int (kk &&& (7 : Int32))), .unset, .val (.int (3 : Int32)), .val (.int (34 : Int32)), .val (.ref b69)] [(.int ((kk.toUInt32 >>> ((3 : Int32) &&& 31).toUInt32).toInt32)), (.int (6 : Int32)), (.int (34 : Int32)), (.int (6 : Int32)), (.ref b69)])) (fun _ k_ => XS.iushr X81.here hx rfl (hb hby at_224) rfl k_) ?_
              refine own_ww (T' := T81) (g' := (mkF m 226 #[.val (.int kk), .val (.long xl), .second, .val (.long yl), .second, .val (.int (kk &&& (7 : Int32))), .unset, .val (.int (3 : Int32)), .val (.int (34 : Int32)), .val (.ref b69)] [(.long (((kk.toUInt32 >>> ((3 : Int32) &&& 31).toUInt32).toInt32).toInt64)), (.int (6 : Int32)), (.int (34 : Int32)), (.int (6 : Int32)), (.ref b69)])) (fun _ k_ => XS.i2l X81.here hx rfl (hb hby at_225) rfl k_) ?_
              obtain ⟨_, _, ⟨T82, L82, k82, n82⟩, -, X82, ⟨Lc82, hQ82, l82, y82, z82⟩, st82⟩ := Jvm.LawKit.callS X81 hx (y := (⟨"com/example/adjacency/adjacency/identity/NodeNameParsePinLaw", "pos", "(IIJ)C"⟩ : MethodName)) hown (mvT hZ (hw _ (List.mem_of_getElem? (i := 1) rfl))) (mvT hZ (hw _ (List.mem_of_getElem? (i := 2) rfl))) (mvT hZ (hw _ (List.mem_of_getElem? (i := 3) rfl))) (mvT hZ (hw _ (List.mem_of_getElem? (i := 4) rfl))) (by decide) (backOf (W := 2) (own_rm1_c l Z a0 hw [] (34 : Int32) (6 : Int32) (((kk.toUInt32 >>> ((3 : Int32) &&& 31).toUInt32).toInt32).toInt64)  h81 n0 Z81 (by decide)) hZ (hw _ (List.mem_of_getElem? (i := 4) rfl)) (hw _ (List.mem_of_getElem? (i := 3) rfl)) (by decide) (by decide)) (g := (mkF m 226 #[.val (.int kk), .val (.long xl), .second, .val (.long yl), .second, .val (.int (kk &&& (7 : Int32))), .unset, .val (.int (3 : Int32)), .val (.int (34 : Int32)), .val (.ref b69)] [(.long (((kk.toUInt32 >>> ((3 : Int32) &&& 31).toUInt32).toInt32).toInt64)), (.int (6 : Int32)), (.int (34 : Int32)), (.int (6 : Int32)), (.ref b69)])) rfl (by rw [hml]; rfl) (argsL := [(.int (34 : Int32)), (.int (6 : Int32)), (.long (((kk.toUInt32 >>> ((3 : Int32) &&& 31).toUInt32).toInt32).toInt64))]) (rest := [(.int (6 : Int32)), (.ref b69)]) (lenOf own_pd27 rfl) rfl (by show 2 * 0 + _ ≤ _; exact Nat.le_of_eq rfl) (hb hby at_226) (fun _ _ => ⟨rfl, e81, (by decide : 1 + 0 ≤ _), (by decide : 7 + 0 ≤ _)⟩)
              dsimp only [Pt.U, Pt.locs, Pt.cells, Pt.slots] at X82 l82 y82 z82 st82 hQ82
              subst l82 y82 z82
              obtain ⟨r82, rfl, N82q, e82, ok82, nh82⟩ := hQ82
              have N82 := Fr.app N81 N82q
              refine own_ww (T' := T82) (g' := (mkF m 229 #[.val (.int kk), .val (.long xl), .second, .val (.long yl), .second, .val (.int (kk &&& (7 : Int32))), .unset, .val (.int (3 : Int32)), .val (.int (34 : Int32)), .val (.ref b69)] [(.int r82), (.int (6 : Int32)), (.ref b69)])) st82 ?_
              obtain ⟨cl83, Ar83, hs83⟩ := id V81
              obtain ⟨T83, h83, X83, e83, W83, st83⟩ := stC X82 hx hZ e82 Ar83 (j := (6 : Int32)) (own_Ar_in (i := 6) hs83 (by decide) (by simp)) (g := (mkF m 229 #[.val (.int kk), .val (.long xl), .second, .val (.long yl), .second, .val (.int (kk &&& (7 : Int32))), .unset, .val (.int (3 : Int32)), .val (.int (34 : Int32)), .val (.ref b69)] [(.int r82), (.int (6 : Int32)), (.ref b69)])) rfl rfl (hb hby at_229)
              have V83 := own_Ar_set (i := 6) (v := r82) V81 W83 (by decide) (own_i2c_small (own_ok128 ok82).1 (Int.lt_trans (own_ok128 ok82).2 (by decide)))
              have N83 := Fr.snoc X83 N82 g_b69
              have Z83 : n0 ≤ h83.size := Nat.le_trans Z81 (Keep.of_wr W83).1
              have CS83 : CHr Z own_EL s.vm h0 s.vm h83 := CS81.trans (CHr.wr W83 sf81_b69 CS81.1)
              have sf83_b69 := Safe.wr W83 sf81_b69 CS81.1 sf81_b69
              refine own_ww (T' := T83) (g' := (mkF m 230 #[.val (.int kk), .val (.long xl), .second, .val (.long yl), .second, .val (.int (kk &&& (7 : Int32))), .unset, .val (.int (3 : Int32)), .val (.int (34 : Int32)), .val (.ref b69)] [])) st83 ?_
              have K83 := K81.wr W83 (Or.inr (Nat.le_of_eq gq69.symm))
              obtain ⟨T84, h84, X84, e84, E84, A84, D84, -, st84⟩ := newO X83 hx hZ hown (hw _ (List.mem_of_getElem? (i := 9) rfl)) (hw _ (List.mem_of_getElem? (i := 10) rfl)) (hw _ (List.mem_of_getElem? (i := 11) rfl)) e83 (g := (mkF m 230 #[.val (.int kk), .val (.long xl), .second, .val (.long yl), .second, .val (.int (kk &&& (7 : Int32))), .unset, .val (.int (3 : Int32)), .val (.int (34 : Int32)), .val (.ref b69)] [])) rfl (hb hby at_230) (by decide) (by decide)
              obtain ⟨b84, gq84⟩ : ∃ z, z = h83.size := ⟨_, rfl⟩
              rw [← gq84] at A84 D84 st84
              have g_b84 : n0 ≤ b84 := Nat.le_trans Z83 (Nat.le_of_eq gq84.symm)
              have Z84 : n0 ≤ h84.size := Nat.le_trans Z83 E84.1
              have CS84 : CHr Z own_EL s.vm h0 s.vm h84 := CS83.trans (CHr.ext E84 CS83.1)
              have sf84_b69 := Safe.ext E84 CS83.1 sf83_b69
              have sf84_b84 : Safe Z own_EL s.vm h84 b84 := Safe.ext E84 CS83.1 (Safe.new (Nat.le_of_eq gq84.symm))
              refine own_ww (T' := T84) (g' := (mkF m 233 #[.val (.int kk), .val (.long xl), .second, .val (.long yl), .second, .val (.int (kk &&& (7 : Int32))), .unset, .val (.int (3 : Int32)), .val (.int (34 : Int32)), .val (.ref b69)] [(.ref b84)])) st84 ?_
              refine own_ww (T' := T84) (g' := (mkF m 234 #[.val (.int kk), .val (.long xl), .second, .val (.long yl), .second, .val (.int (kk &&& (7 : Int32))), .unset, .val (.int (3 : Int32)), .val (.int (34 : Int32)), .val (.ref b69)] [(.ref b84), (.ref b84)])) (fun _ k_ => XS.dup X84.here hx rfl (hb hby at_233) rfl rfl k_) ?_
              refine own_ww (T' := T84) (g' := (mkF m 236 #[.val (.int kk), .val (.long xl), .second, .val (.long yl), .second, .val (.int (kk &&& (7 : Int32))), .unset, .val (.int (3 : Int32)), .val (.int (34 : Int32)), .val (.ref b69)] [(.ref b69), (.ref b84), (.ref b84)])) (fun _ k_ => XS.aload X84.here hx rfl (hb hby at_234) rfl rfl k_) ?_
              have S1 := (own_sta0 S K83).ext E84
              have SF1 := (own_sta0 SF K83).ext E84
              obtain ⟨_, _, ⟨T85, L85, k85, n85⟩, -, X85, ⟨Lc85, hQ85, l85, y85, z85⟩, st85⟩ := X84.specialBack hx (y := (⟨"java/lang/String", "<init>", "([C)V"⟩ : MethodName)) rfl hown (mvT hZ (hw _ (List.mem_of_getElem? (i := 12) rfl))) (mvT hZ (hw _ (List.mem_of_getElem? (i := 13) rfl))) (mvT hZ (hw _ (List.mem_of_getElem? (i := 14) rfl))) (by decide) (backOf (W := 1) (own_rm3 l Z a0 hw [] b84 b69 _ _ cs r70 (46 : Int32) r74 r76 r78 (46 : Int32) r82 h84 n0 Z84 (D84 (Or.inr (hw _ (List.mem_of_getElem? (i := 37) rfl))) (ty := (.array .byte)) (by decide)) (D84 (Or.inr (hw _ (List.mem_of_getElem? (i := 35) rfl))) (ty := .byte) (by decide)) A84 g_b84 (own_Ar_ext V83 E84) hcs S1 (own_ok255 ok70) (by decide) (own_ok255 ok74) (own_ok255 ok76) (own_ok255 ok78) (by decide) (own_ok255 ok82)) hZ (hw _ (List.mem_of_getElem? (i := 14) rfl)) (hw _ (List.mem_of_getElem? (i := 11) rfl)) (by decide) (by decide)) (g := (mkF m 236 #[.val (.int kk), .val (.long xl), .second, .val (.long yl), .second, .val (.int (kk &&& (7 : Int32))), .unset, .val (.int (3 : Int32)), .val (.int (34 : Int32)), .val (.ref b69)] [(.ref b69), (.ref b84), (.ref b84)])) rfl (by rw [hml]; rfl) (Steps.refl _) (a := b84) (argsL := [(.ref b69)]) (rest := [(.ref b84)]) (lenOf own_pd28 rfl) rfl (by show 2 * 0 + _ ≤ _; exact Nat.le_of_eq rfl) (hb hby at_236) (fun _ _ => ⟨rfl, e84, (by decide : 2 + 1 ≤ _), (by decide : 11 + 7 ≤ _)⟩)
              dsimp only [Pt.U, Pt.locs, Pt.cells, Pt.slots] at X85 l85 y85 z85 st85 hQ85
              subst l85 y85 z85
              obtain ⟨h85, e85⟩ : ∃ h, T85.heap = h := ⟨_, rfl⟩
              rw [e85] at hQ85
              obtain ⟨rfl, N85q, K85, Q85⟩ := hQ85
              have CS85 : CHr Z own_EL s.vm h0 s.vm h85 := CS84.trans (CHr.keep K85 (sfS sf84_b84 sf0) CS84.1)
              have sf85_b69 := Safe.keep K85 (sfS sf84_b84 sf0) CS84.1 sf84_b69
              have sf85_b84 := Safe.keep K85 (sfS sf84_b84 sf0) CS84.1 sf84_b84
              have N85 := Fr.app N83 N85q
              refine own_wt (T' := T85) (g' := (mkF m 239 #[.val (.int kk), .val (.long xl), .second, .val (.long yl), .second, .val (.int (kk &&& (7 : Int32))), .unset, .val (.int (3 : Int32)), .val (.int (34 : Int32)), .val (.ref b69)] [(.ref b84)])) st85 ?_
              have Z85 : n0 ≤ h85.size := Nat.le_trans Z84 K85.1
              have KA : Keep h83 h85 [] := ((Keep.refl _ []).ext E84).trans K85 (fun x hx => Or.inr (by rw [List.mem_singleton.mp hx]; exact Nat.le_of_eq gq84.symm))
              have S2 := own_sta0 (own_sta0 S K83) KA
              have SF2 := own_sta0 (own_sta0 SF K83) KA
              have Qs : own_Str Z h85 b84 [r70, (46 : Int32), r74, r76, r78, (46 : Int32), r82] := by
                have q := Q85
                rw [own_i2b_small (own_ok128 ok70), show (46 : Int32).toInt8.toInt32 = 46 by decide, own_i2b_small (own_ok128 ok74), own_i2b_small (own_ok128 ok76), own_i2b_small (own_ok128 ok78), own_i2b_small (own_ok128 ok82)] at q
                exact q
              refine own_ww (T' := T85) (g' := (mkF m 241 #[.val (.int kk), .val (.long xl), .second, .val (.long yl), .second, .val (.int (kk &&& (7 : Int32))), .val (.ref b84), .val (.int (3 : Int32)), .val (.int (34 : Int32)), .val (.ref b69)] [])) (fun _ k_ => XS.astore X85.here hx rfl (hb hby at_239) rfl rfl (l' := #[.val (.int kk), .val (.long xl), .second, .val (.long yl), .second, .val (.int (kk &&& (7 : Int32))), .val (.ref b84), .val (.int (3 : Int32)), .val (.int (34 : Int32)), .val (.ref b69)]) rfl k_) ?_
              obtain ⟨LA86, XA86, NA86⟩ : ∃ L, Stand p l e room_1 (s.setVm s.vm) m #[(.int kk), (.long xl), (.long yl)] below meth c T85 L 3 18 ∧ Fr n0 L := ⟨_, X85, N85⟩
              have PL := own_pl_34 ok70 ok74 ok76 ok78 ok82 (nh70 (by decide)) (nh74 (by decide)) (nh78 (by decide)) (nh82 (by decide))
              have hro := own_ro PL.2.2.2 (by decide)
              refine own_ww (T' := T85) (g' := (mkF m 243 #[.val (.int kk), .val (.long xl), .second, .val (.long yl), .second, .val (.int (kk &&& (7 : Int32))), .val (.ref b84), .val (.int (3 : Int32)), .val (.int (34 : Int32)), .val (.ref b69)] [(.ref b84)])) (fun _ k_ => XS.aload XA86.here hx rfl (hb hby at_241) rfl rfl k_) ?_
              obtain ⟨_, _, ⟨T87, L87, k87, n87⟩, -, X87', hs287, hg87, ⟨Lc87, hQ87, l87, y87, z87, cr87⟩, st87⟩ := callSS XA86 hx (y := (⟨"com/example/adjacency/adjacency/identity/NodeName", "parse", "(Ljava/lang/String;)Lcom/example/adjacency/adjacency/identity/NodeName;"⟩ : MethodName)) hown (mvT hZ (hw _ (List.mem_of_getElem? (i := 38) rfl))) (mvT hZ (hw _ (List.mem_of_getElem? (i := 39) rfl))) (mvT hZ (hw _ (List.mem_of_getElem? (i := 40) rfl))) (mvT hZ (hw _ (List.mem_of_getElem? (i := 41) rfl))) (by decide) (backOfSH (W := 0) (own_rm9 l Z a0 hw [] b84 [r70, (46 : Int32), r74, r76, r78, (46 : Int32), r82] cs sf h85 n0 Z85 Qs (show 7 < 1000 by decide) hcs S2 hsf SF2 PL.1 PL.2.1 (by rw [PL.2.2.1]; decide)) hZ (hw _ (List.mem_of_getElem? (i := 41) rfl)) (hw _ (List.mem_of_getElem? (i := 40) rfl)) (by decide) (by decide) (own_EW hw) CS85.1) (g := (mkF m 243 #[.val (.int kk), .val (.long xl), .second, .val (.long yl), .second, .val (.int (kk &&& (7 : Int32))), .val (.ref b84), .val (.int (3 : Int32)), .val (.int (34 : Int32)), .val (.ref b69)] [(.ref b84)])) rfl (by rw [hml]; rfl) (argsL := [(.ref b84)]) (rest := []) (lenOf own_pd24 rfl) rfl (by show 2 * 0 + _ ≤ _; exact Nat.le_of_eq rfl) (hb hby at_243) (fun _ _ => ⟨rfl, e85, (by decide : 3 + 3 ≤ _), (by decide : 18 + 21 ≤ _)⟩)
              dsimp only [Pt.U, Pt.locs, Pt.cells, Pt.slots] at X87' hs287 hg87 l87 y87 z87 st87 hQ87 cr87
              subst l87 y87 z87
              obtain ⟨X87, hS87, hZ87, ho87⟩ := rebS hS0 (by rw [e85]; exact CS85.2.1) X87' hs287 hg87 hZ hown
              obtain ⟨h87, e87⟩ : ∃ h, T87.heap = h := ⟨_, rfl⟩
              rw [e87] at hQ87 hS87 cr87
              obtain ⟨r87, rfl, N87q, K87, Ex87, F87⟩ := hQ87
              have N87 := Fr.app NA86 N87q
              have CB87 : CHr Z own_EL s.vm h0 T87.vm h87 := (CB0.trans CS85).trans cr87
              have CS87 : CHr Z own_EL T87.vm h87 T87.vm h87 := CHr.refl CB87.1
              have Z87 : n0 ≤ h87.size := Nat.le_trans Z85 cr87.2.1
              refine own_wt (T' := T87) (g' := (mkF m 246 #[.val (.int kk), .val (.long xl), .second, .val (.long yl), .second, .val (.int (kk &&& (7 : Int32))), .val (.ref b84), .val (.int (3 : Int32)), .val (.int (34 : Int32)), .val (.ref b69)] [(.ref r87)])) st87 ?_
              have Se := own_Str_keep Qs K87
              have Sf := own_sta0 S2 K87
              have Sg := own_sta0 SF2 K87
              refine own_ww (T' := T87) (g' := (mkF m 248 #[.val (.int kk), .val (.long xl), .second, .val (.long yl), .second, .val (.int (kk &&& (7 : Int32))), .val (.ref b84), .val (.int (3 : Int32)), .val (.ref r87), .val (.ref b69)] [])) (fun _ k_ => XS.astore X87.here hx rfl (hb hby at_246) rfl rfl (l' := #[.val (.int kk), .val (.long xl), .second, .val (.long yl), .second, .val (.int (kk &&& (7 : Int32))), .val (.ref b84), .val (.int (3 : Int32)), .val (.ref r87), .val (.ref b69)]) rfl k_) ?_
              refine own_ww (T' := T87) (g' := (mkF m 250 #[.val (.int kk), .val (.long xl), .second, .val (.long yl), .second, .val (.int (kk &&& (7 : Int32))), .val (.ref b84), .val (.int (3 : Int32)), .val (.ref r87), .val (.ref b69)] [(.ref r87)])) (fun _ k_ => XS.aload X87.here hx rfl (hb hby at_248) rfl rfl k_) ?_
              obtain ⟨cq88, kq88, q88a, q88b, q88c⟩ := isOf hZ87 e87 Ex87
              obtain ⟨_, _, ⟨T88, L88, k88, n88⟩, -, X88, ⟨Lc88, hQ88, l88, y88, z88⟩, st88⟩ := X87.virtualBack hx (y := (⟨"com/example/adjacency/adjacency/identity/NodeName", "toString", "()Ljava/lang/String;"⟩ : MethodName)) (z := (⟨"com/example/adjacency/adjacency/identity/NodeName", "toString", "()Ljava/lang/String;"⟩ : MethodName)) ho87 (mvT hZ87 (hw _ (List.mem_of_getElem? (i := 117) rfl))) (mvT hZ87 (hw _ (List.mem_of_getElem? (i := 118) rfl))) (notFace_of_selects (args := #[]) (mvT hZ87 (hw _ (List.mem_of_getElem? (i := 120) rfl)))) (mvT hZ87 (hw _ (List.mem_of_getElem? (i := 120) rfl))) (mvT hZ87 (hw _ (List.mem_of_getElem? (i := 119) rfl))) (by decide) (backOf (W := 0) (own_rm27 l Z a0 hw [] r87 b84 h87 n0 Z87 F87) hZ87 (hw _ (List.mem_of_getElem? (i := 121) rfl)) (hw _ (List.mem_of_getElem? (i := 40) rfl)) (by decide) (by decide)) q88a q88c (g := (mkF m 250 #[.val (.int kk), .val (.long xl), .second, .val (.long yl), .second, .val (.int (kk &&& (7 : Int32))), .val (.ref b84), .val (.int (3 : Int32)), .val (.ref r87), .val (.ref b69)] [(.ref r87)])) rfl (by rw [hml]; rfl) (Steps.refl _) (argsL := []) (rest := []) (lenOf own_pd25 rfl) rfl (by show 2 * 0 + _ ≤ _; exact Nat.le_of_eq rfl) (hb hby at_250) (fun _ _ => ⟨rfl, e87, (by decide : 6 + 0 ≤ _), (by decide : 39 + 0 ≤ _)⟩)
              dsimp only [Pt.U, Pt.locs, Pt.cells, Pt.slots] at X88 l88 y88 z88 st88 hQ88
              subst l88 y88 z88
              obtain ⟨rfl, N88q, e88⟩ := hQ88
              have N88 := Fr.app N87 N88q
              refine own_wt (T' := T88) (g' := (mkF m 253 #[.val (.int kk), .val (.long xl), .second, .val (.long yl), .second, .val (.int (kk &&& (7 : Int32))), .val (.ref b84), .val (.int (3 : Int32)), .val (.ref r87), .val (.ref b69)] [(.ref b84)])) st88 ?_
              refine own_ww (T' := T88) (g' := (mkF m 255 #[.val (.int kk), .val (.long xl), .second, .val (.long yl), .second, .val (.int (kk &&& (7 : Int32))), .val (.ref b84), .val (.int (3 : Int32)), .val (.ref r87), .val (.ref b69)] [(.ref b84), (.ref b84)])) (fun _ k_ => XS.aload X88.here hx rfl (hb hby at_253) rfl rfl k_) ?_
              obtain ⟨cq89, kq89, q89a, q89b, q89c⟩ := isOf hZ87 e88 Se.1
              obtain ⟨_, _, ⟨T89, L89, k89, n89⟩, -, X89, ⟨Lc89, hQ89, l89, y89, z89⟩, st89⟩ := X88.virtualBack hx (y := (⟨"java/lang/String", "equals", "(Ljava/lang/Object;)Z"⟩ : MethodName)) (z := (⟨"java/lang/String", "equals", "(Ljava/lang/Object;)Z"⟩ : MethodName)) ho87 (mvT hZ87 (hw _ (List.mem_of_getElem? (i := 122) rfl))) (mvT hZ87 (hw _ (List.mem_of_getElem? (i := 123) rfl))) (notFace_of_selects (args := #[]) (mvT hZ87 (hw _ (List.mem_of_getElem? (i := 125) rfl)))) (mvT hZ87 (hw _ (List.mem_of_getElem? (i := 125) rfl))) (mvT hZ87 (hw _ (List.mem_of_getElem? (i := 124) rfl))) (by decide) (backOf (W := 0) (own_rm28 l Z a0 hw [] b84 b84  h87 n0 Z87 rfl) hZ87 (hw _ (List.mem_of_getElem? (i := 126) rfl)) (hw _ (List.mem_of_getElem? (i := 11) rfl)) (by decide) (by decide)) q89a q89c (g := (mkF m 255 #[.val (.int kk), .val (.long xl), .second, .val (.long yl), .second, .val (.int (kk &&& (7 : Int32))), .val (.ref b84), .val (.int (3 : Int32)), .val (.ref r87), .val (.ref b69)] [(.ref b84), (.ref b84)])) rfl (by rw [hml]; rfl) (Steps.refl _) (argsL := [(.ref b84)]) (rest := []) (lenOf own_pd26 rfl) rfl (by show 2 * 0 + _ ≤ _; exact Nat.le_of_eq rfl) (hb hby at_255) (fun _ _ => ⟨rfl, e88, (by decide : 6 + 0 ≤ _), (by decide : 39 + 0 ≤ _)⟩)
              dsimp only [Pt.U, Pt.locs, Pt.cells, Pt.slots] at X89 l89 y89 z89 st89 hQ89
              subst l89 y89 z89
              obtain ⟨rfl, N89q, e89⟩ := hQ89
              have N89 := Fr.app N88 N89q
              refine own_wt (T' := T89) (g' := (mkF m 258 #[.val (.int kk), .val (.long xl), .second, .val (.long yl), .second, .val (.int (kk &&& (7 : Int32))), .val (.ref b84), .val (.int (3 : Int32)), .val (.ref r87), .val (.ref b69)] [(.int (1 : Int32))])) st89 ?_
              refine own_ww (T' := T89) (g' := (mkF m 261 #[.val (.int kk), .val (.long xl), .second, .val (.long yl), .second, .val (.int (kk &&& (7 : Int32))), .val (.ref b84), .val (.int (3 : Int32)), .val (.ref r87), .val (.ref b69)] [])) (fun _ k_ => XS.ifNo X89.here hx rfl (hb hby at_258) rfl ((if0 _ _).trans (feq (by decide)).1) k_) ?_
              refine own_ww (T' := T89) (g' := (mkF m 263 #[.val (.int kk), .val (.long xl), .second, .val (.long yl), .second, .val (.int (kk &&& (7 : Int32))), .val (.ref b84), .val (.int (3 : Int32)), .val (.ref r87), .val (.ref b69)] [(.ref r87)])) (fun _ k_ => XS.aload X89.here hx rfl (hb hby at_261) rfl rfl k_) ?_
              obtain ⟨cq90, kq90, q90a, q90b, q90c⟩ := isOf hZ87 e89 Ex87
              obtain ⟨_, _, ⟨T90, L90, k90, n90⟩, -, X90, ⟨Lc90, hQ90, l90, y90, z90⟩, st90⟩ := X89.virtualBack hx (y := (⟨"com/example/adjacency/adjacency/identity/NodeName", "labelCount", "()I"⟩ : MethodName)) (z := (⟨"com/example/adjacency/adjacency/identity/NodeName", "labelCount", "()I"⟩ : MethodName)) ho87 (mvT hZ87 (hw _ (List.mem_of_getElem? (i := 127) rfl))) (mvT hZ87 (hw _ (List.mem_of_getElem? (i := 128) rfl))) (notFace_of_selects (args := #[]) (mvT hZ87 (hw _ (List.mem_of_getElem? (i := 130) rfl)))) (mvT hZ87 (hw _ (List.mem_of_getElem? (i := 130) rfl))) (mvT hZ87 (hw _ (List.mem_of_getElem? (i := 129) rfl))) (by decide) (backOf (W := 0) (own_rm29 l Z a0 hw [] r87 b84 [r70, (46 : Int32), r74, r76, r78, (46 : Int32), r82] cs sf h87 n0 Z87 F87 Se (show 7 < 1000 by decide) hcs Sf hsf Sg PL.1) hZ87 (hw _ (List.mem_of_getElem? (i := 131) rfl)) (hw _ (List.mem_of_getElem? (i := 40) rfl)) (by decide) (by decide)) q90a q90c (g := (mkF m 263 #[.val (.int kk), .val (.long xl), .second, .val (.long yl), .second, .val (.int (kk &&& (7 : Int32))), .val (.ref b84), .val (.int (3 : Int32)), .val (.ref r87), .val (.ref b69)] [(.ref r87)])) rfl (by rw [hml]; rfl) (Steps.refl _) (argsL := []) (rest := []) (lenOf own_pd8 rfl) rfl (by show 2 * 0 + _ ≤ _; exact Nat.le_of_eq rfl) (hb hby at_263) (fun _ _ => ⟨rfl, e89, (by decide : 6 + 0 ≤ _), (by decide : 39 + 0 ≤ _)⟩)
              dsimp only [Pt.U, Pt.locs, Pt.cells, Pt.slots] at X90 l90 y90 z90 st90 hQ90
              subst l90 y90 z90
              obtain ⟨rfl, N90q, e90⟩ := hQ90
              have N90 := Fr.app N89 N90q
              refine own_wt (T' := T90) (g' := (mkF m 266 #[.val (.int kk), .val (.long xl), .second, .val (.long yl), .second, .val (.int (kk &&& (7 : Int32))), .val (.ref b84), .val (.int (3 : Int32)), .val (.ref r87), .val (.ref b69)] [(.int (own_cl [r70, (46 : Int32), r74, r76, r78, (46 : Int32), r82]))])) st90 ?_
              refine own_ww (T' := T90) (g' := (mkF m 268 #[.val (.int kk), .val (.long xl), .second, .val (.long yl), .second, .val (.int (kk &&& (7 : Int32))), .val (.ref b84), .val (.int (3 : Int32)), .val (.ref r87), .val (.ref b69)] [(.int (3 : Int32)), (.int (own_cl [r70, (46 : Int32), r74, r76, r78, (46 : Int32), r82]))])) (fun _ k_ => XS.iload X90.here hx rfl (hb hby at_266) rfl k_) ?_
              refine own_ww (T' := T90) (g' := (mkF m 271 #[.val (.int kk), .val (.long xl), .second, .val (.long yl), .second, .val (.int (kk &&& (7 : Int32))), .val (.ref b84), .val (.int (3 : Int32)), .val (.ref r87), .val (.ref b69)] [])) (fun _ k_ => XS.icmpNo X90.here hx rfl (hb hby at_268) rfl (teq PL.2.2.1).2 k_) ?_
              refine own_ww (T' := T90) (g' := (mkF m 273 #[.val (.int kk), .val (.long xl), .second, .val (.long yl), .second, .val (.int (kk &&& (7 : Int32))), .val (.ref b84), .val (.int (3 : Int32)), .val (.ref r87), .val (.ref b69)] [(.ref r87)])) (fun _ k_ => XS.aload X90.here hx rfl (hb hby at_271) rfl rfl k_) ?_
              obtain ⟨cq91, kq91, q91a, q91b, q91c⟩ := isOf hZ87 e90 Ex87
              obtain ⟨_, _, ⟨T91, L91, k91, n91⟩, -, X91, ⟨Lc91, hQ91, l91, y91, z91⟩, st91⟩ := X90.virtualBack hx (y := (⟨"com/example/adjacency/adjacency/identity/NodeName", "isRoot", "()Z"⟩ : MethodName)) (z := (⟨"com/example/adjacency/adjacency/identity/NodeName", "isRoot", "()Z"⟩ : MethodName)) ho87 (mvT hZ87 (hw _ (List.mem_of_getElem? (i := 132) rfl))) (mvT hZ87 (hw _ (List.mem_of_getElem? (i := 133) rfl))) (notFace_of_selects (args := #[]) (mvT hZ87 (hw _ (List.mem_of_getElem? (i := 135) rfl)))) (mvT hZ87 (hw _ (List.mem_of_getElem? (i := 135) rfl))) (mvT hZ87 (hw _ (List.mem_of_getElem? (i := 134) rfl))) (by decide) (backOf (W := 0) (own_rm30 l Z a0 hw [] r87 b84 [r70, (46 : Int32), r74, r76, r78, (46 : Int32), r82] cs h87 n0 Z87 F87 Se (show 7 < 1000 by decide) hcs Sf) hZ87 (hw _ (List.mem_of_getElem? (i := 136) rfl)) (hw _ (List.mem_of_getElem? (i := 40) rfl)) (by decide) (by decide)) q91a q91c (g := (mkF m 273 #[.val (.int kk), .val (.long xl), .second, .val (.long yl), .second, .val (.int (kk &&& (7 : Int32))), .val (.ref b84), .val (.int (3 : Int32)), .val (.ref r87), .val (.ref b69)] [(.ref r87)])) rfl (by rw [hml]; rfl) (Steps.refl _) (argsL := []) (rest := []) (lenOf own_pd3 rfl) rfl (by show 2 * 0 + _ ≤ _; exact Nat.le_of_eq rfl) (hb hby at_273) (fun _ _ => ⟨rfl, e90, (by decide : 6 + 0 ≤ _), (by decide : 39 + 0 ≤ _)⟩)
              dsimp only [Pt.U, Pt.locs, Pt.cells, Pt.slots] at X91 l91 y91 z91 st91 hQ91
              subst l91 y91 z91
              obtain ⟨rfl, N91q, e91⟩ := hQ91
              have N91 := Fr.app N90 N91q
              refine own_wt (T' := T91) (g' := (mkF m 276 #[.val (.int kk), .val (.long xl), .second, .val (.long yl), .second, .val (.int (kk &&& (7 : Int32))), .val (.ref b84), .val (.int (3 : Int32)), .val (.ref r87), .val (.ref b69)] [(.int (if (own_io [r70, (46 : Int32), r74, r76, r78, (46 : Int32), r82] 0 < (0 : Int32)) then (1 : Int32) else 0))])) st91 ?_
              refine own_ww (T' := T91) (g' := (mkF m 278 #[.val (.int kk), .val (.long xl), .second, .val (.long yl), .second, .val (.int (kk &&& (7 : Int32))), .val (.ref b84), .val (.int (3 : Int32)), .val (.ref r87), .val (.ref b69)] [(.int (3 : Int32)), (.int (if (own_io [r70, (46 : Int32), r74, r76, r78, (46 : Int32), r82] 0 < (0 : Int32)) then (1 : Int32) else 0))])) (fun _ k_ => XS.iload X91.here hx rfl (hb hby at_276) rfl k_) ?_
              refine own_ww (T' := T91) (g' := (mkF m 279 #[.val (.int kk), .val (.long xl), .second, .val (.long yl), .second, .val (.int (kk &&& (7 : Int32))), .val (.ref b84), .val (.int (3 : Int32)), .val (.ref r87), .val (.ref b69)] [(.int (1 : Int32)), (.int (3 : Int32)), (.int (if (own_io [r70, (46 : Int32), r74, r76, r78, (46 : Int32), r82] 0 < (0 : Int32)) then (1 : Int32) else 0))])) (fun _ k_ => XS.iconst X91.here hx rfl (hb hby at_278) k_) ?_
              refine own_ww (T' := T91) (g' := (mkF m 286 #[.val (.int kk), .val (.long xl), .second, .val (.long yl), .second, .val (.int (kk &&& (7 : Int32))), .val (.ref b84), .val (.int (3 : Int32)), .val (.ref r87), .val (.ref b69)] [(.int (if (own_io [r70, (46 : Int32), r74, r76, r78, (46 : Int32), r82] 0 < (0 : Int32)) then (1 : Int32) else 0))])) (fun _ k_ => XS.icmpYes X91.here hx rfl (pc0 := 279) (pc' := 286) rfl (hb hby at_279) rfl (feq (by decide)).2 (by decide) (by decide) k_) ?_
              refine own_ww (T' := T91) (g' := (mkF m 287 #[.val (.int kk), .val (.long xl), .second, .val (.long yl), .second, .val (.int (kk &&& (7 : Int32))), .val (.ref b84), .val (.int (3 : Int32)), .val (.ref r87), .val (.ref b69)] [(.int (0 : Int32)), (.int (if (own_io [r70, (46 : Int32), r74, r76, r78, (46 : Int32), r82] 0 < (0 : Int32)) then (1 : Int32) else 0))])) (fun _ k_ => XS.iconst X91.here hx rfl (hb hby at_286) k_) ?_
              refine own_ww (T' := T91) (g' := (mkF m 290 #[.val (.int kk), .val (.long xl), .second, .val (.long yl), .second, .val (.int (kk &&& (7 : Int32))), .val (.ref b84), .val (.int (3 : Int32)), .val (.ref r87), .val (.ref b69)] [])) (fun _ k_ => XS.icmpNo X91.here hx rfl (hb hby at_287) rfl (teq (if_neg hro)).2 k_) ?_
              refine own_ww (T' := T91) (g' := (mkF m 291 #[.val (.int kk), .val (.long xl), .second, .val (.long yl), .second, .val (.int (kk &&& (7 : Int32))), .val (.ref b84), .val (.int (3 : Int32)), .val (.ref r87), .val (.ref b69)] [(.int (1 : Int32))])) (fun _ k_ => XS.iconst X91.here hx rfl (hb hby at_290) k_) ?_
              refine own_ww (T' := T91) (g' := (mkF m 295 #[.val (.int kk), .val (.long xl), .second, .val (.long yl), .second, .val (.int (kk &&& (7 : Int32))), .val (.ref b84), .val (.int (3 : Int32)), .val (.ref r87), .val (.ref b69)] [(.int (1 : Int32))])) (fun _ k_ => XS.goto X91.here hx rfl (pc0 := 291) (pc' := 295) rfl (hb hby at_291) (by decide) (by decide) k_) ?_
              obtain ⟨fs, hr, hrun, hended, hRE⟩ := X91.leaveW (own_since hS87 CS87.2.1) (by rw [e91]; exact Nat.le_refl _) (v := some (.int (1 : Int32))) (fun h => by rw [Bd.returns] at h; cases h)
              exact ⟨_, _, retOut X91 hx Bd.returns rfl (Or.inl ⟨rfl, Or.inr (Or.inl rfl), _, rfl⟩) (hb hby at_295) hr, hrun, hended, _, _, rfl, (by show own_Q0 Z kk xl yl cs sf h0 n0 _ T91.heap _; rw [e91]; exact ⟨rfl, N91⟩), (by show CHr Z own_EL s.vm s.heap T91.vm T91.heap; rw [e91, hh]; exact (CB87.trans CS87).trans (CHv.at X91 hZ87 (own_EW hw) CS87.1)), own_rmono hRE (by decide) (by decide)⟩
            · refine own_ww (T' := s₁) (g' := (mkF m 107 #[.val (.int kk), .val (.long xl), .second, .val (.long yl), .second, .val (.int (kk &&& (7 : Int32))), .unset, .unset, .unset, .unset] [])) (fun _ k_ => XS.icmpYes X0.here hx rfl (pc0 := 94) (pc' := 107) rfl (hb hby at_94) rfl (feq hc94).2 (by decide) (by decide) k_) ?_
              refine own_ww (T' := s₁) (g' := (mkF m 109 #[.val (.int kk), .val (.long xl), .second, .val (.long yl), .second, .val (.int (kk &&& (7 : Int32))), .unset, .unset, .unset, .unset] [(.int (kk &&& (7 : Int32)))])) (fun _ k_ => XS.iload X0.here hx rfl (hb hby at_107) rfl k_) ?_
              refine own_ww (T' := s₁) (g' := (mkF m 110 #[.val (.int kk), .val (.long xl), .second, .val (.long yl), .second, .val (.int (kk &&& (7 : Int32))), .unset, .unset, .unset, .unset] [(.int (3 : Int32)), (.int (kk &&& (7 : Int32)))])) (fun _ k_ => XS.iconst X0.here hx rfl (hb hby at_109) k_) ?_
              by_cases hc110 : (kk &&& (7 : Int32)) = (3 : Int32)
              · refine own_ww (T' := s₁) (g' := (mkF m 113 #[.val (.int kk), .val (.long xl), .second, .val (.long yl), .second, .val (.int (kk &&& (7 : Int32))), .unset, .unset, .unset, .unset] [])) (fun _ k_ => XS.icmpNo X0.here hx rfl (hb hby at_110) rfl (teq hc110).2 k_) ?_
                refine own_ww (T' := s₁) (g' := (mkF m 115 #[.val (.int kk), .val (.long xl), .second, .val (.long yl), .second, .val (.int (kk &&& (7 : Int32))), .unset, .unset, .unset, .unset] [(.int (42 : Int32))])) (fun _ k_ => XS.bipush X0.here hx rfl (hb hby at_113) k_) ?_
                refine own_ww (T' := s₁) (g' := (mkF m 117 #[.val (.int kk), .val (.long xl), .second, .val (.long yl), .second, .val (.int (kk &&& (7 : Int32))), .unset, .unset, .val (.int (42 : Int32)), .unset] [])) (fun _ k_ => XS.istore X0.here hx rfl (hb hby at_115) rfl (l' := #[.val (.int kk), .val (.long xl), .second, .val (.long yl), .second, .val (.int (kk &&& (7 : Int32))), .unset, .unset, .val (.int (42 : Int32)), .unset]) rfl k_) ?_
                refine own_ww (T' := s₁) (g' := (mkF m 118 #[.val (.int kk), .val (.long xl), .second, .val (.long yl), .second, .val (.int (kk &&& (7 : Int32))), .unset, .unset, .val (.int (42 : Int32)), .unset] [(.int (4 : Int32))])) (fun _ k_ => XS.iconst X0.here hx rfl (hb hby at_117) k_) ?_
                refine own_ww (T' := s₁) (g' := (mkF m 120 #[.val (.int kk), .val (.long xl), .second, .val (.long yl), .second, .val (.int (kk &&& (7 : Int32))), .unset, .val (.int (4 : Int32)), .val (.int (42 : Int32)), .unset] [])) (fun _ k_ => XS.istore X0.here hx rfl (hb hby at_118) rfl (l' := #[.val (.int kk), .val (.long xl), .second, .val (.long yl), .second, .val (.int (kk &&& (7 : Int32))), .unset, .val (.int (4 : Int32)), .val (.int (42 : Int32)), .unset]) rfl k_) ?_
                refine own_ww (T' := s₁) (g' := (mkF m 130 #[.val (.int kk), .val (.long xl), .second, .val (.long yl), .second, .val (.int (kk &&& (7 : Int32))), .unset, .val (.int (4 : Int32)), .val (.int (42 : Int32)), .unset] [])) (fun _ k_ => XS.goto X0.here hx rfl (pc0 := 120) (pc' := 130) rfl (hb hby at_120) (by decide) (by decide) k_) ?_
                refine own_ww (T' := s₁) (g' := (mkF m 132 #[.val (.int kk), .val (.long xl), .second, .val (.long yl), .second, .val (.int (kk &&& (7 : Int32))), .unset, .val (.int (4 : Int32)), .val (.int (42 : Int32)), .unset] [(.int (7 : Int32))])) (fun _ k_ => XS.bipush X0.here hx rfl (hb hby at_130) k_) ?_
                obtain ⟨T92, h92, k92, X92, e92, E92, A92, st92⟩ := newP X0 hx hZ (hw _ (List.mem_of_getElem? (i := 0) rfl)) e0 (g := (mkF m 132 #[.val (.int kk), .val (.long xl), .second, .val (.long yl), .second, .val (.int (kk &&& (7 : Int32))), .unset, .val (.int (4 : Int32)), .val (.int (42 : Int32)), .unset] [(.int (7 : Int32))])) rfl (hb hby at_132) rfl (by decide) (cap := 7) (by decide) (by decide) (by decide) (by decide)
                obtain ⟨b92, gq92⟩ : ∃ z, z = h0.size := ⟨_, rfl⟩
                rw [← gq92] at A92 st92
                have V_b92 := own_Ar_new A92 rfl (k := 7) rfl
                have g_b92 : n0 ≤ b92 := Nat.le_trans Z0 (Nat.le_of_eq gq92.symm)
                have Z92 : n0 ≤ h92.size := Nat.le_trans Z0 E92.1
                have CS92 : CHr Z own_EL s.vm h0 s.vm h92 := CB0.trans (CHr.ext E92 CB0.1)
                have sf92_b92 : Safe Z own_EL s.vm h92 b92 := Safe.ext E92 CB0.1 (Safe.new (Nat.le_of_eq gq92.symm))
                refine own_ww (T' := T92) (g' := (mkF m 134 #[.val (.int kk), .val (.long xl), .second, .val (.long yl), .second, .val (.int (kk &&& (7 : Int32))), .unset, .val (.int (4 : Int32)), .val (.int (42 : Int32)), .unset] [(.ref b92)])) st92 ?_
                have KK : Keep h0 h92 [] := (Keep.refl h0 []).ext E92
                refine own_ww (T' := T92) (g' := (mkF m 136 #[.val (.int kk), .val (.long xl), .second, .val (.long yl), .second, .val (.int (kk &&& (7 : Int32))), .unset, .val (.int (4 : Int32)), .val (.int (42 : Int32)), .val (.ref b92)] [])) (fun _ k_ => XS.astore X92.here hx rfl (hb hby at_134) rfl rfl (l' := #[.val (.int kk), .val (.long xl), .second, .val (.long yl), .second, .val (.int (kk &&& (7 : Int32))), .unset, .val (.int (4 : Int32)), .val (.int (42 : Int32)), .val (.ref b92)]) rfl k_) ?_
                refine own_ww (T' := T92) (g' := (mkF m 138 #[.val (.int kk), .val (.long xl), .second, .val (.long yl), .second, .val (.int (kk &&& (7 : Int32))), .unset, .val (.int (4 : Int32)), .val (.int (42 : Int32)), .val (.ref b92)] [(.ref b92)])) (fun _ k_ => XS.aload X92.here hx rfl (hb hby at_136) rfl rfl k_) ?_
                refine own_ww (T' := T92) (g' := (mkF m 139 #[.val (.int kk), .val (.long xl), .second, .val (.long yl), .second, .val (.int (kk &&& (7 : Int32))), .unset, .val (.int (4 : Int32)), .val (.int (42 : Int32)), .val (.ref b92)] [(.int (0 : Int32)), (.ref b92)])) (fun _ k_ => XS.iconst X92.here hx rfl (hb hby at_138) k_) ?_
                refine own_ww (T' := T92) (g' := (mkF m 141 #[.val (.int kk), .val (.long xl), .second, .val (.long yl), .second, .val (.int (kk &&& (7 : Int32))), .unset, .val (.int (4 : Int32)), .val (.int (42 : Int32)), .val (.ref b92)] [(.int (42 : Int32)), (.int (0 : Int32)), (.ref b92)])) (fun _ k_ => XS.iload X92.here hx rfl (hb hby at_139) rfl k_) ?_
                refine own_ww (T' := T92) (g' := (mkF m 142 #[.val (.int kk), .val (.long xl), .second, .val (.long yl), .second, .val (.int (kk &&& (7 : Int32))), .unset, .val (.int (4 : Int32)), .val (.int (42 : Int32)), .val (.ref b92)] [(.int (0 : Int32)), (.int (42 : Int32)), (.int (0 : Int32)), (.ref b92)])) (fun _ k_ => XS.iconst X92.here hx rfl (hb hby at_141) k_) ?_
                refine own_ww (T' := T92) (g' := (mkF m 143 #[.val (.int kk), .val (.long xl), .second, .val (.long yl), .second, .val (.int (kk &&& (7 : Int32))), .unset, .val (.int (4 : Int32)), .val (.int (42 : Int32)), .val (.ref b92)] [(.long xl), (.int (0 : Int32)), (.int (42 : Int32)), (.int (0 : Int32)), (.ref b92)])) (fun _ k_ => XS.lloadN X92.here hx rfl (hb hby at_142) rfl k_) ?_
                obtain ⟨_, _, ⟨T93, L93, k93, n93⟩, -, X93, ⟨Lc93, hQ93, l93, y93, z93⟩, st93⟩ := Jvm.LawKit.callS X92 hx (y := (⟨"com/example/adjacency/adjacency/identity/NodeNameParsePinLaw", "pos", "(IIJ)C"⟩ : MethodName)) hown (mvT hZ (hw _ (List.mem_of_getElem? (i := 1) rfl))) (mvT hZ (hw _ (List.mem_of_getElem? (i := 2) rfl))) (mvT hZ (hw _ (List.mem_of_getElem? (i := 3) rfl))) (mvT hZ (hw _ (List.mem_of_getElem? (i := 4) rfl))) (by decide) (backOf (W := 2) (own_rm1_c l Z a0 hw [] (42 : Int32) (0 : Int32) xl  h92 n0 Z92 (by decide)) hZ (hw _ (List.mem_of_getElem? (i := 4) rfl)) (hw _ (List.mem_of_getElem? (i := 3) rfl)) (by decide) (by decide)) (g := (mkF m 143 #[.val (.int kk), .val (.long xl), .second, .val (.long yl), .second, .val (.int (kk &&& (7 : Int32))), .unset, .val (.int (4 : Int32)), .val (.int (42 : Int32)), .val (.ref b92)] [(.long xl), (.int (0 : Int32)), (.int (42 : Int32)), (.int (0 : Int32)), (.ref b92)])) rfl (by rw [hml]; rfl) (argsL := [(.int (42 : Int32)), (.int (0 : Int32)), (.long xl)]) (rest := [(.int (0 : Int32)), (.ref b92)]) (lenOf own_pd27 rfl) rfl (by show 2 * 0 + _ ≤ _; exact Nat.le_of_eq rfl) (hb hby at_143) (fun _ _ => ⟨rfl, e92, (by decide : 1 + 0 ≤ _), (by decide : 7 + 0 ≤ _)⟩)
                dsimp only [Pt.U, Pt.locs, Pt.cells, Pt.slots] at X93 l93 y93 z93 st93 hQ93
                subst l93 y93 z93
                obtain ⟨r93, rfl, N93q, e93, ok93, nh93⟩ := hQ93
                have N93 := Fr.app N0 N93q
                refine own_ww (T' := T93) (g' := (mkF m 146 #[.val (.int kk), .val (.long xl), .second, .val (.long yl), .second, .val (.int (kk &&& (7 : Int32))), .unset, .val (.int (4 : Int32)), .val (.int (42 : Int32)), .val (.ref b92)] [(.int r93), (.int (0 : Int32)), (.ref b92)])) st93 ?_
                obtain ⟨cl94, Ar94, hs94⟩ := id V_b92
                obtain ⟨T94, h94, X94, e94, W94, st94⟩ := stC X93 hx hZ e93 Ar94 (j := (0 : Int32)) (own_Ar_in (i := 0) hs94 (by decide) (by simp)) (g := (mkF m 146 #[.val (.int kk), .val (.long xl), .second, .val (.long yl), .second, .val (.int (kk &&& (7 : Int32))), .unset, .val (.int (4 : Int32)), .val (.int (42 : Int32)), .val (.ref b92)] [(.int r93), (.int (0 : Int32)), (.ref b92)])) rfl rfl (hb hby at_146)
                have V94 := own_Ar_set (i := 0) (v := r93) V_b92 W94 (by decide) (own_i2c_small (own_ok128 ok93).1 (Int.lt_trans (own_ok128 ok93).2 (by decide)))
                have N94 := Fr.snoc X94 N93 g_b92
                have Z94 : n0 ≤ h94.size := Nat.le_trans Z92 (Keep.of_wr W94).1
                have CS94 : CHr Z own_EL s.vm h0 s.vm h94 := CS92.trans (CHr.wr W94 sf92_b92 CS92.1)
                have sf94_b92 := Safe.wr W94 sf92_b92 CS92.1 sf92_b92
                refine own_ww (T' := T94) (g' := (mkF m 147 #[.val (.int kk), .val (.long xl), .second, .val (.long yl), .second, .val (.int (kk &&& (7 : Int32))), .unset, .val (.int (4 : Int32)), .val (.int (42 : Int32)), .val (.ref b92)] [])) st94 ?_
                have K94 := KK.wr W94 (Or.inr (Nat.le_of_eq gq92.symm))
                refine own_ww (T' := T94) (g' := (mkF m 149 #[.val (.int kk), .val (.long xl), .second, .val (.long yl), .second, .val (.int (kk &&& (7 : Int32))), .unset, .val (.int (4 : Int32)), .val (.int (42 : Int32)), .val (.ref b92)] [(.ref b92)])) (fun _ k_ => XS.aload X94.here hx rfl (hb hby at_147) rfl rfl k_) ?_
                refine own_ww (T' := T94) (g' := (mkF m 150 #[.val (.int kk), .val (.long xl), .second, .val (.long yl), .second, .val (.int (kk &&& (7 : Int32))), .unset, .val (.int (4 : Int32)), .val (.int (42 : Int32)), .val (.ref b92)] [(.int (1 : Int32)), (.ref b92)])) (fun _ k_ => XS.iconst X94.here hx rfl (hb hby at_149) k_) ?_
                refine own_ww (T' := T94) (g' := (mkF m 152 #[.val (.int kk), .val (.long xl), .second, .val (.long yl), .second, .val (.int (kk &&& (7 : Int32))), .unset, .val (.int (4 : Int32)), .val (.int (42 : Int32)), .val (.ref b92)] [(.int (42 : Int32)), (.int (1 : Int32)), (.ref b92)])) (fun _ k_ => XS.iload X94.here hx rfl (hb hby at_150) rfl k_) ?_
                refine own_ww (T' := T94) (g' := (mkF m 153 #[.val (.int kk), .val (.long xl), .second, .val (.long yl), .second, .val (.int (kk &&& (7 : Int32))), .unset, .val (.int (4 : Int32)), .val (.int (42 : Int32)), .val (.ref b92)] [(.int (1 : Int32)), (.int (42 : Int32)), (.int (1 : Int32)), (.ref b92)])) (fun _ k_ => XS.iconst X94.here hx rfl (hb hby at_152) k_) ?_
                refine own_ww (T' := T94) (g' := (mkF m 154 #[.val (.int kk), .val (.long xl), .second, .val (.long yl), .second, .val (.int (kk &&& (7 : Int32))), .unset, .val (.int (4 : Int32)), .val (.int (42 : Int32)), .val (.ref b92)] [(.long xl), (.int (1 : Int32)), (.int (42 : Int32)), (.int (1 : Int32)), (.ref b92)])) (fun _ k_ => XS.lloadN X94.here hx rfl (hb hby at_153) rfl k_) ?_
                refine own_ww (T' := T94) (g' := (mkF m 156 #[.val (.int kk), .val (.long xl), .second, .val (.long yl), .second, .val (.int (kk &&& (7 : Int32))), .unset, .val (.int (4 : Int32)), .val (.int (42 : Int32)), .val (.ref b92)] [(.int (21 : Int32)), (.long xl), (.int (1 : Int32)), (.int (42 : Int32)), (.int (1 : Int32)), (.ref b92)])) (fun _ k_ => XS.bipush X94.here hx rfl (hb hby at_154) k_) ?_
                refine own_ww (T' := T94) (g' := (mkF m 157 #[.val (.int kk), .val (.long xl), .second, .val (.long yl), .second, .val (.int (kk &&& (7 : Int32))), .unset, .val (.int (4 : Int32)), .val (.int (42 : Int32)), .val (.ref b92)] [(.long ((xl.toUInt64 >>> ((21 : Int32) &&& 0x3f).toInt64.toUInt64).toInt64)), (.int (1 : Int32)), (.int (42 : Int32)), (.int (1 : Int32)), (.ref b92)])) (fun _ k_ => XS.lushr X94.here hx rfl (hb hby at_156) rfl k_) ?_
                obtain ⟨_, _, ⟨T95, L95, k95, n95⟩, -, X95, ⟨Lc95, hQ95, l95, y95, z95⟩, st95⟩ := Jvm.LawKit.callS X94 hx (y := (⟨"com/example/adjacency/adjacency/identity/NodeNameParsePinLaw", "pos", "(IIJ)C"⟩ : MethodName)) hown (mvT hZ (hw _ (List.mem_of_getElem? (i := 1) rfl))) (mvT hZ (hw _ (List.mem_of_getElem? (i := 2) rfl))) (mvT hZ (hw _ (List.mem_of_getElem? (i := 3) rfl))) (mvT hZ (hw _ (List.mem_of_getElem? (i := 4) rfl))) (by decide) (backOf (W := 2) (own_rm1_d l Z a0 hw [] (42 : Int32) (1 : Int32) ((xl.toUInt64 >>> ((21 : Int32) &&& 0x3f).toInt64.toUInt64).toInt64)  h94 n0 Z94 (by decide)) hZ (hw _ (List.mem_of_getElem? (i := 4) rfl)) (hw _ (List.mem_of_getElem? (i := 3) rfl)) (by decide) (by decide)) (g := (mkF m 157 #[.val (.int kk), .val (.long xl), .second, .val (.long yl), .second, .val (.int (kk &&& (7 : Int32))), .unset, .val (.int (4 : Int32)), .val (.int (42 : Int32)), .val (.ref b92)] [(.long ((xl.toUInt64 >>> ((21 : Int32) &&& 0x3f).toInt64.toUInt64).toInt64)), (.int (1 : Int32)), (.int (42 : Int32)), (.int (1 : Int32)), (.ref b92)])) rfl (by rw [hml]; rfl) (argsL := [(.int (42 : Int32)), (.int (1 : Int32)), (.long ((xl.toUInt64 >>> ((21 : Int32) &&& 0x3f).toInt64.toUInt64).toInt64))]) (rest := [(.int (1 : Int32)), (.ref b92)]) (lenOf own_pd27 rfl) rfl (by show 2 * 0 + _ ≤ _; exact Nat.le_of_eq rfl) (hb hby at_157) (fun _ _ => ⟨rfl, e94, (by decide : 1 + 0 ≤ _), (by decide : 7 + 0 ≤ _)⟩)
                dsimp only [Pt.U, Pt.locs, Pt.cells, Pt.slots] at X95 l95 y95 z95 st95 hQ95
                subst l95 y95 z95
                obtain ⟨rfl, N95q, e95⟩ := hQ95
                have N95 := Fr.app N94 N95q
                refine own_ww (T' := T95) (g' := (mkF m 160 #[.val (.int kk), .val (.long xl), .second, .val (.long yl), .second, .val (.int (kk &&& (7 : Int32))), .unset, .val (.int (4 : Int32)), .val (.int (42 : Int32)), .val (.ref b92)] [(.int (46 : Int32)), (.int (1 : Int32)), (.ref b92)])) st95 ?_
                obtain ⟨cl96, Ar96, hs96⟩ := id V94
                obtain ⟨T96, h96, X96, e96, W96, st96⟩ := stC X95 hx hZ e95 Ar96 (j := (1 : Int32)) (own_Ar_in (i := 1) hs96 (by decide) (by simp)) (g := (mkF m 160 #[.val (.int kk), .val (.long xl), .second, .val (.long yl), .second, .val (.int (kk &&& (7 : Int32))), .unset, .val (.int (4 : Int32)), .val (.int (42 : Int32)), .val (.ref b92)] [(.int (46 : Int32)), (.int (1 : Int32)), (.ref b92)])) rfl rfl (hb hby at_160)
                have V96 := own_Ar_set (i := 1) (v := (46 : Int32)) V94 W96 (by decide) (by decide)
                have N96 := Fr.snoc X96 N95 g_b92
                have Z96 : n0 ≤ h96.size := Nat.le_trans Z94 (Keep.of_wr W96).1
                have CS96 : CHr Z own_EL s.vm h0 s.vm h96 := CS94.trans (CHr.wr W96 sf94_b92 CS94.1)
                have sf96_b92 := Safe.wr W96 sf94_b92 CS94.1 sf94_b92
                refine own_ww (T' := T96) (g' := (mkF m 161 #[.val (.int kk), .val (.long xl), .second, .val (.long yl), .second, .val (.int (kk &&& (7 : Int32))), .unset, .val (.int (4 : Int32)), .val (.int (42 : Int32)), .val (.ref b92)] [])) st96 ?_
                have K96 := K94.wr W96 (Or.inr (Nat.le_of_eq gq92.symm))
                refine own_ww (T' := T96) (g' := (mkF m 163 #[.val (.int kk), .val (.long xl), .second, .val (.long yl), .second, .val (.int (kk &&& (7 : Int32))), .unset, .val (.int (4 : Int32)), .val (.int (42 : Int32)), .val (.ref b92)] [(.ref b92)])) (fun _ k_ => XS.aload X96.here hx rfl (hb hby at_161) rfl rfl k_) ?_
                refine own_ww (T' := T96) (g' := (mkF m 164 #[.val (.int kk), .val (.long xl), .second, .val (.long yl), .second, .val (.int (kk &&& (7 : Int32))), .unset, .val (.int (4 : Int32)), .val (.int (42 : Int32)), .val (.ref b92)] [(.int (2 : Int32)), (.ref b92)])) (fun _ k_ => XS.iconst X96.here hx rfl (hb hby at_163) k_) ?_
                refine own_ww (T' := T96) (g' := (mkF m 166 #[.val (.int kk), .val (.long xl), .second, .val (.long yl), .second, .val (.int (kk &&& (7 : Int32))), .unset, .val (.int (4 : Int32)), .val (.int (42 : Int32)), .val (.ref b92)] [(.int (42 : Int32)), (.int (2 : Int32)), (.ref b92)])) (fun _ k_ => XS.iload X96.here hx rfl (hb hby at_164) rfl k_) ?_
                refine own_ww (T' := T96) (g' := (mkF m 167 #[.val (.int kk), .val (.long xl), .second, .val (.long yl), .second, .val (.int (kk &&& (7 : Int32))), .unset, .val (.int (4 : Int32)), .val (.int (42 : Int32)), .val (.ref b92)] [(.int (2 : Int32)), (.int (42 : Int32)), (.int (2 : Int32)), (.ref b92)])) (fun _ k_ => XS.iconst X96.here hx rfl (hb hby at_166) k_) ?_
                refine own_ww (T' := T96) (g' := (mkF m 168 #[.val (.int kk), .val (.long xl), .second, .val (.long yl), .second, .val (.int (kk &&& (7 : Int32))), .unset, .val (.int (4 : Int32)), .val (.int (42 : Int32)), .val (.ref b92)] [(.long xl), (.int (2 : Int32)), (.int (42 : Int32)), (.int (2 : Int32)), (.ref b92)])) (fun _ k_ => XS.lloadN X96.here hx rfl (hb hby at_167) rfl k_) ?_
                refine own_ww (T' := T96) (g' := (mkF m 170 #[.val (.int kk), .val (.long xl), .second, .val (.long yl), .second, .val (.int (kk &&& (7 : Int32))), .unset, .val (.int (4 : Int32)), .val (.int (42 : Int32)), .val (.ref b92)] [(.int (42 : Int32)), (.long xl), (.int (2 : Int32)), (.int (42 : Int32)), (.int (2 : Int32)), (.ref b92)])) (fun _ k_ => XS.bipush X96.here hx rfl (hb hby at_168) k_) ?_
                refine own_ww (T' := T96) (g' := (mkF m 171 #[.val (.int kk), .val (.long xl), .second, .val (.long yl), .second, .val (.int (kk &&& (7 : Int32))), .unset, .val (.int (4 : Int32)), .val (.int (42 : Int32)), .val (.ref b92)] [(.long ((xl.toUInt64 >>> ((42 : Int32) &&& 0x3f).toInt64.toUInt64).toInt64)), (.int (2 : Int32)), (.int (42 : Int32)), (.int (2 : Int32)), (.ref b92)])) (fun _ k_ => XS.lushr X96.here hx rfl (hb hby at_170) rfl k_) ?_
                obtain ⟨_, _, ⟨T97, L97, k97, n97⟩, -, X97, ⟨Lc97, hQ97, l97, y97, z97⟩, st97⟩ := Jvm.LawKit.callS X96 hx (y := (⟨"com/example/adjacency/adjacency/identity/NodeNameParsePinLaw", "pos", "(IIJ)C"⟩ : MethodName)) hown (mvT hZ (hw _ (List.mem_of_getElem? (i := 1) rfl))) (mvT hZ (hw _ (List.mem_of_getElem? (i := 2) rfl))) (mvT hZ (hw _ (List.mem_of_getElem? (i := 3) rfl))) (mvT hZ (hw _ (List.mem_of_getElem? (i := 4) rfl))) (by decide) (backOf (W := 2) (own_rm1_c l Z a0 hw [] (42 : Int32) (2 : Int32) ((xl.toUInt64 >>> ((42 : Int32) &&& 0x3f).toInt64.toUInt64).toInt64)  h96 n0 Z96 (by decide)) hZ (hw _ (List.mem_of_getElem? (i := 4) rfl)) (hw _ (List.mem_of_getElem? (i := 3) rfl)) (by decide) (by decide)) (g := (mkF m 171 #[.val (.int kk), .val (.long xl), .second, .val (.long yl), .second, .val (.int (kk &&& (7 : Int32))), .unset, .val (.int (4 : Int32)), .val (.int (42 : Int32)), .val (.ref b92)] [(.long ((xl.toUInt64 >>> ((42 : Int32) &&& 0x3f).toInt64.toUInt64).toInt64)), (.int (2 : Int32)), (.int (42 : Int32)), (.int (2 : Int32)), (.ref b92)])) rfl (by rw [hml]; rfl) (argsL := [(.int (42 : Int32)), (.int (2 : Int32)), (.long ((xl.toUInt64 >>> ((42 : Int32) &&& 0x3f).toInt64.toUInt64).toInt64))]) (rest := [(.int (2 : Int32)), (.ref b92)]) (lenOf own_pd27 rfl) rfl (by show 2 * 0 + _ ≤ _; exact Nat.le_of_eq rfl) (hb hby at_171) (fun _ _ => ⟨rfl, e96, (by decide : 1 + 0 ≤ _), (by decide : 7 + 0 ≤ _)⟩)
                dsimp only [Pt.U, Pt.locs, Pt.cells, Pt.slots] at X97 l97 y97 z97 st97 hQ97
                subst l97 y97 z97
                obtain ⟨r97, rfl, N97q, e97, ok97, nh97⟩ := hQ97
                have N97 := Fr.app N96 N97q
                refine own_ww (T' := T97) (g' := (mkF m 174 #[.val (.int kk), .val (.long xl), .second, .val (.long yl), .second, .val (.int (kk &&& (7 : Int32))), .unset, .val (.int (4 : Int32)), .val (.int (42 : Int32)), .val (.ref b92)] [(.int r97), (.int (2 : Int32)), (.ref b92)])) st97 ?_
                obtain ⟨cl98, Ar98, hs98⟩ := id V96
                obtain ⟨T98, h98, X98, e98, W98, st98⟩ := stC X97 hx hZ e97 Ar98 (j := (2 : Int32)) (own_Ar_in (i := 2) hs98 (by decide) (by simp)) (g := (mkF m 174 #[.val (.int kk), .val (.long xl), .second, .val (.long yl), .second, .val (.int (kk &&& (7 : Int32))), .unset, .val (.int (4 : Int32)), .val (.int (42 : Int32)), .val (.ref b92)] [(.int r97), (.int (2 : Int32)), (.ref b92)])) rfl rfl (hb hby at_174)
                have V98 := own_Ar_set (i := 2) (v := r97) V96 W98 (by decide) (own_i2c_small (own_ok128 ok97).1 (Int.lt_trans (own_ok128 ok97).2 (by decide)))
                have N98 := Fr.snoc X98 N97 g_b92
                have Z98 : n0 ≤ h98.size := Nat.le_trans Z96 (Keep.of_wr W98).1
                have CS98 : CHr Z own_EL s.vm h0 s.vm h98 := CS96.trans (CHr.wr W98 sf96_b92 CS96.1)
                have sf98_b92 := Safe.wr W98 sf96_b92 CS96.1 sf96_b92
                refine own_ww (T' := T98) (g' := (mkF m 175 #[.val (.int kk), .val (.long xl), .second, .val (.long yl), .second, .val (.int (kk &&& (7 : Int32))), .unset, .val (.int (4 : Int32)), .val (.int (42 : Int32)), .val (.ref b92)] [])) st98 ?_
                have K98 := K96.wr W98 (Or.inr (Nat.le_of_eq gq92.symm))
                refine own_ww (T' := T98) (g' := (mkF m 177 #[.val (.int kk), .val (.long xl), .second, .val (.long yl), .second, .val (.int (kk &&& (7 : Int32))), .unset, .val (.int (4 : Int32)), .val (.int (42 : Int32)), .val (.ref b92)] [(.ref b92)])) (fun _ k_ => XS.aload X98.here hx rfl (hb hby at_175) rfl rfl k_) ?_
                refine own_ww (T' := T98) (g' := (mkF m 178 #[.val (.int kk), .val (.long xl), .second, .val (.long yl), .second, .val (.int (kk &&& (7 : Int32))), .unset, .val (.int (4 : Int32)), .val (.int (42 : Int32)), .val (.ref b92)] [(.int (3 : Int32)), (.ref b92)])) (fun _ k_ => XS.iconst X98.here hx rfl (hb hby at_177) k_) ?_
                refine own_ww (T' := T98) (g' := (mkF m 180 #[.val (.int kk), .val (.long xl), .second, .val (.long yl), .second, .val (.int (kk &&& (7 : Int32))), .unset, .val (.int (4 : Int32)), .val (.int (42 : Int32)), .val (.ref b92)] [(.int (42 : Int32)), (.int (3 : Int32)), (.ref b92)])) (fun _ k_ => XS.iload X98.here hx rfl (hb hby at_178) rfl k_) ?_
                refine own_ww (T' := T98) (g' := (mkF m 181 #[.val (.int kk), .val (.long xl), .second, .val (.long yl), .second, .val (.int (kk &&& (7 : Int32))), .unset, .val (.int (4 : Int32)), .val (.int (42 : Int32)), .val (.ref b92)] [(.int (3 : Int32)), (.int (42 : Int32)), (.int (3 : Int32)), (.ref b92)])) (fun _ k_ => XS.iconst X98.here hx rfl (hb hby at_180) k_) ?_
                refine own_ww (T' := T98) (g' := (mkF m 182 #[.val (.int kk), .val (.long xl), .second, .val (.long yl), .second, .val (.int (kk &&& (7 : Int32))), .unset, .val (.int (4 : Int32)), .val (.int (42 : Int32)), .val (.ref b92)] [(.long yl), (.int (3 : Int32)), (.int (42 : Int32)), (.int (3 : Int32)), (.ref b92)])) (fun _ k_ => XS.lloadN X98.here hx rfl (hb hby at_181) rfl k_) ?_
                obtain ⟨_, _, ⟨T99, L99, k99, n99⟩, -, X99, ⟨Lc99, hQ99, l99, y99, z99⟩, st99⟩ := Jvm.LawKit.callS X98 hx (y := (⟨"com/example/adjacency/adjacency/identity/NodeNameParsePinLaw", "pos", "(IIJ)C"⟩ : MethodName)) hown (mvT hZ (hw _ (List.mem_of_getElem? (i := 1) rfl))) (mvT hZ (hw _ (List.mem_of_getElem? (i := 2) rfl))) (mvT hZ (hw _ (List.mem_of_getElem? (i := 3) rfl))) (mvT hZ (hw _ (List.mem_of_getElem? (i := 4) rfl))) (by decide) (backOf (W := 2) (own_rm1_d l Z a0 hw [] (42 : Int32) (3 : Int32) yl  h98 n0 Z98 (by decide)) hZ (hw _ (List.mem_of_getElem? (i := 4) rfl)) (hw _ (List.mem_of_getElem? (i := 3) rfl)) (by decide) (by decide)) (g := (mkF m 182 #[.val (.int kk), .val (.long xl), .second, .val (.long yl), .second, .val (.int (kk &&& (7 : Int32))), .unset, .val (.int (4 : Int32)), .val (.int (42 : Int32)), .val (.ref b92)] [(.long yl), (.int (3 : Int32)), (.int (42 : Int32)), (.int (3 : Int32)), (.ref b92)])) rfl (by rw [hml]; rfl) (argsL := [(.int (42 : Int32)), (.int (3 : Int32)), (.long yl)]) (rest := [(.int (3 : Int32)), (.ref b92)]) (lenOf own_pd27 rfl) rfl (by show 2 * 0 + _ ≤ _; exact Nat.le_of_eq rfl) (hb hby at_182) (fun _ _ => ⟨rfl, e98, (by decide : 1 + 0 ≤ _), (by decide : 7 + 0 ≤ _)⟩)
                dsimp only [Pt.U, Pt.locs, Pt.cells, Pt.slots] at X99 l99 y99 z99 st99 hQ99
                subst l99 y99 z99
                obtain ⟨rfl, N99q, e99⟩ := hQ99
                have N99 := Fr.app N98 N99q
                refine own_ww (T' := T99) (g' := (mkF m 185 #[.val (.int kk), .val (.long xl), .second, .val (.long yl), .second, .val (.int (kk &&& (7 : Int32))), .unset, .val (.int (4 : Int32)), .val (.int (42 : Int32)), .val (.ref b92)] [(.int (46 : Int32)), (.int (3 : Int32)), (.ref b92)])) st99 ?_
                obtain ⟨cl100, Ar100, hs100⟩ := id V98
                obtain ⟨T100, h100, X100, e100, W100, st100⟩ := stC X99 hx hZ e99 Ar100 (j := (3 : Int32)) (own_Ar_in (i := 3) hs100 (by decide) (by simp)) (g := (mkF m 185 #[.val (.int kk), .val (.long xl), .second, .val (.long yl), .second, .val (.int (kk &&& (7 : Int32))), .unset, .val (.int (4 : Int32)), .val (.int (42 : Int32)), .val (.ref b92)] [(.int (46 : Int32)), (.int (3 : Int32)), (.ref b92)])) rfl rfl (hb hby at_185)
                have V100 := own_Ar_set (i := 3) (v := (46 : Int32)) V98 W100 (by decide) (by decide)
                have N100 := Fr.snoc X100 N99 g_b92
                have Z100 : n0 ≤ h100.size := Nat.le_trans Z98 (Keep.of_wr W100).1
                have CS100 : CHr Z own_EL s.vm h0 s.vm h100 := CS98.trans (CHr.wr W100 sf98_b92 CS98.1)
                have sf100_b92 := Safe.wr W100 sf98_b92 CS98.1 sf98_b92
                refine own_ww (T' := T100) (g' := (mkF m 186 #[.val (.int kk), .val (.long xl), .second, .val (.long yl), .second, .val (.int (kk &&& (7 : Int32))), .unset, .val (.int (4 : Int32)), .val (.int (42 : Int32)), .val (.ref b92)] [])) st100 ?_
                have K100 := K98.wr W100 (Or.inr (Nat.le_of_eq gq92.symm))
                refine own_ww (T' := T100) (g' := (mkF m 188 #[.val (.int kk), .val (.long xl), .second, .val (.long yl), .second, .val (.int (kk &&& (7 : Int32))), .unset, .val (.int (4 : Int32)), .val (.int (42 : Int32)), .val (.ref b92)] [(.ref b92)])) (fun _ k_ => XS.aload X100.here hx rfl (hb hby at_186) rfl rfl k_) ?_
                refine own_ww (T' := T100) (g' := (mkF m 189 #[.val (.int kk), .val (.long xl), .second, .val (.long yl), .second, .val (.int (kk &&& (7 : Int32))), .unset, .val (.int (4 : Int32)), .val (.int (42 : Int32)), .val (.ref b92)] [(.int (4 : Int32)), (.ref b92)])) (fun _ k_ => XS.iconst X100.here hx rfl (hb hby at_188) k_) ?_
                refine own_ww (T' := T100) (g' := (mkF m 191 #[.val (.int kk), .val (.long xl), .second, .val (.long yl), .second, .val (.int (kk &&& (7 : Int32))), .unset, .val (.int (4 : Int32)), .val (.int (42 : Int32)), .val (.ref b92)] [(.int (42 : Int32)), (.int (4 : Int32)), (.ref b92)])) (fun _ k_ => XS.iload X100.here hx rfl (hb hby at_189) rfl k_) ?_
                refine own_ww (T' := T100) (g' := (mkF m 192 #[.val (.int kk), .val (.long xl), .second, .val (.long yl), .second, .val (.int (kk &&& (7 : Int32))), .unset, .val (.int (4 : Int32)), .val (.int (42 : Int32)), .val (.ref b92)] [(.int (4 : Int32)), (.int (42 : Int32)), (.int (4 : Int32)), (.ref b92)])) (fun _ k_ => XS.iconst X100.here hx rfl (hb hby at_191) k_) ?_
                refine own_ww (T' := T100) (g' := (mkF m 193 #[.val (.int kk), .val (.long xl), .second, .val (.long yl), .second, .val (.int (kk &&& (7 : Int32))), .unset, .val (.int (4 : Int32)), .val (.int (42 : Int32)), .val (.ref b92)] [(.long yl), (.int (4 : Int32)), (.int (42 : Int32)), (.int (4 : Int32)), (.ref b92)])) (fun _ k_ => XS.lloadN X100.here hx rfl (hb hby at_192) rfl k_) ?_
                refine own_ww (T' := T100) (g' := (mkF m 195 #[.val (.int kk), .val (.long xl), .second, .val (.long yl), .second, .val (.int (kk &&& (7 : Int32))), .unset, .val (.int (4 : Int32)), .val (.int (42 : Int32)), .val (.ref b92)] [(.int (21 : Int32)), (.long yl), (.int (4 : Int32)), (.int (42 : Int32)), (.int (4 : Int32)), (.ref b92)])) (fun _ k_ => XS.bipush X100.here hx rfl (hb hby at_193) k_) ?_
                refine own_ww (T' := T100) (g' := (mkF m 196 #[.val (.int kk), .val (.long xl), .second, .val (.long yl), .second, .val (.int (kk &&& (7 : Int32))), .unset, .val (.int (4 : Int32)), .val (.int (42 : Int32)), .val (.ref b92)] [(.long ((yl.toUInt64 >>> ((21 : Int32) &&& 0x3f).toInt64.toUInt64).toInt64)), (.int (4 : Int32)), (.int (42 : Int32)), (.int (4 : Int32)), (.ref b92)])) (fun _ k_ => XS.lushr X100.here hx rfl (hb hby at_195) rfl k_) ?_
                obtain ⟨_, _, ⟨T101, L101, k101, n101⟩, -, X101, ⟨Lc101, hQ101, l101, y101, z101⟩, st101⟩ := Jvm.LawKit.callS X100 hx (y := (⟨"com/example/adjacency/adjacency/identity/NodeNameParsePinLaw", "pos", "(IIJ)C"⟩ : MethodName)) hown (mvT hZ (hw _ (List.mem_of_getElem? (i := 1) rfl))) (mvT hZ (hw _ (List.mem_of_getElem? (i := 2) rfl))) (mvT hZ (hw _ (List.mem_of_getElem? (i := 3) rfl))) (mvT hZ (hw _ (List.mem_of_getElem? (i := 4) rfl))) (by decide) (backOf (W := 2) (own_rm1_c l Z a0 hw [] (42 : Int32) (4 : Int32) ((yl.toUInt64 >>> ((21 : Int32) &&& 0x3f).toInt64.toUInt64).toInt64)  h100 n0 Z100 (by decide)) hZ (hw _ (List.mem_of_getElem? (i := 4) rfl)) (hw _ (List.mem_of_getElem? (i := 3) rfl)) (by decide) (by decide)) (g := (mkF m 196 #[.val (.int kk), .val (.long xl), .second, .val (.long yl), .second, .val (.int (kk &&& (7 : Int32))), .unset, .val (.int (4 : Int32)), .val (.int (42 : Int32)), .val (.ref b92)] [(.long ((yl.toUInt64 >>> ((21 : Int32) &&& 0x3f).toInt64.toUInt64).toInt64)), (.int (4 : Int32)), (.int (42 : Int32)), (.int (4 : Int32)), (.ref b92)])) rfl (by rw [hml]; rfl) (argsL := [(.int (42 : Int32)), (.int (4 : Int32)), (.long ((yl.toUInt64 >>> ((21 : Int32) &&& 0x3f).toInt64.toUInt64).toInt64))]) (rest := [(.int (4 : Int32)), (.ref b92)]) (lenOf own_pd27 rfl) rfl (by show 2 * 0 + _ ≤ _; exact Nat.le_of_eq rfl) (hb hby at_196) (fun _ _ => ⟨rfl, e100, (by decide : 1 + 0 ≤ _), (by decide : 7 + 0 ≤ _)⟩)
                dsimp only [Pt.U, Pt.locs, Pt.cells, Pt.slots] at X101 l101 y101 z101 st101 hQ101
                subst l101 y101 z101
                obtain ⟨r101, rfl, N101q, e101, ok101, nh101⟩ := hQ101
                have N101 := Fr.app N100 N101q
                refine own_ww (T' := T101) (g' := (mkF m 199 #[.val (.int kk), .val (.long xl), .second, .val (.long yl), .second, .val (.int (kk &&& (7 : Int32))), .unset, .val (.int (4 : Int32)), .val (.int (42 : Int32)), .val (.ref b92)] [(.int r101), (.int (4 : Int32)), (.ref b92)])) st101 ?_
                obtain ⟨cl102, Ar102, hs102⟩ := id V100
                obtain ⟨T102, h102, X102, e102, W102, st102⟩ := stC X101 hx hZ e101 Ar102 (j := (4 : Int32)) (own_Ar_in (i := 4) hs102 (by decide) (by simp)) (g := (mkF m 199 #[.val (.int kk), .val (.long xl), .second, .val (.long yl), .second, .val (.int (kk &&& (7 : Int32))), .unset, .val (.int (4 : Int32)), .val (.int (42 : Int32)), .val (.ref b92)] [(.int r101), (.int (4 : Int32)), (.ref b92)])) rfl rfl (hb hby at_199)
                have V102 := own_Ar_set (i := 4) (v := r101) V100 W102 (by decide) (own_i2c_small (own_ok128 ok101).1 (Int.lt_trans (own_ok128 ok101).2 (by decide)))
                have N102 := Fr.snoc X102 N101 g_b92
                have Z102 : n0 ≤ h102.size := Nat.le_trans Z100 (Keep.of_wr W102).1
                have CS102 : CHr Z own_EL s.vm h0 s.vm h102 := CS100.trans (CHr.wr W102 sf100_b92 CS100.1)
                have sf102_b92 := Safe.wr W102 sf100_b92 CS100.1 sf100_b92
                refine own_ww (T' := T102) (g' := (mkF m 200 #[.val (.int kk), .val (.long xl), .second, .val (.long yl), .second, .val (.int (kk &&& (7 : Int32))), .unset, .val (.int (4 : Int32)), .val (.int (42 : Int32)), .val (.ref b92)] [])) st102 ?_
                have K102 := K100.wr W102 (Or.inr (Nat.le_of_eq gq92.symm))
                refine own_ww (T' := T102) (g' := (mkF m 202 #[.val (.int kk), .val (.long xl), .second, .val (.long yl), .second, .val (.int (kk &&& (7 : Int32))), .unset, .val (.int (4 : Int32)), .val (.int (42 : Int32)), .val (.ref b92)] [(.ref b92)])) (fun _ k_ => XS.aload X102.here hx rfl (hb hby at_200) rfl rfl k_) ?_
                refine own_ww (T' := T102) (g' := (mkF m 203 #[.val (.int kk), .val (.long xl), .second, .val (.long yl), .second, .val (.int (kk &&& (7 : Int32))), .unset, .val (.int (4 : Int32)), .val (.int (42 : Int32)), .val (.ref b92)] [(.int (5 : Int32)), (.ref b92)])) (fun _ k_ => XS.iconst X102.here hx rfl (hb hby at_202) k_) ?_
                refine own_ww (T' := T102) (g' := (mkF m 205 #[.val (.int kk), .val (.long xl), .second, .val (.long yl), .second, .val (.int (kk &&& (7 : Int32))), .unset, .val (.int (4 : Int32)), .val (.int (42 : Int32)), .val (.ref b92)] [(.int (42 : Int32)), (.int (5 : Int32)), (.ref b92)])) (fun _ k_ => XS.iload X102.here hx rfl (hb hby at_203) rfl k_) ?_
                refine own_ww (T' := T102) (g' := (mkF m 206 #[.val (.int kk), .val (.long xl), .second, .val (.long yl), .second, .val (.int (kk &&& (7 : Int32))), .unset, .val (.int (4 : Int32)), .val (.int (42 : Int32)), .val (.ref b92)] [(.int (5 : Int32)), (.int (42 : Int32)), (.int (5 : Int32)), (.ref b92)])) (fun _ k_ => XS.iconst X102.here hx rfl (hb hby at_205) k_) ?_
                refine own_ww (T' := T102) (g' := (mkF m 207 #[.val (.int kk), .val (.long xl), .second, .val (.long yl), .second, .val (.int (kk &&& (7 : Int32))), .unset, .val (.int (4 : Int32)), .val (.int (42 : Int32)), .val (.ref b92)] [(.long yl), (.int (5 : Int32)), (.int (42 : Int32)), (.int (5 : Int32)), (.ref b92)])) (fun _ k_ => XS.lloadN X102.here hx rfl (hb hby at_206) rfl k_) ?_
                refine own_ww (T' := T102) (g' := (mkF m 209 #[.val (.int kk), .val (.long xl), .second, .val (.long yl), .second, .val (.int (kk &&& (7 : Int32))), .unset, .val (.int (4 : Int32)), .val (.int (42 : Int32)), .val (.ref b92)] [(.int (42 : Int32)), (.long yl), (.int (5 : Int32)), (.int (42 : Int32)), (.int (5 : Int32)), (.ref b92)])) (fun _ k_ => XS.bipush X102.here hx rfl (hb hby at_207) k_) ?_
                refine own_ww (T' := T102) (g' := (mkF m 210 #[.val (.int kk), .val (.long xl), .second, .val (.long yl), .second, .val (.int (kk &&& (7 : Int32))), .unset, .val (.int (4 : Int32)), .val (.int (42 : Int32)), .val (.ref b92)] [(.long ((yl.toUInt64 >>> ((42 : Int32) &&& 0x3f).toInt64.toUInt64).toInt64)), (.int (5 : Int32)), (.int (42 : Int32)), (.int (5 : Int32)), (.ref b92)])) (fun _ k_ => XS.lushr X102.here hx rfl (hb hby at_209) rfl k_) ?_
                obtain ⟨_, _, ⟨T103, L103, k103, n103⟩, -, X103, ⟨Lc103, hQ103, l103, y103, z103⟩, st103⟩ := Jvm.LawKit.callS X102 hx (y := (⟨"com/example/adjacency/adjacency/identity/NodeNameParsePinLaw", "pos", "(IIJ)C"⟩ : MethodName)) hown (mvT hZ (hw _ (List.mem_of_getElem? (i := 1) rfl))) (mvT hZ (hw _ (List.mem_of_getElem? (i := 2) rfl))) (mvT hZ (hw _ (List.mem_of_getElem? (i := 3) rfl))) (mvT hZ (hw _ (List.mem_of_getElem? (i := 4) rfl))) (by decide) (backOf (W := 2) (own_rm1_d l Z a0 hw [] (42 : Int32) (5 : Int32) ((yl.toUInt64 >>> ((42 : Int32) &&& 0x3f).toInt64.toUInt64).toInt64)  h102 n0 Z102 (by decide)) hZ (hw _ (List.mem_of_getElem? (i := 4) rfl)) (hw _ (List.mem_of_getElem? (i := 3) rfl)) (by decide) (by decide)) (g := (mkF m 210 #[.val (.int kk), .val (.long xl), .second, .val (.long yl), .second, .val (.int (kk &&& (7 : Int32))), .unset, .val (.int (4 : Int32)), .val (.int (42 : Int32)), .val (.ref b92)] [(.long ((yl.toUInt64 >>> ((42 : Int32) &&& 0x3f).toInt64.toUInt64).toInt64)), (.int (5 : Int32)), (.int (42 : Int32)), (.int (5 : Int32)), (.ref b92)])) rfl (by rw [hml]; rfl) (argsL := [(.int (42 : Int32)), (.int (5 : Int32)), (.long ((yl.toUInt64 >>> ((42 : Int32) &&& 0x3f).toInt64.toUInt64).toInt64))]) (rest := [(.int (5 : Int32)), (.ref b92)]) (lenOf own_pd27 rfl) rfl (by show 2 * 0 + _ ≤ _; exact Nat.le_of_eq rfl) (hb hby at_210) (fun _ _ => ⟨rfl, e102, (by decide : 1 + 0 ≤ _), (by decide : 7 + 0 ≤ _)⟩)
                dsimp only [Pt.U, Pt.locs, Pt.cells, Pt.slots] at X103 l103 y103 z103 st103 hQ103
                subst l103 y103 z103
                obtain ⟨rfl, N103q, e103⟩ := hQ103
                have N103 := Fr.app N102 N103q
                refine own_ww (T' := T103) (g' := (mkF m 213 #[.val (.int kk), .val (.long xl), .second, .val (.long yl), .second, .val (.int (kk &&& (7 : Int32))), .unset, .val (.int (4 : Int32)), .val (.int (42 : Int32)), .val (.ref b92)] [(.int (46 : Int32)), (.int (5 : Int32)), (.ref b92)])) st103 ?_
                obtain ⟨cl104, Ar104, hs104⟩ := id V102
                obtain ⟨T104, h104, X104, e104, W104, st104⟩ := stC X103 hx hZ e103 Ar104 (j := (5 : Int32)) (own_Ar_in (i := 5) hs104 (by decide) (by simp)) (g := (mkF m 213 #[.val (.int kk), .val (.long xl), .second, .val (.long yl), .second, .val (.int (kk &&& (7 : Int32))), .unset, .val (.int (4 : Int32)), .val (.int (42 : Int32)), .val (.ref b92)] [(.int (46 : Int32)), (.int (5 : Int32)), (.ref b92)])) rfl rfl (hb hby at_213)
                have V104 := own_Ar_set (i := 5) (v := (46 : Int32)) V102 W104 (by decide) (by decide)
                have N104 := Fr.snoc X104 N103 g_b92
                have Z104 : n0 ≤ h104.size := Nat.le_trans Z102 (Keep.of_wr W104).1
                have CS104 : CHr Z own_EL s.vm h0 s.vm h104 := CS102.trans (CHr.wr W104 sf102_b92 CS102.1)
                have sf104_b92 := Safe.wr W104 sf102_b92 CS102.1 sf102_b92
                refine own_ww (T' := T104) (g' := (mkF m 214 #[.val (.int kk), .val (.long xl), .second, .val (.long yl), .second, .val (.int (kk &&& (7 : Int32))), .unset, .val (.int (4 : Int32)), .val (.int (42 : Int32)), .val (.ref b92)] [])) st104 ?_
                have K104 := K102.wr W104 (Or.inr (Nat.le_of_eq gq92.symm))
                refine own_ww (T' := T104) (g' := (mkF m 216 #[.val (.int kk), .val (.long xl), .second, .val (.long yl), .second, .val (.int (kk &&& (7 : Int32))), .unset, .val (.int (4 : Int32)), .val (.int (42 : Int32)), .val (.ref b92)] [(.ref b92)])) (fun _ k_ => XS.aload X104.here hx rfl (hb hby at_214) rfl rfl k_) ?_
                refine own_ww (T' := T104) (g' := (mkF m 218 #[.val (.int kk), .val (.long xl), .second, .val (.long yl), .second, .val (.int (kk &&& (7 : Int32))), .unset, .val (.int (4 : Int32)), .val (.int (42 : Int32)), .val (.ref b92)] [(.int (6 : Int32)), (.ref b92)])) (fun _ k_ => XS.bipush X104.here hx rfl (hb hby at_216) k_) ?_
                refine own_ww (T' := T104) (g' := (mkF m 220 #[.val (.int kk), .val (.long xl), .second, .val (.long yl), .second, .val (.int (kk &&& (7 : Int32))), .unset, .val (.int (4 : Int32)), .val (.int (42 : Int32)), .val (.ref b92)] [(.int (42 : Int32)), (.int (6 : Int32)), (.ref b92)])) (fun _ k_ => XS.iload X104.here hx rfl (hb hby at_218) rfl k_) ?_
                refine own_ww (T' := T104) (g' := (mkF m 222 #[.val (.int kk), .val (.long xl), .second, .val (.long yl), .second, .val (.int (kk &&& (7 : Int32))), .unset, .val (.int (4 : Int32)), .val (.int (42 : Int32)), .val (.ref b92)] [(.int (6 : Int32)), (.int (42 : Int32)), (.int (6 : Int32)), (.ref b92)])) (fun _ k_ => XS.bipush X104.here hx rfl (hb hby at_220) k_) ?_
                refine own_ww (T' := T104) (g' := (mkF m 223 #[.val (.int kk), .val (.long xl), .second, .val (.long yl), .second, .val (.int (kk &&& (7 : Int32))), .unset, .val (.int (4 : Int32)), .val (.int (42 : Int32)), .val (.ref b92)] [(.int kk), (.int (6 : Int32)), (.int (42 : Int32)), (.int (6 : Int32)), (.ref b92)])) (fun _ k_ => XS.iloadN X104.here hx rfl (hb hby at_222) rfl k_) ?_
                refine own_ww (T' := T104) (g' := (mkF m 224 #[.val (.int kk), .val (.long xl), .second, .val (.long yl), .second, .val (.int (kk &&& (7 : Int32))), .unset, .val (.int (4 : Int32)), .val (.int (42 : Int32)), .val (.ref b92)] [(.int (3 : Int32)), (.int kk), (.int (6 : Int32)), (.int (42 : Int32)), (.int (6 : Int32)), (.ref b92)])) (fun _ k_ => XS.iconst X104.here hx rfl (hb hby at_223) k_) ?_
                refine own_ww (T' := T104) (g' := (mkF m 225 #[.val (.int kk), .val (.long xl), .second, .val (.long yl), .second, .val (.int (kk &&& (7 : Int32))), .unset, .val (.int (4 : Int32)), .val (.int (42 : Int32)), .val (.ref b92)] [(.int ((kk.toUInt32 >>> ((3 : Int32) &&& 31).toUInt32).toInt32)), (.int (6 : Int32)), (.int (42 : Int32)), (.int (6 : Int32)), (.ref b92)])) (fun _ k_ => XS.iushr X104.here hx rfl (hb hby at_224) rfl k_) ?_
                refine own_ww (T' := T104) (g' := (mkF m 226 #[.val (.int kk), .val (.long xl), .second, .val (.long yl), .second, .val (.int (kk &&& (7 : Int32))), .unset, .val (.int (4 : Int32)), .val (.int (42 : Int32)), .val (.ref b92)] [(.long (((kk.toUInt32 >>> ((3 : Int32) &&& 31).toUInt32).toInt32).toInt64)), (.int (6 : Int32)), (.int (42 : Int32)), (.int (6 : Int32)), (.ref b92)])) (fun _ k_ => XS.i2l X104.here hx rfl (hb hby at_225) rfl k_) ?_
                obtain ⟨_, _, ⟨T105, L105, k105, n105⟩, -, X105, ⟨Lc105, hQ105, l105, y105, z105⟩, st105⟩ := Jvm.LawKit.callS X104 hx (y := (⟨"com/example/adjacency/adjacency/identity/NodeNameParsePinLaw", "pos", "(IIJ)C"⟩ : MethodName)) hown (mvT hZ (hw _ (List.mem_of_getElem? (i := 1) rfl))) (mvT hZ (hw _ (List.mem_of_getElem? (i := 2) rfl))) (mvT hZ (hw _ (List.mem_of_getElem? (i := 3) rfl))) (mvT hZ (hw _ (List.mem_of_getElem? (i := 4) rfl))) (by decide) (backOf (W := 2) (own_rm1_c l Z a0 hw [] (42 : Int32) (6 : Int32) (((kk.toUInt32 >>> ((3 : Int32) &&& 31).toUInt32).toInt32).toInt64)  h104 n0 Z104 (by decide)) hZ (hw _ (List.mem_of_getElem? (i := 4) rfl)) (hw _ (List.mem_of_getElem? (i := 3) rfl)) (by decide) (by decide)) (g := (mkF m 226 #[.val (.int kk), .val (.long xl), .second, .val (.long yl), .second, .val (.int (kk &&& (7 : Int32))), .unset, .val (.int (4 : Int32)), .val (.int (42 : Int32)), .val (.ref b92)] [(.long (((kk.toUInt32 >>> ((3 : Int32) &&& 31).toUInt32).toInt32).toInt64)), (.int (6 : Int32)), (.int (42 : Int32)), (.int (6 : Int32)), (.ref b92)])) rfl (by rw [hml]; rfl) (argsL := [(.int (42 : Int32)), (.int (6 : Int32)), (.long (((kk.toUInt32 >>> ((3 : Int32) &&& 31).toUInt32).toInt32).toInt64))]) (rest := [(.int (6 : Int32)), (.ref b92)]) (lenOf own_pd27 rfl) rfl (by show 2 * 0 + _ ≤ _; exact Nat.le_of_eq rfl) (hb hby at_226) (fun _ _ => ⟨rfl, e104, (by decide : 1 + 0 ≤ _), (by decide : 7 + 0 ≤ _)⟩)
                dsimp only [Pt.U, Pt.locs, Pt.cells, Pt.slots] at X105 l105 y105 z105 st105 hQ105
                subst l105 y105 z105
                obtain ⟨r105, rfl, N105q, e105, ok105, nh105⟩ := hQ105
                have N105 := Fr.app N104 N105q
                refine own_ww (T' := T105) (g' := (mkF m 229 #[.val (.int kk), .val (.long xl), .second, .val (.long yl), .second, .val (.int (kk &&& (7 : Int32))), .unset, .val (.int (4 : Int32)), .val (.int (42 : Int32)), .val (.ref b92)] [(.int r105), (.int (6 : Int32)), (.ref b92)])) st105 ?_
                obtain ⟨cl106, Ar106, hs106⟩ := id V104
                obtain ⟨T106, h106, X106, e106, W106, st106⟩ := stC X105 hx hZ e105 Ar106 (j := (6 : Int32)) (own_Ar_in (i := 6) hs106 (by decide) (by simp)) (g := (mkF m 229 #[.val (.int kk), .val (.long xl), .second, .val (.long yl), .second, .val (.int (kk &&& (7 : Int32))), .unset, .val (.int (4 : Int32)), .val (.int (42 : Int32)), .val (.ref b92)] [(.int r105), (.int (6 : Int32)), (.ref b92)])) rfl rfl (hb hby at_229)
                have V106 := own_Ar_set (i := 6) (v := r105) V104 W106 (by decide) (own_i2c_small (own_ok128 ok105).1 (Int.lt_trans (own_ok128 ok105).2 (by decide)))
                have N106 := Fr.snoc X106 N105 g_b92
                have Z106 : n0 ≤ h106.size := Nat.le_trans Z104 (Keep.of_wr W106).1
                have CS106 : CHr Z own_EL s.vm h0 s.vm h106 := CS104.trans (CHr.wr W106 sf104_b92 CS104.1)
                have sf106_b92 := Safe.wr W106 sf104_b92 CS104.1 sf104_b92
                refine own_ww (T' := T106) (g' := (mkF m 230 #[.val (.int kk), .val (.long xl), .second, .val (.long yl), .second, .val (.int (kk &&& (7 : Int32))), .unset, .val (.int (4 : Int32)), .val (.int (42 : Int32)), .val (.ref b92)] [])) st106 ?_
                have K106 := K104.wr W106 (Or.inr (Nat.le_of_eq gq92.symm))
                obtain ⟨T107, h107, X107, e107, E107, A107, D107, -, st107⟩ := newO X106 hx hZ hown (hw _ (List.mem_of_getElem? (i := 9) rfl)) (hw _ (List.mem_of_getElem? (i := 10) rfl)) (hw _ (List.mem_of_getElem? (i := 11) rfl)) e106 (g := (mkF m 230 #[.val (.int kk), .val (.long xl), .second, .val (.long yl), .second, .val (.int (kk &&& (7 : Int32))), .unset, .val (.int (4 : Int32)), .val (.int (42 : Int32)), .val (.ref b92)] [])) rfl (hb hby at_230) (by decide) (by decide)
                obtain ⟨b107, gq107⟩ : ∃ z, z = h106.size := ⟨_, rfl⟩
                rw [← gq107] at A107 D107 st107
                have g_b107 : n0 ≤ b107 := Nat.le_trans Z106 (Nat.le_of_eq gq107.symm)
                have Z107 : n0 ≤ h107.size := Nat.le_trans Z106 E107.1
                have CS107 : CHr Z own_EL s.vm h0 s.vm h107 := CS106.trans (CHr.ext E107 CS106.1)
                have sf107_b92 := Safe.ext E107 CS106.1 sf106_b92
                have sf107_b107 : Safe Z own_EL s.vm h107 b107 := Safe.ext E107 CS106.1 (Safe.new (Nat.le_of_eq gq107.symm))
                refine own_ww (T' := T107) (g' := (mkF m 233 #[.val (.int kk), .val (.long xl), .second, .val (.long yl), .second, .val (.int (kk &&& (7 : Int32))), .unset, .val (.int (4 : Int32)), .val (.int (42 : Int32)), .val (.ref b92)] [(.ref b107)])) st107 ?_
                refine own_ww (T' := T107) (g' := (mkF m 234 #[.val (.int kk), .val (.long xl), .second, .val (.long yl), .second, .val (.int (kk &&& (7 : Int32))), .unset, .val (.int (4 : Int32)), .val (.int (42 : Int32)), .val (.ref b92)] [(.ref b107), (.ref b107)])) (fun _ k_ => XS.dup X107.here hx rfl (hb hby at_233) rfl rfl k_) ?_
                refine own_ww (T' := T107) (g' := (mkF m 236 #[.val (.int kk), .val (.long xl), .second, .val (.long yl), .second, .val (.int (kk &&& (7 : Int32))), .unset, .val (.int (4 : Int32)), .val (.int (42 : Int32)), .val (.ref b92)] [(.ref b92), (.ref b107), (.ref b107)])) (fun _ k_ => XS.aload X107.here hx rfl (hb hby at_234) rfl rfl k_) ?_
                have S1 := (own_sta0 S K106).ext E107
                have SF1 := (own_sta0 SF K106).ext E107
                obtain ⟨_, _, ⟨T108, L108, k108, n108⟩, -, X108, ⟨Lc108, hQ108, l108, y108, z108⟩, st108⟩ := X107.specialBack hx (y := (⟨"java/lang/String", "<init>", "([C)V"⟩ : MethodName)) rfl hown (mvT hZ (hw _ (List.mem_of_getElem? (i := 12) rfl))) (mvT hZ (hw _ (List.mem_of_getElem? (i := 13) rfl))) (mvT hZ (hw _ (List.mem_of_getElem? (i := 14) rfl))) (by decide) (backOf (W := 1) (own_rm3 l Z a0 hw [] b107 b92 _ _ cs r93 (46 : Int32) r97 (46 : Int32) r101 (46 : Int32) r105 h107 n0 Z107 (D107 (Or.inr (hw _ (List.mem_of_getElem? (i := 37) rfl))) (ty := (.array .byte)) (by decide)) (D107 (Or.inr (hw _ (List.mem_of_getElem? (i := 35) rfl))) (ty := .byte) (by decide)) A107 g_b107 (own_Ar_ext V106 E107) hcs S1 (own_ok255 ok93) (by decide) (own_ok255 ok97) (by decide) (own_ok255 ok101) (by decide) (own_ok255 ok105)) hZ (hw _ (List.mem_of_getElem? (i := 14) rfl)) (hw _ (List.mem_of_getElem? (i := 11) rfl)) (by decide) (by decide)) (g := (mkF m 236 #[.val (.int kk), .val (.long xl), .second, .val (.long yl), .second, .val (.int (kk &&& (7 : Int32))), .unset, .val (.int (4 : Int32)), .val (.int (42 : Int32)), .val (.ref b92)] [(.ref b92), (.ref b107), (.ref b107)])) rfl (by rw [hml]; rfl) (Steps.refl _) (a := b107) (argsL := [(.ref b92)]) (rest := [(.ref b107)]) (lenOf own_pd28 rfl) rfl (by show 2 * 0 + _ ≤ _; exact Nat.le_of_eq rfl) (hb hby at_236) (fun _ _ => ⟨rfl, e107, (by decide : 2 + 1 ≤ _), (by decide : 11 + 7 ≤ _)⟩)
                dsimp only [Pt.U, Pt.locs, Pt.cells, Pt.slots] at X108 l108 y108 z108 st108 hQ108
                subst l108 y108 z108
                obtain ⟨h108, e108⟩ : ∃ h, T108.heap = h := ⟨_, rfl⟩
                rw [e108] at hQ108
                obtain ⟨rfl, N108q, K108, Q108⟩ := hQ108
                have CS108 : CHr Z own_EL s.vm h0 s.vm h108 := CS107.trans (CHr.keep K108 (sfS sf107_b107 sf0) CS107.1)
                have sf108_b92 := Safe.keep K108 (sfS sf107_b107 sf0) CS107.1 sf107_b92
                have sf108_b107 := Safe.keep K108 (sfS sf107_b107 sf0) CS107.1 sf107_b107
                have N108 := Fr.app N106 N108q
                refine own_wt (T' := T108) (g' := (mkF m 239 #[.val (.int kk), .val (.long xl), .second, .val (.long yl), .second, .val (.int (kk &&& (7 : Int32))), .unset, .val (.int (4 : Int32)), .val (.int (42 : Int32)), .val (.ref b92)] [(.ref b107)])) st108 ?_
                have Z108 : n0 ≤ h108.size := Nat.le_trans Z107 K108.1
                have KA : Keep h106 h108 [] := ((Keep.refl _ []).ext E107).trans K108 (fun x hx => Or.inr (by rw [List.mem_singleton.mp hx]; exact Nat.le_of_eq gq107.symm))
                have S2 := own_sta0 (own_sta0 S K106) KA
                have SF2 := own_sta0 (own_sta0 SF K106) KA
                have Qs : own_Str Z h108 b107 [r93, (46 : Int32), r97, (46 : Int32), r101, (46 : Int32), r105] := by
                  have q := Q108
                  rw [own_i2b_small (own_ok128 ok93), show (46 : Int32).toInt8.toInt32 = 46 by decide, own_i2b_small (own_ok128 ok97), own_i2b_small (own_ok128 ok101), own_i2b_small (own_ok128 ok105)] at q
                  exact q
                refine own_ww (T' := T108) (g' := (mkF m 241 #[.val (.int kk), .val (.long xl), .second, .val (.long yl), .second, .val (.int (kk &&& (7 : Int32))), .val (.ref b107), .val (.int (4 : Int32)), .val (.int (42 : Int32)), .val (.ref b92)] [])) (fun _ k_ => XS.astore X108.here hx rfl (hb hby at_239) rfl rfl (l' := #[.val (.int kk), .val (.long xl), .second, .val (.long yl), .second, .val (.int (kk &&& (7 : Int32))), .val (.ref b107), .val (.int (4 : Int32)), .val (.int (42 : Int32)), .val (.ref b92)]) rfl k_) ?_
                obtain ⟨LA109, XA109, NA109⟩ : ∃ L, Stand p l e room_1 (s.setVm s.vm) m #[(.int kk), (.long xl), (.long yl)] below meth c T108 L 3 18 ∧ Fr n0 L := ⟨_, X108, N108⟩
                have PL := own_pl_42 ok93 ok97 ok101 ok105 (nh93 (by decide)) (nh97 (by decide)) (nh101 (by decide)) (nh105 (by decide))
                have hro := own_ro PL.2.2.2 (by decide)
                refine own_ww (T' := T108) (g' := (mkF m 243 #[.val (.int kk), .val (.long xl), .second, .val (.long yl), .second, .val (.int (kk &&& (7 : Int32))), .val (.ref b107), .val (.int (4 : Int32)), .val (.int (42 : Int32)), .val (.ref b92)] [(.ref b107)])) (fun _ k_ => XS.aload XA109.here hx rfl (hb hby at_241) rfl rfl k_) ?_
                obtain ⟨_, _, ⟨T110, L110, k110, n110⟩, -, X110', hs2110, hg110, ⟨Lc110, hQ110, l110, y110, z110, cr110⟩, st110⟩ := callSS XA109 hx (y := (⟨"com/example/adjacency/adjacency/identity/NodeName", "parse", "(Ljava/lang/String;)Lcom/example/adjacency/adjacency/identity/NodeName;"⟩ : MethodName)) hown (mvT hZ (hw _ (List.mem_of_getElem? (i := 38) rfl))) (mvT hZ (hw _ (List.mem_of_getElem? (i := 39) rfl))) (mvT hZ (hw _ (List.mem_of_getElem? (i := 40) rfl))) (mvT hZ (hw _ (List.mem_of_getElem? (i := 41) rfl))) (by decide) (backOfSH (W := 0) (own_rm9 l Z a0 hw [] b107 [r93, (46 : Int32), r97, (46 : Int32), r101, (46 : Int32), r105] cs sf h108 n0 Z108 Qs (show 7 < 1000 by decide) hcs S2 hsf SF2 PL.1 PL.2.1 (by rw [PL.2.2.1]; decide)) hZ (hw _ (List.mem_of_getElem? (i := 41) rfl)) (hw _ (List.mem_of_getElem? (i := 40) rfl)) (by decide) (by decide) (own_EW hw) CS108.1) (g := (mkF m 243 #[.val (.int kk), .val (.long xl), .second, .val (.long yl), .second, .val (.int (kk &&& (7 : Int32))), .val (.ref b107), .val (.int (4 : Int32)), .val (.int (42 : Int32)), .val (.ref b92)] [(.ref b107)])) rfl (by rw [hml]; rfl) (argsL := [(.ref b107)]) (rest := []) (lenOf own_pd24 rfl) rfl (by show 2 * 0 + _ ≤ _; exact Nat.le_of_eq rfl) (hb hby at_243) (fun _ _ => ⟨rfl, e108, (by decide : 3 + 3 ≤ _), (by decide : 18 + 21 ≤ _)⟩)
                dsimp only [Pt.U, Pt.locs, Pt.cells, Pt.slots] at X110' hs2110 hg110 l110 y110 z110 st110 hQ110 cr110
                subst l110 y110 z110
                obtain ⟨X110, hS110, hZ110, ho110⟩ := rebS hS0 (by rw [e108]; exact CS108.2.1) X110' hs2110 hg110 hZ hown
                obtain ⟨h110, e110⟩ : ∃ h, T110.heap = h := ⟨_, rfl⟩
                rw [e110] at hQ110 hS110 cr110
                obtain ⟨r110, rfl, N110q, K110, Ex110, F110⟩ := hQ110
                have N110 := Fr.app NA109 N110q
                have CB110 : CHr Z own_EL s.vm h0 T110.vm h110 := (CB0.trans CS108).trans cr110
                have CS110 : CHr Z own_EL T110.vm h110 T110.vm h110 := CHr.refl CB110.1
                have Z110 : n0 ≤ h110.size := Nat.le_trans Z108 cr110.2.1
                refine own_wt (T' := T110) (g' := (mkF m 246 #[.val (.int kk), .val (.long xl), .second, .val (.long yl), .second, .val (.int (kk &&& (7 : Int32))), .val (.ref b107), .val (.int (4 : Int32)), .val (.int (42 : Int32)), .val (.ref b92)] [(.ref r110)])) st110 ?_
                have Se := own_Str_keep Qs K110
                have Sf := own_sta0 S2 K110
                have Sg := own_sta0 SF2 K110
                refine own_ww (T' := T110) (g' := (mkF m 248 #[.val (.int kk), .val (.long xl), .second, .val (.long yl), .second, .val (.int (kk &&& (7 : Int32))), .val (.ref b107), .val (.int (4 : Int32)), .val (.ref r110), .val (.ref b92)] [])) (fun _ k_ => XS.astore X110.here hx rfl (hb hby at_246) rfl rfl (l' := #[.val (.int kk), .val (.long xl), .second, .val (.long yl), .second, .val (.int (kk &&& (7 : Int32))), .val (.ref b107), .val (.int (4 : Int32)), .val (.ref r110), .val (.ref b92)]) rfl k_) ?_
                refine own_ww (T' := T110) (g' := (mkF m 250 #[.val (.int kk), .val (.long xl), .second, .val (.long yl), .second, .val (.int (kk &&& (7 : Int32))), .val (.ref b107), .val (.int (4 : Int32)), .val (.ref r110), .val (.ref b92)] [(.ref r110)])) (fun _ k_ => XS.aload X110.here hx rfl (hb hby at_248) rfl rfl k_) ?_
                obtain ⟨cq111, kq111, q111a, q111b, q111c⟩ := isOf hZ110 e110 Ex110
                obtain ⟨_, _, ⟨T111, L111, k111, n111⟩, -, X111, ⟨Lc111, hQ111, l111, y111, z111⟩, st111⟩ := X110.virtualBack hx (y := (⟨"com/example/adjacency/adjacency/identity/NodeName", "toString", "()Ljava/lang/String;"⟩ : MethodName)) (z := (⟨"com/example/adjacency/adjacency/identity/NodeName", "toString", "()Ljava/lang/String;"⟩ : MethodName)) ho110 (mvT hZ110 (hw _ (List.mem_of_getElem? (i := 117) rfl))) (mvT hZ110 (hw _ (List.mem_of_getElem? (i := 118) rfl))) (notFace_of_selects (args := #[]) (mvT hZ110 (hw _ (List.mem_of_getElem? (i := 120) rfl)))) (mvT hZ110 (hw _ (List.mem_of_getElem? (i := 120) rfl))) (mvT hZ110 (hw _ (List.mem_of_getElem? (i := 119) rfl))) (by decide) (backOf (W := 0) (own_rm27 l Z a0 hw [] r110 b107 h110 n0 Z110 F110) hZ110 (hw _ (List.mem_of_getElem? (i := 121) rfl)) (hw _ (List.mem_of_getElem? (i := 40) rfl)) (by decide) (by decide)) q111a q111c (g := (mkF m 250 #[.val (.int kk), .val (.long xl), .second, .val (.long yl), .second, .val (.int (kk &&& (7 : Int32))), .val (.ref b107), .val (.int (4 : Int32)), .val (.ref r110), .val (.ref b92)] [(.ref r110)])) rfl (by rw [hml]; rfl) (Steps.refl _) (argsL := []) (rest := []) (lenOf own_pd25 rfl) rfl (by show 2 * 0 + _ ≤ _; exact Nat.le_of_eq rfl) (hb hby at_250) (fun _ _ => ⟨rfl, e110, (by decide : 6 + 0 ≤ _), (by decide : 39 + 0 ≤ _)⟩)
                dsimp only [Pt.U, Pt.locs, Pt.cells, Pt.slots] at X111 l111 y111 z111 st111 hQ111
                subst l111 y111 z111
                obtain ⟨rfl, N111q, e111⟩ := hQ111
                have N111 := Fr.app N110 N111q
                refine own_wt (T' := T111) (g' := (mkF m 253 #[.val (.int kk), .val (.long xl), .second, .val (.long yl), .second, .val (.int (kk &&& (7 : Int32))), .val (.ref b107), .val (.int (4 : Int32)), .val (.ref r110), .val (.ref b92)] [(.ref b107)])) st111 ?_
                refine own_ww (T' := T111) (g' := (mkF m 255 #[.val (.int kk), .val (.long xl), .second, .val (.long yl), .second, .val (.int (kk &&& (7 : Int32))), .val (.ref b107), .val (.int (4 : Int32)), .val (.ref r110), .val (.ref b92)] [(.ref b107), (.ref b107)])) (fun _ k_ => XS.aload X111.here hx rfl (hb hby at_253) rfl rfl k_) ?_
                obtain ⟨cq112, kq112, q112a, q112b, q112c⟩ := isOf hZ110 e111 Se.1
                obtain ⟨_, _, ⟨T112, L112, k112, n112⟩, -, X112, ⟨Lc112, hQ112, l112, y112, z112⟩, st112⟩ := X111.virtualBack hx (y := (⟨"java/lang/String", "equals", "(Ljava/lang/Object;)Z"⟩ : MethodName)) (z := (⟨"java/lang/String", "equals", "(Ljava/lang/Object;)Z"⟩ : MethodName)) ho110 (mvT hZ110 (hw _ (List.mem_of_getElem? (i := 122) rfl))) (mvT hZ110 (hw _ (List.mem_of_getElem? (i := 123) rfl))) (notFace_of_selects (args := #[]) (mvT hZ110 (hw _ (List.mem_of_getElem? (i := 125) rfl)))) (mvT hZ110 (hw _ (List.mem_of_getElem? (i := 125) rfl))) (mvT hZ110 (hw _ (List.mem_of_getElem? (i := 124) rfl))) (by decide) (backOf (W := 0) (own_rm28 l Z a0 hw [] b107 b107  h110 n0 Z110 rfl) hZ110 (hw _ (List.mem_of_getElem? (i := 126) rfl)) (hw _ (List.mem_of_getElem? (i := 11) rfl)) (by decide) (by decide)) q112a q112c (g := (mkF m 255 #[.val (.int kk), .val (.long xl), .second, .val (.long yl), .second, .val (.int (kk &&& (7 : Int32))), .val (.ref b107), .val (.int (4 : Int32)), .val (.ref r110), .val (.ref b92)] [(.ref b107), (.ref b107)])) rfl (by rw [hml]; rfl) (Steps.refl _) (argsL := [(.ref b107)]) (rest := []) (lenOf own_pd26 rfl) rfl (by show 2 * 0 + _ ≤ _; exact Nat.le_of_eq rfl) (hb hby at_255) (fun _ _ => ⟨rfl, e111, (by decide : 6 + 0 ≤ _), (by decide : 39 + 0 ≤ _)⟩)
                dsimp only [Pt.U, Pt.locs, Pt.cells, Pt.slots] at X112 l112 y112 z112 st112 hQ112
                subst l112 y112 z112
                obtain ⟨rfl, N112q, e112⟩ := hQ112
                have N112 := Fr.app N111 N112q
                refine own_wt (T' := T112) (g' := (mkF m 258 #[.val (.int kk), .val (.long xl), .second, .val (.long yl), .second, .val (.int (kk &&& (7 : Int32))), .val (.ref b107), .val (.int (4 : Int32)), .val (.ref r110), .val (.ref b92)] [(.int (1 : Int32))])) st112 ?_
                refine own_ww (T' := T112) (g' := (mkF m 261 #[.val (.int kk), .val (.long xl), .second, .val (.long yl), .second, .val (.int (kk &&& (7 : Int32))), .val (.ref b107), .val (.int (4 : Int32)), .val (.ref r110), .val (.ref b92)] [])) (fun _ k_ => XS.ifNo X112.here hx rfl (hb hby at_258) rfl ((if0 _ _).trans (feq (by decide)).1) k_) ?_
                refine own_ww (T' := T112) (g' := (mkF m 263 #[.val (.int kk), .val (.long xl), .second, .val (.long yl), .second, .val (.int (kk &&& (7 : Int32))), .val (.ref b107), .val (.int (4 : Int32)), .val (.ref r110), .val (.ref b92)] [(.ref r110)])) (fun _ k_ => XS.aload X112.here hx rfl (hb hby at_261) rfl rfl k_) ?_
                obtain ⟨cq113, kq113, q113a, q113b, q113c⟩ := isOf hZ110 e112 Ex110
                obtain ⟨_, _, ⟨T113, L113, k113, n113⟩, -, X113, ⟨Lc113, hQ113, l113, y113, z113⟩, st113⟩ := X112.virtualBack hx (y := (⟨"com/example/adjacency/adjacency/identity/NodeName", "labelCount", "()I"⟩ : MethodName)) (z := (⟨"com/example/adjacency/adjacency/identity/NodeName", "labelCount", "()I"⟩ : MethodName)) ho110 (mvT hZ110 (hw _ (List.mem_of_getElem? (i := 127) rfl))) (mvT hZ110 (hw _ (List.mem_of_getElem? (i := 128) rfl))) (notFace_of_selects (args := #[]) (mvT hZ110 (hw _ (List.mem_of_getElem? (i := 130) rfl)))) (mvT hZ110 (hw _ (List.mem_of_getElem? (i := 130) rfl))) (mvT hZ110 (hw _ (List.mem_of_getElem? (i := 129) rfl))) (by decide) (backOf (W := 0) (own_rm29 l Z a0 hw [] r110 b107 [r93, (46 : Int32), r97, (46 : Int32), r101, (46 : Int32), r105] cs sf h110 n0 Z110 F110 Se (show 7 < 1000 by decide) hcs Sf hsf Sg PL.1) hZ110 (hw _ (List.mem_of_getElem? (i := 131) rfl)) (hw _ (List.mem_of_getElem? (i := 40) rfl)) (by decide) (by decide)) q113a q113c (g := (mkF m 263 #[.val (.int kk), .val (.long xl), .second, .val (.long yl), .second, .val (.int (kk &&& (7 : Int32))), .val (.ref b107), .val (.int (4 : Int32)), .val (.ref r110), .val (.ref b92)] [(.ref r110)])) rfl (by rw [hml]; rfl) (Steps.refl _) (argsL := []) (rest := []) (lenOf own_pd8 rfl) rfl (by show 2 * 0 + _ ≤ _; exact Nat.le_of_eq rfl) (hb hby at_263) (fun _ _ => ⟨rfl, e112, (by decide : 6 + 0 ≤ _), (by decide : 39 + 0 ≤ _)⟩)
                dsimp only [Pt.U, Pt.locs, Pt.cells, Pt.slots] at X113 l113 y113 z113 st113 hQ113
                subst l113 y113 z113
                obtain ⟨rfl, N113q, e113⟩ := hQ113
                have N113 := Fr.app N112 N113q
                refine own_wt (T' := T113) (g' := (mkF m 266 #[.val (.int kk), .val (.long xl), .second, .val (.long yl), .second, .val (.int (kk &&& (7 : Int32))), .val (.ref b107), .val (.int (4 : Int32)), .val (.ref r110), .val (.ref b92)] [(.int (own_cl [r93, (46 : Int32), r97, (46 : Int32), r101, (46 : Int32), r105]))])) st113 ?_
                refine own_ww (T' := T113) (g' := (mkF m 268 #[.val (.int kk), .val (.long xl), .second, .val (.long yl), .second, .val (.int (kk &&& (7 : Int32))), .val (.ref b107), .val (.int (4 : Int32)), .val (.ref r110), .val (.ref b92)] [(.int (4 : Int32)), (.int (own_cl [r93, (46 : Int32), r97, (46 : Int32), r101, (46 : Int32), r105]))])) (fun _ k_ => XS.iload X113.here hx rfl (hb hby at_266) rfl k_) ?_
                refine own_ww (T' := T113) (g' := (mkF m 271 #[.val (.int kk), .val (.long xl), .second, .val (.long yl), .second, .val (.int (kk &&& (7 : Int32))), .val (.ref b107), .val (.int (4 : Int32)), .val (.ref r110), .val (.ref b92)] [])) (fun _ k_ => XS.icmpNo X113.here hx rfl (hb hby at_268) rfl (teq PL.2.2.1).2 k_) ?_
                refine own_ww (T' := T113) (g' := (mkF m 273 #[.val (.int kk), .val (.long xl), .second, .val (.long yl), .second, .val (.int (kk &&& (7 : Int32))), .val (.ref b107), .val (.int (4 : Int32)), .val (.ref r110), .val (.ref b92)] [(.ref r110)])) (fun _ k_ => XS.aload X113.here hx rfl (hb hby at_271) rfl rfl k_) ?_
                obtain ⟨cq114, kq114, q114a, q114b, q114c⟩ := isOf hZ110 e113 Ex110
                obtain ⟨_, _, ⟨T114, L114, k114, n114⟩, -, X114, ⟨Lc114, hQ114, l114, y114, z114⟩, st114⟩ := X113.virtualBack hx (y := (⟨"com/example/adjacency/adjacency/identity/NodeName", "isRoot", "()Z"⟩ : MethodName)) (z := (⟨"com/example/adjacency/adjacency/identity/NodeName", "isRoot", "()Z"⟩ : MethodName)) ho110 (mvT hZ110 (hw _ (List.mem_of_getElem? (i := 132) rfl))) (mvT hZ110 (hw _ (List.mem_of_getElem? (i := 133) rfl))) (notFace_of_selects (args := #[]) (mvT hZ110 (hw _ (List.mem_of_getElem? (i := 135) rfl)))) (mvT hZ110 (hw _ (List.mem_of_getElem? (i := 135) rfl))) (mvT hZ110 (hw _ (List.mem_of_getElem? (i := 134) rfl))) (by decide) (backOf (W := 0) (own_rm30 l Z a0 hw [] r110 b107 [r93, (46 : Int32), r97, (46 : Int32), r101, (46 : Int32), r105] cs h110 n0 Z110 F110 Se (show 7 < 1000 by decide) hcs Sf) hZ110 (hw _ (List.mem_of_getElem? (i := 136) rfl)) (hw _ (List.mem_of_getElem? (i := 40) rfl)) (by decide) (by decide)) q114a q114c (g := (mkF m 273 #[.val (.int kk), .val (.long xl), .second, .val (.long yl), .second, .val (.int (kk &&& (7 : Int32))), .val (.ref b107), .val (.int (4 : Int32)), .val (.ref r110), .val (.ref b92)] [(.ref r110)])) rfl (by rw [hml]; rfl) (Steps.refl _) (argsL := []) (rest := []) (lenOf own_pd3 rfl) rfl (by show 2 * 0 + _ ≤ _; exact Nat.le_of_eq rfl) (hb hby at_273) (fun _ _ => ⟨rfl, e113, (by decide : 6 + 0 ≤ _), (by decide : 39 + 0 ≤ _)⟩)
                dsimp only [Pt.U, Pt.locs, Pt.cells, Pt.slots] at X114 l114 y114 z114 st114 hQ114
                subst l114 y114 z114
                obtain ⟨rfl, N114q, e114⟩ := hQ114
                have N114 := Fr.app N113 N114q
                refine own_wt (T' := T114) (g' := (mkF m 276 #[.val (.int kk), .val (.long xl), .second, .val (.long yl), .second, .val (.int (kk &&& (7 : Int32))), .val (.ref b107), .val (.int (4 : Int32)), .val (.ref r110), .val (.ref b92)] [(.int (if (own_io [r93, (46 : Int32), r97, (46 : Int32), r101, (46 : Int32), r105] 0 < (0 : Int32)) then (1 : Int32) else 0))])) st114 ?_
                refine own_ww (T' := T114) (g' := (mkF m 278 #[.val (.int kk), .val (.long xl), .second, .val (.long yl), .second, .val (.int (kk &&& (7 : Int32))), .val (.ref b107), .val (.int (4 : Int32)), .val (.ref r110), .val (.ref b92)] [(.int (4 : Int32)), (.int (if (own_io [r93, (46 : Int32), r97, (46 : Int32), r101, (46 : Int32), r105] 0 < (0 : Int32)) then (1 : Int32) else 0))])) (fun _ k_ => XS.iload X114.here hx rfl (hb hby at_276) rfl k_) ?_
                refine own_ww (T' := T114) (g' := (mkF m 279 #[.val (.int kk), .val (.long xl), .second, .val (.long yl), .second, .val (.int (kk &&& (7 : Int32))), .val (.ref b107), .val (.int (4 : Int32)), .val (.ref r110), .val (.ref b92)] [(.int (1 : Int32)), (.int (4 : Int32)), (.int (if (own_io [r93, (46 : Int32), r97, (46 : Int32), r101, (46 : Int32), r105] 0 < (0 : Int32)) then (1 : Int32) else 0))])) (fun _ k_ => XS.iconst X114.here hx rfl (hb hby at_278) k_) ?_
                refine own_ww (T' := T114) (g' := (mkF m 286 #[.val (.int kk), .val (.long xl), .second, .val (.long yl), .second, .val (.int (kk &&& (7 : Int32))), .val (.ref b107), .val (.int (4 : Int32)), .val (.ref r110), .val (.ref b92)] [(.int (if (own_io [r93, (46 : Int32), r97, (46 : Int32), r101, (46 : Int32), r105] 0 < (0 : Int32)) then (1 : Int32) else 0))])) (fun _ k_ => XS.icmpYes X114.here hx rfl (pc0 := 279) (pc' := 286) rfl (hb hby at_279) rfl (feq (by decide)).2 (by decide) (by decide) k_) ?_
                refine own_ww (T' := T114) (g' := (mkF m 287 #[.val (.int kk), .val (.long xl), .second, .val (.long yl), .second, .val (.int (kk &&& (7 : Int32))), .val (.ref b107), .val (.int (4 : Int32)), .val (.ref r110), .val (.ref b92)] [(.int (0 : Int32)), (.int (if (own_io [r93, (46 : Int32), r97, (46 : Int32), r101, (46 : Int32), r105] 0 < (0 : Int32)) then (1 : Int32) else 0))])) (fun _ k_ => XS.iconst X114.here hx rfl (hb hby at_286) k_) ?_
                refine own_ww (T' := T114) (g' := (mkF m 290 #[.val (.int kk), .val (.long xl), .second, .val (.long yl), .second, .val (.int (kk &&& (7 : Int32))), .val (.ref b107), .val (.int (4 : Int32)), .val (.ref r110), .val (.ref b92)] [])) (fun _ k_ => XS.icmpNo X114.here hx rfl (hb hby at_287) rfl (teq (if_neg hro)).2 k_) ?_
                refine own_ww (T' := T114) (g' := (mkF m 291 #[.val (.int kk), .val (.long xl), .second, .val (.long yl), .second, .val (.int (kk &&& (7 : Int32))), .val (.ref b107), .val (.int (4 : Int32)), .val (.ref r110), .val (.ref b92)] [(.int (1 : Int32))])) (fun _ k_ => XS.iconst X114.here hx rfl (hb hby at_290) k_) ?_
                refine own_ww (T' := T114) (g' := (mkF m 295 #[.val (.int kk), .val (.long xl), .second, .val (.long yl), .second, .val (.int (kk &&& (7 : Int32))), .val (.ref b107), .val (.int (4 : Int32)), .val (.ref r110), .val (.ref b92)] [(.int (1 : Int32))])) (fun _ k_ => XS.goto X114.here hx rfl (pc0 := 291) (pc' := 295) rfl (hb hby at_291) (by decide) (by decide) k_) ?_
                obtain ⟨fs, hr, hrun, hended, hRE⟩ := X114.leaveW (own_since hS110 CS110.2.1) (by rw [e114]; exact Nat.le_refl _) (v := some (.int (1 : Int32))) (fun h => by rw [Bd.returns] at h; cases h)
                exact ⟨_, _, retOut X114 hx Bd.returns rfl (Or.inl ⟨rfl, Or.inr (Or.inl rfl), _, rfl⟩) (hb hby at_295) hr, hrun, hended, _, _, rfl, (by show own_Q0 Z kk xl yl cs sf h0 n0 _ T114.heap _; rw [e114]; exact ⟨rfl, N114⟩), (by show CHr Z own_EL s.vm s.heap T114.vm T114.heap; rw [e114, hh]; exact (CB110.trans CS110).trans (CHv.at X114 hZ110 (own_EW hw) CS110.1)), own_rmono hRE (by decide) (by decide)⟩
              · refine own_ww (T' := s₁) (g' := (mkF m 123 #[.val (.int kk), .val (.long xl), .second, .val (.long yl), .second, .val (.int (kk &&& (7 : Int32))), .unset, .unset, .unset, .unset] [])) (fun _ k_ => XS.icmpYes X0.here hx rfl (pc0 := 110) (pc' := 123) rfl (hb hby at_110) rfl (feq hc110).2 (by decide) (by decide) k_) ?_
                refine own_ww (T' := s₁) (g' := (mkF m 125 #[.val (.int kk), .val (.long xl), .second, .val (.long yl), .second, .val (.int (kk &&& (7 : Int32))), .unset, .unset, .unset, .unset] [(.int (32 : Int32))])) (fun _ k_ => XS.bipush X0.here hx rfl (hb hby at_123) k_) ?_
                refine own_ww (T' := s₁) (g' := (mkF m 127 #[.val (.int kk), .val (.long xl), .second, .val (.long yl), .second, .val (.int (kk &&& (7 : Int32))), .unset, .unset, .val (.int (32 : Int32)), .unset] [])) (fun _ k_ => XS.istore X0.here hx rfl (hb hby at_125) rfl (l' := #[.val (.int kk), .val (.long xl), .second, .val (.long yl), .second, .val (.int (kk &&& (7 : Int32))), .unset, .unset, .val (.int (32 : Int32)), .unset]) rfl k_) ?_
                refine own_ww (T' := s₁) (g' := (mkF m 128 #[.val (.int kk), .val (.long xl), .second, .val (.long yl), .second, .val (.int (kk &&& (7 : Int32))), .unset, .unset, .val (.int (32 : Int32)), .unset] [(.int (2 : Int32))])) (fun _ k_ => XS.iconst X0.here hx rfl (hb hby at_127) k_) ?_
                refine own_ww (T' := s₁) (g' := (mkF m 130 #[.val (.int kk), .val (.long xl), .second, .val (.long yl), .second, .val (.int (kk &&& (7 : Int32))), .unset, .val (.int (2 : Int32)), .val (.int (32 : Int32)), .unset] [])) (fun _ k_ => XS.istore X0.here hx rfl (hb hby at_128) rfl (l' := #[.val (.int kk), .val (.long xl), .second, .val (.long yl), .second, .val (.int (kk &&& (7 : Int32))), .unset, .val (.int (2 : Int32)), .val (.int (32 : Int32)), .unset]) rfl k_) ?_
                refine own_ww (T' := s₁) (g' := (mkF m 132 #[.val (.int kk), .val (.long xl), .second, .val (.long yl), .second, .val (.int (kk &&& (7 : Int32))), .unset, .val (.int (2 : Int32)), .val (.int (32 : Int32)), .unset] [(.int (7 : Int32))])) (fun _ k_ => XS.bipush X0.here hx rfl (hb hby at_130) k_) ?_
                obtain ⟨T115, h115, k115, X115, e115, E115, A115, st115⟩ := newP X0 hx hZ (hw _ (List.mem_of_getElem? (i := 0) rfl)) e0 (g := (mkF m 132 #[.val (.int kk), .val (.long xl), .second, .val (.long yl), .second, .val (.int (kk &&& (7 : Int32))), .unset, .val (.int (2 : Int32)), .val (.int (32 : Int32)), .unset] [(.int (7 : Int32))])) rfl (hb hby at_132) rfl (by decide) (cap := 7) (by decide) (by decide) (by decide) (by decide)
                obtain ⟨b115, gq115⟩ : ∃ z, z = h0.size := ⟨_, rfl⟩
                rw [← gq115] at A115 st115
                have V_b115 := own_Ar_new A115 rfl (k := 7) rfl
                have g_b115 : n0 ≤ b115 := Nat.le_trans Z0 (Nat.le_of_eq gq115.symm)
                have Z115 : n0 ≤ h115.size := Nat.le_trans Z0 E115.1
                have CS115 : CHr Z own_EL s.vm h0 s.vm h115 := CB0.trans (CHr.ext E115 CB0.1)
                have sf115_b115 : Safe Z own_EL s.vm h115 b115 := Safe.ext E115 CB0.1 (Safe.new (Nat.le_of_eq gq115.symm))
                refine own_ww (T' := T115) (g' := (mkF m 134 #[.val (.int kk), .val (.long xl), .second, .val (.long yl), .second, .val (.int (kk &&& (7 : Int32))), .unset, .val (.int (2 : Int32)), .val (.int (32 : Int32)), .unset] [(.ref b115)])) st115 ?_
                have KK : Keep h0 h115 [] := (Keep.refl h0 []).ext E115
                refine own_ww (T' := T115) (g' := (mkF m 136 #[.val (.int kk), .val (.long xl), .second, .val (.long yl), .second, .val (.int (kk &&& (7 : Int32))), .unset, .val (.int (2 : Int32)), .val (.int (32 : Int32)), .val (.ref b115)] [])) (fun _ k_ => XS.astore X115.here hx rfl (hb hby at_134) rfl rfl (l' := #[.val (.int kk), .val (.long xl), .second, .val (.long yl), .second, .val (.int (kk &&& (7 : Int32))), .unset, .val (.int (2 : Int32)), .val (.int (32 : Int32)), .val (.ref b115)]) rfl k_) ?_
                refine own_ww (T' := T115) (g' := (mkF m 138 #[.val (.int kk), .val (.long xl), .second, .val (.long yl), .second, .val (.int (kk &&& (7 : Int32))), .unset, .val (.int (2 : Int32)), .val (.int (32 : Int32)), .val (.ref b115)] [(.ref b115)])) (fun _ k_ => XS.aload X115.here hx rfl (hb hby at_136) rfl rfl k_) ?_
                refine own_ww (T' := T115) (g' := (mkF m 139 #[.val (.int kk), .val (.long xl), .second, .val (.long yl), .second, .val (.int (kk &&& (7 : Int32))), .unset, .val (.int (2 : Int32)), .val (.int (32 : Int32)), .val (.ref b115)] [(.int (0 : Int32)), (.ref b115)])) (fun _ k_ => XS.iconst X115.here hx rfl (hb hby at_138) k_) ?_
                refine own_ww (T' := T115) (g' := (mkF m 141 #[.val (.int kk), .val (.long xl), .second, .val (.long yl), .second, .val (.int (kk &&& (7 : Int32))), .unset, .val (.int (2 : Int32)), .val (.int (32 : Int32)), .val (.ref b115)] [(.int (32 : Int32)), (.int (0 : Int32)), (.ref b115)])) (fun _ k_ => XS.iload X115.here hx rfl (hb hby at_139) rfl k_) ?_
                refine own_ww (T' := T115) (g' := (mkF m 142 #[.val (.int kk), .val (.long xl), .second, .val (.long yl), .second, .val (.int (kk &&& (7 : Int32))), .unset, .val (.int (2 : Int32)), .val (.int (32 : Int32)), .val (.ref b115)] [(.int (0 : Int32)), (.int (32 : Int32)), (.int (0 : Int32)), (.ref b115)])) (fun _ k_ => XS.iconst X115.here hx rfl (hb hby at_141) k_) ?_
                refine own_ww (T' := T115) (g' := (mkF m 143 #[.val (.int kk), .val (.long xl), .second, .val (.long yl), .second, .val (.int (kk &&& (7 : Int32))), .unset, .val (.int (2 : Int32)), .val (.int (32 : Int32)), .val (.ref b115)] [(.long xl), (.int (0 : Int32)), (.int (32 : Int32)), (.int (0 : Int32)), (.ref b115)])) (fun _ k_ => XS.lloadN X115.here hx rfl (hb hby at_142) rfl k_) ?_
                obtain ⟨_, _, ⟨T116, L116, k116, n116⟩, -, X116, ⟨Lc116, hQ116, l116, y116, z116⟩, st116⟩ := Jvm.LawKit.callS X115 hx (y := (⟨"com/example/adjacency/adjacency/identity/NodeNameParsePinLaw", "pos", "(IIJ)C"⟩ : MethodName)) hown (mvT hZ (hw _ (List.mem_of_getElem? (i := 1) rfl))) (mvT hZ (hw _ (List.mem_of_getElem? (i := 2) rfl))) (mvT hZ (hw _ (List.mem_of_getElem? (i := 3) rfl))) (mvT hZ (hw _ (List.mem_of_getElem? (i := 4) rfl))) (by decide) (backOf (W := 2) (own_rm1_c l Z a0 hw [] (32 : Int32) (0 : Int32) xl  h115 n0 Z115 (by decide)) hZ (hw _ (List.mem_of_getElem? (i := 4) rfl)) (hw _ (List.mem_of_getElem? (i := 3) rfl)) (by decide) (by decide)) (g := (mkF m 143 #[.val (.int kk), .val (.long xl), .second, .val (.long yl), .second, .val (.int (kk &&& (7 : Int32))), .unset, .val (.int (2 : Int32)), .val (.int (32 : Int32)), .val (.ref b115)] [(.long xl), (.int (0 : Int32)), (.int (32 : Int32)), (.int (0 : Int32)), (.ref b115)])) rfl (by rw [hml]; rfl) (argsL := [(.int (32 : Int32)), (.int (0 : Int32)), (.long xl)]) (rest := [(.int (0 : Int32)), (.ref b115)]) (lenOf own_pd27 rfl) rfl (by show 2 * 0 + _ ≤ _; exact Nat.le_of_eq rfl) (hb hby at_143) (fun _ _ => ⟨rfl, e115, (by decide : 1 + 0 ≤ _), (by decide : 7 + 0 ≤ _)⟩)
                dsimp only [Pt.U, Pt.locs, Pt.cells, Pt.slots] at X116 l116 y116 z116 st116 hQ116
                subst l116 y116 z116
                obtain ⟨r116, rfl, N116q, e116, ok116, nh116⟩ := hQ116
                have N116 := Fr.app N0 N116q
                refine own_ww (T' := T116) (g' := (mkF m 146 #[.val (.int kk), .val (.long xl), .second, .val (.long yl), .second, .val (.int (kk &&& (7 : Int32))), .unset, .val (.int (2 : Int32)), .val (.int (32 : Int32)), .val (.ref b115)] [(.int r116), (.int (0 : Int32)), (.ref b115)])) st116 ?_
                obtain ⟨cl117, Ar117, hs117⟩ := id V_b115
                obtain ⟨T117, h117, X117, e117, W117, st117⟩ := stC X116 hx hZ e116 Ar117 (j := (0 : Int32)) (own_Ar_in (i := 0) hs117 (by decide) (by simp)) (g := (mkF m 146 #[.val (.int kk), .val (.long xl), .second, .val (.long yl), .second, .val (.int (kk &&& (7 : Int32))), .unset, .val (.int (2 : Int32)), .val (.int (32 : Int32)), .val (.ref b115)] [(.int r116), (.int (0 : Int32)), (.ref b115)])) rfl rfl (hb hby at_146)
                have V117 := own_Ar_set (i := 0) (v := r116) V_b115 W117 (by decide) (own_i2c_small (own_ok128 ok116).1 (Int.lt_trans (own_ok128 ok116).2 (by decide)))
                have N117 := Fr.snoc X117 N116 g_b115
                have Z117 : n0 ≤ h117.size := Nat.le_trans Z115 (Keep.of_wr W117).1
                have CS117 : CHr Z own_EL s.vm h0 s.vm h117 := CS115.trans (CHr.wr W117 sf115_b115 CS115.1)
                have sf117_b115 := Safe.wr W117 sf115_b115 CS115.1 sf115_b115
                refine own_ww (T' := T117) (g' := (mkF m 147 #[.val (.int kk), .val (.long xl), .second, .val (.long yl), .second, .val (.int (kk &&& (7 : Int32))), .unset, .val (.int (2 : Int32)), .val (.int (32 : Int32)), .val (.ref b115)] [])) st117 ?_
                have K117 := KK.wr W117 (Or.inr (Nat.le_of_eq gq115.symm))
                refine own_ww (T' := T117) (g' := (mkF m 149 #[.val (.int kk), .val (.long xl), .second, .val (.long yl), .second, .val (.int (kk &&& (7 : Int32))), .unset, .val (.int (2 : Int32)), .val (.int (32 : Int32)), .val (.ref b115)] [(.ref b115)])) (fun _ k_ => XS.aload X117.here hx rfl (hb hby at_147) rfl rfl k_) ?_
                refine own_ww (T' := T117) (g' := (mkF m 150 #[.val (.int kk), .val (.long xl), .second, .val (.long yl), .second, .val (.int (kk &&& (7 : Int32))), .unset, .val (.int (2 : Int32)), .val (.int (32 : Int32)), .val (.ref b115)] [(.int (1 : Int32)), (.ref b115)])) (fun _ k_ => XS.iconst X117.here hx rfl (hb hby at_149) k_) ?_
                refine own_ww (T' := T117) (g' := (mkF m 152 #[.val (.int kk), .val (.long xl), .second, .val (.long yl), .second, .val (.int (kk &&& (7 : Int32))), .unset, .val (.int (2 : Int32)), .val (.int (32 : Int32)), .val (.ref b115)] [(.int (32 : Int32)), (.int (1 : Int32)), (.ref b115)])) (fun _ k_ => XS.iload X117.here hx rfl (hb hby at_150) rfl k_) ?_
                refine own_ww (T' := T117) (g' := (mkF m 153 #[.val (.int kk), .val (.long xl), .second, .val (.long yl), .second, .val (.int (kk &&& (7 : Int32))), .unset, .val (.int (2 : Int32)), .val (.int (32 : Int32)), .val (.ref b115)] [(.int (1 : Int32)), (.int (32 : Int32)), (.int (1 : Int32)), (.ref b115)])) (fun _ k_ => XS.iconst X117.here hx rfl (hb hby at_152) k_) ?_
                refine own_ww (T' := T117) (g' := (mkF m 154 #[.val (.int kk), .val (.long xl), .second, .val (.long yl), .second, .val (.int (kk &&& (7 : Int32))), .unset, .val (.int (2 : Int32)), .val (.int (32 : Int32)), .val (.ref b115)] [(.long xl), (.int (1 : Int32)), (.int (32 : Int32)), (.int (1 : Int32)), (.ref b115)])) (fun _ k_ => XS.lloadN X117.here hx rfl (hb hby at_153) rfl k_) ?_
                refine own_ww (T' := T117) (g' := (mkF m 156 #[.val (.int kk), .val (.long xl), .second, .val (.long yl), .second, .val (.int (kk &&& (7 : Int32))), .unset, .val (.int (2 : Int32)), .val (.int (32 : Int32)), .val (.ref b115)] [(.int (21 : Int32)), (.long xl), (.int (1 : Int32)), (.int (32 : Int32)), (.int (1 : Int32)), (.ref b115)])) (fun _ k_ => XS.bipush X117.here hx rfl (hb hby at_154) k_) ?_
                refine own_ww (T' := T117) (g' := (mkF m 157 #[.val (.int kk), .val (.long xl), .second, .val (.long yl), .second, .val (.int (kk &&& (7 : Int32))), .unset, .val (.int (2 : Int32)), .val (.int (32 : Int32)), .val (.ref b115)] [(.long ((xl.toUInt64 >>> ((21 : Int32) &&& 0x3f).toInt64.toUInt64).toInt64)), (.int (1 : Int32)), (.int (32 : Int32)), (.int (1 : Int32)), (.ref b115)])) (fun _ k_ => XS.lushr X117.here hx rfl (hb hby at_156) rfl k_) ?_
                obtain ⟨_, _, ⟨T118, L118, k118, n118⟩, -, X118, ⟨Lc118, hQ118, l118, y118, z118⟩, st118⟩ := Jvm.LawKit.callS X117 hx (y := (⟨"com/example/adjacency/adjacency/identity/NodeNameParsePinLaw", "pos", "(IIJ)C"⟩ : MethodName)) hown (mvT hZ (hw _ (List.mem_of_getElem? (i := 1) rfl))) (mvT hZ (hw _ (List.mem_of_getElem? (i := 2) rfl))) (mvT hZ (hw _ (List.mem_of_getElem? (i := 3) rfl))) (mvT hZ (hw _ (List.mem_of_getElem? (i := 4) rfl))) (by decide) (backOf (W := 2) (own_rm1_c l Z a0 hw [] (32 : Int32) (1 : Int32) ((xl.toUInt64 >>> ((21 : Int32) &&& 0x3f).toInt64.toUInt64).toInt64)  h117 n0 Z117 (by decide)) hZ (hw _ (List.mem_of_getElem? (i := 4) rfl)) (hw _ (List.mem_of_getElem? (i := 3) rfl)) (by decide) (by decide)) (g := (mkF m 157 #[.val (.int kk), .val (.long xl), .second, .val (.long yl), .second, .val (.int (kk &&& (7 : Int32))), .unset, .val (.int (2 : Int32)), .val (.int (32 : Int32)), .val (.ref b115)] [(.long ((xl.toUInt64 >>> ((21 : Int32) &&& 0x3f).toInt64.toUInt64).toInt64)), (.int (1 : Int32)), (.int (32 : Int32)), (.int (1 : Int32)), (.ref b115)])) rfl (by rw [hml]; rfl) (argsL := [(.int (32 : Int32)), (.int (1 : Int32)), (.long ((xl.toUInt64 >>> ((21 : Int32) &&& 0x3f).toInt64.toUInt64).toInt64))]) (rest := [(.int (1 : Int32)), (.ref b115)]) (lenOf own_pd27 rfl) rfl (by show 2 * 0 + _ ≤ _; exact Nat.le_of_eq rfl) (hb hby at_157) (fun _ _ => ⟨rfl, e117, (by decide : 1 + 0 ≤ _), (by decide : 7 + 0 ≤ _)⟩)
                dsimp only [Pt.U, Pt.locs, Pt.cells, Pt.slots] at X118 l118 y118 z118 st118 hQ118
                subst l118 y118 z118
                obtain ⟨r118, rfl, N118q, e118, ok118, nh118⟩ := hQ118
                have N118 := Fr.app N117 N118q
                refine own_ww (T' := T118) (g' := (mkF m 160 #[.val (.int kk), .val (.long xl), .second, .val (.long yl), .second, .val (.int (kk &&& (7 : Int32))), .unset, .val (.int (2 : Int32)), .val (.int (32 : Int32)), .val (.ref b115)] [(.int r118), (.int (1 : Int32)), (.ref b115)])) st118 ?_
                obtain ⟨cl119, Ar119, hs119⟩ := id V117
                obtain ⟨T119, h119, X119, e119, W119, st119⟩ := stC X118 hx hZ e118 Ar119 (j := (1 : Int32)) (own_Ar_in (i := 1) hs119 (by decide) (by simp)) (g := (mkF m 160 #[.val (.int kk), .val (.long xl), .second, .val (.long yl), .second, .val (.int (kk &&& (7 : Int32))), .unset, .val (.int (2 : Int32)), .val (.int (32 : Int32)), .val (.ref b115)] [(.int r118), (.int (1 : Int32)), (.ref b115)])) rfl rfl (hb hby at_160)
                have V119 := own_Ar_set (i := 1) (v := r118) V117 W119 (by decide) (own_i2c_small (own_ok128 ok118).1 (Int.lt_trans (own_ok128 ok118).2 (by decide)))
                have N119 := Fr.snoc X119 N118 g_b115
                have Z119 : n0 ≤ h119.size := Nat.le_trans Z117 (Keep.of_wr W119).1
                have CS119 : CHr Z own_EL s.vm h0 s.vm h119 := CS117.trans (CHr.wr W119 sf117_b115 CS117.1)
                have sf119_b115 := Safe.wr W119 sf117_b115 CS117.1 sf117_b115
                refine own_ww (T' := T119) (g' := (mkF m 161 #[.val (.int kk), .val (.long xl), .second, .val (.long yl), .second, .val (.int (kk &&& (7 : Int32))), .unset, .val (.int (2 : Int32)), .val (.int (32 : Int32)), .val (.ref b115)] [])) st119 ?_
                have K119 := K117.wr W119 (Or.inr (Nat.le_of_eq gq115.symm))
                refine own_ww (T' := T119) (g' := (mkF m 163 #[.val (.int kk), .val (.long xl), .second, .val (.long yl), .second, .val (.int (kk &&& (7 : Int32))), .unset, .val (.int (2 : Int32)), .val (.int (32 : Int32)), .val (.ref b115)] [(.ref b115)])) (fun _ k_ => XS.aload X119.here hx rfl (hb hby at_161) rfl rfl k_) ?_
                refine own_ww (T' := T119) (g' := (mkF m 164 #[.val (.int kk), .val (.long xl), .second, .val (.long yl), .second, .val (.int (kk &&& (7 : Int32))), .unset, .val (.int (2 : Int32)), .val (.int (32 : Int32)), .val (.ref b115)] [(.int (2 : Int32)), (.ref b115)])) (fun _ k_ => XS.iconst X119.here hx rfl (hb hby at_163) k_) ?_
                refine own_ww (T' := T119) (g' := (mkF m 166 #[.val (.int kk), .val (.long xl), .second, .val (.long yl), .second, .val (.int (kk &&& (7 : Int32))), .unset, .val (.int (2 : Int32)), .val (.int (32 : Int32)), .val (.ref b115)] [(.int (32 : Int32)), (.int (2 : Int32)), (.ref b115)])) (fun _ k_ => XS.iload X119.here hx rfl (hb hby at_164) rfl k_) ?_
                refine own_ww (T' := T119) (g' := (mkF m 167 #[.val (.int kk), .val (.long xl), .second, .val (.long yl), .second, .val (.int (kk &&& (7 : Int32))), .unset, .val (.int (2 : Int32)), .val (.int (32 : Int32)), .val (.ref b115)] [(.int (2 : Int32)), (.int (32 : Int32)), (.int (2 : Int32)), (.ref b115)])) (fun _ k_ => XS.iconst X119.here hx rfl (hb hby at_166) k_) ?_
                refine own_ww (T' := T119) (g' := (mkF m 168 #[.val (.int kk), .val (.long xl), .second, .val (.long yl), .second, .val (.int (kk &&& (7 : Int32))), .unset, .val (.int (2 : Int32)), .val (.int (32 : Int32)), .val (.ref b115)] [(.long xl), (.int (2 : Int32)), (.int (32 : Int32)), (.int (2 : Int32)), (.ref b115)])) (fun _ k_ => XS.lloadN X119.here hx rfl (hb hby at_167) rfl k_) ?_
                refine own_ww (T' := T119) (g' := (mkF m 170 #[.val (.int kk), .val (.long xl), .second, .val (.long yl), .second, .val (.int (kk &&& (7 : Int32))), .unset, .val (.int (2 : Int32)), .val (.int (32 : Int32)), .val (.ref b115)] [(.int (42 : Int32)), (.long xl), (.int (2 : Int32)), (.int (32 : Int32)), (.int (2 : Int32)), (.ref b115)])) (fun _ k_ => XS.bipush X119.here hx rfl (hb hby at_168) k_) ?_
                refine own_ww (T' := T119) (g' := (mkF m 171 #[.val (.int kk), .val (.long xl), .second, .val (.long yl), .second, .val (.int (kk &&& (7 : Int32))), .unset, .val (.int (2 : Int32)), .val (.int (32 : Int32)), .val (.ref b115)] [(.long ((xl.toUInt64 >>> ((42 : Int32) &&& 0x3f).toInt64.toUInt64).toInt64)), (.int (2 : Int32)), (.int (32 : Int32)), (.int (2 : Int32)), (.ref b115)])) (fun _ k_ => XS.lushr X119.here hx rfl (hb hby at_170) rfl k_) ?_
                obtain ⟨_, _, ⟨T120, L120, k120, n120⟩, -, X120, ⟨Lc120, hQ120, l120, y120, z120⟩, st120⟩ := Jvm.LawKit.callS X119 hx (y := (⟨"com/example/adjacency/adjacency/identity/NodeNameParsePinLaw", "pos", "(IIJ)C"⟩ : MethodName)) hown (mvT hZ (hw _ (List.mem_of_getElem? (i := 1) rfl))) (mvT hZ (hw _ (List.mem_of_getElem? (i := 2) rfl))) (mvT hZ (hw _ (List.mem_of_getElem? (i := 3) rfl))) (mvT hZ (hw _ (List.mem_of_getElem? (i := 4) rfl))) (by decide) (backOf (W := 2) (own_rm1_c l Z a0 hw [] (32 : Int32) (2 : Int32) ((xl.toUInt64 >>> ((42 : Int32) &&& 0x3f).toInt64.toUInt64).toInt64)  h119 n0 Z119 (by decide)) hZ (hw _ (List.mem_of_getElem? (i := 4) rfl)) (hw _ (List.mem_of_getElem? (i := 3) rfl)) (by decide) (by decide)) (g := (mkF m 171 #[.val (.int kk), .val (.long xl), .second, .val (.long yl), .second, .val (.int (kk &&& (7 : Int32))), .unset, .val (.int (2 : Int32)), .val (.int (32 : Int32)), .val (.ref b115)] [(.long ((xl.toUInt64 >>> ((42 : Int32) &&& 0x3f).toInt64.toUInt64).toInt64)), (.int (2 : Int32)), (.int (32 : Int32)), (.int (2 : Int32)), (.ref b115)])) rfl (by rw [hml]; rfl) (argsL := [(.int (32 : Int32)), (.int (2 : Int32)), (.long ((xl.toUInt64 >>> ((42 : Int32) &&& 0x3f).toInt64.toUInt64).toInt64))]) (rest := [(.int (2 : Int32)), (.ref b115)]) (lenOf own_pd27 rfl) rfl (by show 2 * 0 + _ ≤ _; exact Nat.le_of_eq rfl) (hb hby at_171) (fun _ _ => ⟨rfl, e119, (by decide : 1 + 0 ≤ _), (by decide : 7 + 0 ≤ _)⟩)
                dsimp only [Pt.U, Pt.locs, Pt.cells, Pt.slots] at X120 l120 y120 z120 st120 hQ120
                subst l120 y120 z120
                obtain ⟨r120, rfl, N120q, e120, ok120, nh120⟩ := hQ120
                have N120 := Fr.app N119 N120q
                refine own_ww (T' := T120) (g' := (mkF m 174 #[.val (.int kk), .val (.long xl), .second, .val (.long yl), .second, .val (.int (kk &&& (7 : Int32))), .unset, .val (.int (2 : Int32)), .val (.int (32 : Int32)), .val (.ref b115)] [(.int r120), (.int (2 : Int32)), (.ref b115)])) st120 ?_
                obtain ⟨cl121, Ar121, hs121⟩ := id V119
                obtain ⟨T121, h121, X121, e121, W121, st121⟩ := stC X120 hx hZ e120 Ar121 (j := (2 : Int32)) (own_Ar_in (i := 2) hs121 (by decide) (by simp)) (g := (mkF m 174 #[.val (.int kk), .val (.long xl), .second, .val (.long yl), .second, .val (.int (kk &&& (7 : Int32))), .unset, .val (.int (2 : Int32)), .val (.int (32 : Int32)), .val (.ref b115)] [(.int r120), (.int (2 : Int32)), (.ref b115)])) rfl rfl (hb hby at_174)
                have V121 := own_Ar_set (i := 2) (v := r120) V119 W121 (by decide) (own_i2c_small (own_ok128 ok120).1 (Int.lt_trans (own_ok128 ok120).2 (by decide)))
                have N121 := Fr.snoc X121 N120 g_b115
                have Z121 : n0 ≤ h121.size := Nat.le_trans Z119 (Keep.of_wr W121).1
                have CS121 : CHr Z own_EL s.vm h0 s.vm h121 := CS119.trans (CHr.wr W121 sf119_b115 CS119.1)
                have sf121_b115 := Safe.wr W121 sf119_b115 CS119.1 sf119_b115
                refine own_ww (T' := T121) (g' := (mkF m 175 #[.val (.int kk), .val (.long xl), .second, .val (.long yl), .second, .val (.int (kk &&& (7 : Int32))), .unset, .val (.int (2 : Int32)), .val (.int (32 : Int32)), .val (.ref b115)] [])) st121 ?_
                have K121 := K119.wr W121 (Or.inr (Nat.le_of_eq gq115.symm))
                refine own_ww (T' := T121) (g' := (mkF m 177 #[.val (.int kk), .val (.long xl), .second, .val (.long yl), .second, .val (.int (kk &&& (7 : Int32))), .unset, .val (.int (2 : Int32)), .val (.int (32 : Int32)), .val (.ref b115)] [(.ref b115)])) (fun _ k_ => XS.aload X121.here hx rfl (hb hby at_175) rfl rfl k_) ?_
                refine own_ww (T' := T121) (g' := (mkF m 178 #[.val (.int kk), .val (.long xl), .second, .val (.long yl), .second, .val (.int (kk &&& (7 : Int32))), .unset, .val (.int (2 : Int32)), .val (.int (32 : Int32)), .val (.ref b115)] [(.int (3 : Int32)), (.ref b115)])) (fun _ k_ => XS.iconst X121.here hx rfl (hb hby at_177) k_) ?_
                refine own_ww (T' := T121) (g' := (mkF m 180 #[.val (.int kk), .val (.long xl), .second, .val (.long yl), .second, .val (.int (kk &&& (7 : Int32))), .unset, .val (.int (2 : Int32)), .val (.int (32 : Int32)), .val (.ref b115)] [(.int (32 : Int32)), (.int (3 : Int32)), (.ref b115)])) (fun _ k_ => XS.iload X121.here hx rfl (hb hby at_178) rfl k_) ?_
                refine own_ww (T' := T121) (g' := (mkF m 181 #[.val (.int kk), .val (.long xl), .second, .val (.long yl), .second, .val (.int (kk &&& (7 : Int32))), .unset, .val (.int (2 : Int32)), .val (.int (32 : Int32)), .val (.ref b115)] [(.int (3 : Int32)), (.int (32 : Int32)), (.int (3 : Int32)), (.ref b115)])) (fun _ k_ => XS.iconst X121.here hx rfl (hb hby at_180) k_) ?_
                refine own_ww (T' := T121) (g' := (mkF m 182 #[.val (.int kk), .val (.long xl), .second, .val (.long yl), .second, .val (.int (kk &&& (7 : Int32))), .unset, .val (.int (2 : Int32)), .val (.int (32 : Int32)), .val (.ref b115)] [(.long yl), (.int (3 : Int32)), (.int (32 : Int32)), (.int (3 : Int32)), (.ref b115)])) (fun _ k_ => XS.lloadN X121.here hx rfl (hb hby at_181) rfl k_) ?_
                obtain ⟨_, _, ⟨T122, L122, k122, n122⟩, -, X122, ⟨Lc122, hQ122, l122, y122, z122⟩, st122⟩ := Jvm.LawKit.callS X121 hx (y := (⟨"com/example/adjacency/adjacency/identity/NodeNameParsePinLaw", "pos", "(IIJ)C"⟩ : MethodName)) hown (mvT hZ (hw _ (List.mem_of_getElem? (i := 1) rfl))) (mvT hZ (hw _ (List.mem_of_getElem? (i := 2) rfl))) (mvT hZ (hw _ (List.mem_of_getElem? (i := 3) rfl))) (mvT hZ (hw _ (List.mem_of_getElem? (i := 4) rfl))) (by decide) (backOf (W := 2) (own_rm1_c l Z a0 hw [] (32 : Int32) (3 : Int32) yl  h121 n0 Z121 (by decide)) hZ (hw _ (List.mem_of_getElem? (i := 4) rfl)) (hw _ (List.mem_of_getElem? (i := 3) rfl)) (by decide) (by decide)) (g := (mkF m 182 #[.val (.int kk), .val (.long xl), .second, .val (.long yl), .second, .val (.int (kk &&& (7 : Int32))), .unset, .val (.int (2 : Int32)), .val (.int (32 : Int32)), .val (.ref b115)] [(.long yl), (.int (3 : Int32)), (.int (32 : Int32)), (.int (3 : Int32)), (.ref b115)])) rfl (by rw [hml]; rfl) (argsL := [(.int (32 : Int32)), (.int (3 : Int32)), (.long yl)]) (rest := [(.int (3 : Int32)), (.ref b115)]) (lenOf own_pd27 rfl) rfl (by show 2 * 0 + _ ≤ _; exact Nat.le_of_eq rfl) (hb hby at_182) (fun _ _ => ⟨rfl, e121, (by decide : 1 + 0 ≤ _), (by decide : 7 + 0 ≤ _)⟩)
                dsimp only [Pt.U, Pt.locs, Pt.cells, Pt.slots] at X122 l122 y122 z122 st122 hQ122
                subst l122 y122 z122
                obtain ⟨r122, rfl, N122q, e122, ok122, nh122⟩ := hQ122
                have N122 := Fr.app N121 N122q
                refine own_ww (T' := T122) (g' := (mkF m 185 #[.val (.int kk), .val (.long xl), .second, .val (.long yl), .second, .val (.int (kk &&& (7 : Int32))), .unset, .val (.int (2 : Int32)), .val (.int (32 : Int32)), .val (.ref b115)] [(.int r122), (.int (3 : Int32)), (.ref b115)])) st122 ?_
                obtain ⟨cl123, Ar123, hs123⟩ := id V121
                obtain ⟨T123, h123, X123, e123, W123, st123⟩ := stC X122 hx hZ e122 Ar123 (j := (3 : Int32)) (own_Ar_in (i := 3) hs123 (by decide) (by simp)) (g := (mkF m 185 #[.val (.int kk), .val (.long xl), .second, .val (.long yl), .second, .val (.int (kk &&& (7 : Int32))), .unset, .val (.int (2 : Int32)), .val (.int (32 : Int32)), .val (.ref b115)] [(.int r122), (.int (3 : Int32)), (.ref b115)])) rfl rfl (hb hby at_185)
                have V123 := own_Ar_set (i := 3) (v := r122) V121 W123 (by decide) (own_i2c_small (own_ok128 ok122).1 (Int.lt_trans (own_ok128 ok122).2 (by decide)))
                have N123 := Fr.snoc X123 N122 g_b115
                have Z123 : n0 ≤ h123.size := Nat.le_trans Z121 (Keep.of_wr W123).1
                have CS123 : CHr Z own_EL s.vm h0 s.vm h123 := CS121.trans (CHr.wr W123 sf121_b115 CS121.1)
                have sf123_b115 := Safe.wr W123 sf121_b115 CS121.1 sf121_b115
                refine own_ww (T' := T123) (g' := (mkF m 186 #[.val (.int kk), .val (.long xl), .second, .val (.long yl), .second, .val (.int (kk &&& (7 : Int32))), .unset, .val (.int (2 : Int32)), .val (.int (32 : Int32)), .val (.ref b115)] [])) st123 ?_
                have K123 := K121.wr W123 (Or.inr (Nat.le_of_eq gq115.symm))
                refine own_ww (T' := T123) (g' := (mkF m 188 #[.val (.int kk), .val (.long xl), .second, .val (.long yl), .second, .val (.int (kk &&& (7 : Int32))), .unset, .val (.int (2 : Int32)), .val (.int (32 : Int32)), .val (.ref b115)] [(.ref b115)])) (fun _ k_ => XS.aload X123.here hx rfl (hb hby at_186) rfl rfl k_) ?_
                refine own_ww (T' := T123) (g' := (mkF m 189 #[.val (.int kk), .val (.long xl), .second, .val (.long yl), .second, .val (.int (kk &&& (7 : Int32))), .unset, .val (.int (2 : Int32)), .val (.int (32 : Int32)), .val (.ref b115)] [(.int (4 : Int32)), (.ref b115)])) (fun _ k_ => XS.iconst X123.here hx rfl (hb hby at_188) k_) ?_
                refine own_ww (T' := T123) (g' := (mkF m 191 #[.val (.int kk), .val (.long xl), .second, .val (.long yl), .second, .val (.int (kk &&& (7 : Int32))), .unset, .val (.int (2 : Int32)), .val (.int (32 : Int32)), .val (.ref b115)] [(.int (32 : Int32)), (.int (4 : Int32)), (.ref b115)])) (fun _ k_ => XS.iload X123.here hx rfl (hb hby at_189) rfl k_) ?_
                refine own_ww (T' := T123) (g' := (mkF m 192 #[.val (.int kk), .val (.long xl), .second, .val (.long yl), .second, .val (.int (kk &&& (7 : Int32))), .unset, .val (.int (2 : Int32)), .val (.int (32 : Int32)), .val (.ref b115)] [(.int (4 : Int32)), (.int (32 : Int32)), (.int (4 : Int32)), (.ref b115)])) (fun _ k_ => XS.iconst X123.here hx rfl (hb hby at_191) k_) ?_
                refine own_ww (T' := T123) (g' := (mkF m 193 #[.val (.int kk), .val (.long xl), .second, .val (.long yl), .second, .val (.int (kk &&& (7 : Int32))), .unset, .val (.int (2 : Int32)), .val (.int (32 : Int32)), .val (.ref b115)] [(.long yl), (.int (4 : Int32)), (.int (32 : Int32)), (.int (4 : Int32)), (.ref b115)])) (fun _ k_ => XS.lloadN X123.here hx rfl (hb hby at_192) rfl k_) ?_
                refine own_ww (T' := T123) (g' := (mkF m 195 #[.val (.int kk), .val (.long xl), .second, .val (.long yl), .second, .val (.int (kk &&& (7 : Int32))), .unset, .val (.int (2 : Int32)), .val (.int (32 : Int32)), .val (.ref b115)] [(.int (21 : Int32)), (.long yl), (.int (4 : Int32)), (.int (32 : Int32)), (.int (4 : Int32)), (.ref b115)])) (fun _ k_ => XS.bipush X123.here hx rfl (hb hby at_193) k_) ?_
                refine own_ww (T' := T123) (g' := (mkF m 196 #[.val (.int kk), .val (.long xl), .second, .val (.long yl), .second, .val (.int (kk &&& (7 : Int32))), .unset, .val (.int (2 : Int32)), .val (.int (32 : Int32)), .val (.ref b115)] [(.long ((yl.toUInt64 >>> ((21 : Int32) &&& 0x3f).toInt64.toUInt64).toInt64)), (.int (4 : Int32)), (.int (32 : Int32)), (.int (4 : Int32)), (.ref b115)])) (fun _ k_ => XS.lushr X123.here hx rfl (hb hby at_195) rfl k_) ?_
                obtain ⟨_, _, ⟨T124, L124, k124, n124⟩, -, X124, ⟨Lc124, hQ124, l124, y124, z124⟩, st124⟩ := Jvm.LawKit.callS X123 hx (y := (⟨"com/example/adjacency/adjacency/identity/NodeNameParsePinLaw", "pos", "(IIJ)C"⟩ : MethodName)) hown (mvT hZ (hw _ (List.mem_of_getElem? (i := 1) rfl))) (mvT hZ (hw _ (List.mem_of_getElem? (i := 2) rfl))) (mvT hZ (hw _ (List.mem_of_getElem? (i := 3) rfl))) (mvT hZ (hw _ (List.mem_of_getElem? (i := 4) rfl))) (by decide) (backOf (W := 2) (own_rm1_c l Z a0 hw [] (32 : Int32) (4 : Int32) ((yl.toUInt64 >>> ((21 : Int32) &&& 0x3f).toInt64.toUInt64).toInt64)  h123 n0 Z123 (by decide)) hZ (hw _ (List.mem_of_getElem? (i := 4) rfl)) (hw _ (List.mem_of_getElem? (i := 3) rfl)) (by decide) (by decide)) (g := (mkF m 196 #[.val (.int kk), .val (.long xl), .second, .val (.long yl), .second, .val (.int (kk &&& (7 : Int32))), .unset, .val (.int (2 : Int32)), .val (.int (32 : Int32)), .val (.ref b115)] [(.long ((yl.toUInt64 >>> ((21 : Int32) &&& 0x3f).toInt64.toUInt64).toInt64)), (.int (4 : Int32)), (.int (32 : Int32)), (.int (4 : Int32)), (.ref b115)])) rfl (by rw [hml]; rfl) (argsL := [(.int (32 : Int32)), (.int (4 : Int32)), (.long ((yl.toUInt64 >>> ((21 : Int32) &&& 0x3f).toInt64.toUInt64).toInt64))]) (rest := [(.int (4 : Int32)), (.ref b115)]) (lenOf own_pd27 rfl) rfl (by show 2 * 0 + _ ≤ _; exact Nat.le_of_eq rfl) (hb hby at_196) (fun _ _ => ⟨rfl, e123, (by decide : 1 + 0 ≤ _), (by decide : 7 + 0 ≤ _)⟩)
                dsimp only [Pt.U, Pt.locs, Pt.cells, Pt.slots] at X124 l124 y124 z124 st124 hQ124
                subst l124 y124 z124
                obtain ⟨r124, rfl, N124q, e124, ok124, nh124⟩ := hQ124
                have N124 := Fr.app N123 N124q
                refine own_ww (T' := T124) (g' := (mkF m 199 #[.val (.int kk), .val (.long xl), .second, .val (.long yl), .second, .val (.int (kk &&& (7 : Int32))), .unset, .val (.int (2 : Int32)), .val (.int (32 : Int32)), .val (.ref b115)] [(.int r124), (.int (4 : Int32)), (.ref b115)])) st124 ?_
                obtain ⟨cl125, Ar125, hs125⟩ := id V123
                obtain ⟨T125, h125, X125, e125, W125, st125⟩ := stC X124 hx hZ e124 Ar125 (j := (4 : Int32)) (own_Ar_in (i := 4) hs125 (by decide) (by simp)) (g := (mkF m 199 #[.val (.int kk), .val (.long xl), .second, .val (.long yl), .second, .val (.int (kk &&& (7 : Int32))), .unset, .val (.int (2 : Int32)), .val (.int (32 : Int32)), .val (.ref b115)] [(.int r124), (.int (4 : Int32)), (.ref b115)])) rfl rfl (hb hby at_199)
                have V125 := own_Ar_set (i := 4) (v := r124) V123 W125 (by decide) (own_i2c_small (own_ok128 ok124).1 (Int.lt_trans (own_ok128 ok124).2 (by decide)))
                have N125 := Fr.snoc X125 N124 g_b115
                have Z125 : n0 ≤ h125.size := Nat.le_trans Z123 (Keep.of_wr W125).1
                have CS125 : CHr Z own_EL s.vm h0 s.vm h125 := CS123.trans (CHr.wr W125 sf123_b115 CS123.1)
                have sf125_b115 := Safe.wr W125 sf123_b115 CS123.1 sf123_b115
                refine own_ww (T' := T125) (g' := (mkF m 200 #[.val (.int kk), .val (.long xl), .second, .val (.long yl), .second, .val (.int (kk &&& (7 : Int32))), .unset, .val (.int (2 : Int32)), .val (.int (32 : Int32)), .val (.ref b115)] [])) st125 ?_
                have K125 := K123.wr W125 (Or.inr (Nat.le_of_eq gq115.symm))
                refine own_ww (T' := T125) (g' := (mkF m 202 #[.val (.int kk), .val (.long xl), .second, .val (.long yl), .second, .val (.int (kk &&& (7 : Int32))), .unset, .val (.int (2 : Int32)), .val (.int (32 : Int32)), .val (.ref b115)] [(.ref b115)])) (fun _ k_ => XS.aload X125.here hx rfl (hb hby at_200) rfl rfl k_) ?_
                refine own_ww (T' := T125) (g' := (mkF m 203 #[.val (.int kk), .val (.long xl), .second, .val (.long yl), .second, .val (.int (kk &&& (7 : Int32))), .unset, .val (.int (2 : Int32)), .val (.int (32 : Int32)), .val (.ref b115)] [(.int (5 : Int32)), (.ref b115)])) (fun _ k_ => XS.iconst X125.here hx rfl (hb hby at_202) k_) ?_
                refine own_ww (T' := T125) (g' := (mkF m 205 #[.val (.int kk), .val (.long xl), .second, .val (.long yl), .second, .val (.int (kk &&& (7 : Int32))), .unset, .val (.int (2 : Int32)), .val (.int (32 : Int32)), .val (.ref b115)] [(.int (32 : Int32)), (.int (5 : Int32)), (.ref b115)])) (fun _ k_ => XS.iload X125.here hx rfl (hb hby at_203) rfl k_) ?_
                refine own_ww (T' := T125) (g' := (mkF m 206 #[.val (.int kk), .val (.long xl), .second, .val (.long yl), .second, .val (.int (kk &&& (7 : Int32))), .unset, .val (.int (2 : Int32)), .val (.int (32 : Int32)), .val (.ref b115)] [(.int (5 : Int32)), (.int (32 : Int32)), (.int (5 : Int32)), (.ref b115)])) (fun _ k_ => XS.iconst X125.here hx rfl (hb hby at_205) k_) ?_
                refine own_ww (T' := T125) (g' := (mkF m 207 #[.val (.int kk), .val (.long xl), .second, .val (.long yl), .second, .val (.int (kk &&& (7 : Int32))), .unset, .val (.int (2 : Int32)), .val (.int (32 : Int32)), .val (.ref b115)] [(.long yl), (.int (5 : Int32)), (.int (32 : Int32)), (.int (5 : Int32)), (.ref b115)])) (fun _ k_ => XS.lloadN X125.here hx rfl (hb hby at_206) rfl k_) ?_
                refine own_ww (T' := T125) (g' := (mkF m 209 #[.val (.int kk), .val (.long xl), .second, .val (.long yl), .second, .val (.int (kk &&& (7 : Int32))), .unset, .val (.int (2 : Int32)), .val (.int (32 : Int32)), .val (.ref b115)] [(.int (42 : Int32)), (.long yl), (.int (5 : Int32)), (.int (32 : Int32)), (.int (5 : Int32)), (.ref b115)])) (fun _ k_ => XS.bipush X125.here hx rfl (hb hby at_207) k_) ?_
                refine own_ww (T' := T125) (g' := (mkF m 210 #[.val (.int kk), .val (.long xl), .second, .val (.long yl), .second, .val (.int (kk &&& (7 : Int32))), .unset, .val (.int (2 : Int32)), .val (.int (32 : Int32)), .val (.ref b115)] [(.long ((yl.toUInt64 >>> ((42 : Int32) &&& 0x3f).toInt64.toUInt64).toInt64)), (.int (5 : Int32)), (.int (32 : Int32)), (.int (5 : Int32)), (.ref b115)])) (fun _ k_ => XS.lushr X125.here hx rfl (hb hby at_209) rfl k_) ?_
                obtain ⟨_, _, ⟨T126, L126, k126, n126⟩, -, X126, ⟨Lc126, hQ126, l126, y126, z126⟩, st126⟩ := Jvm.LawKit.callS X125 hx (y := (⟨"com/example/adjacency/adjacency/identity/NodeNameParsePinLaw", "pos", "(IIJ)C"⟩ : MethodName)) hown (mvT hZ (hw _ (List.mem_of_getElem? (i := 1) rfl))) (mvT hZ (hw _ (List.mem_of_getElem? (i := 2) rfl))) (mvT hZ (hw _ (List.mem_of_getElem? (i := 3) rfl))) (mvT hZ (hw _ (List.mem_of_getElem? (i := 4) rfl))) (by decide) (backOf (W := 2) (own_rm1_d l Z a0 hw [] (32 : Int32) (5 : Int32) ((yl.toUInt64 >>> ((42 : Int32) &&& 0x3f).toInt64.toUInt64).toInt64)  h125 n0 Z125 (by decide)) hZ (hw _ (List.mem_of_getElem? (i := 4) rfl)) (hw _ (List.mem_of_getElem? (i := 3) rfl)) (by decide) (by decide)) (g := (mkF m 210 #[.val (.int kk), .val (.long xl), .second, .val (.long yl), .second, .val (.int (kk &&& (7 : Int32))), .unset, .val (.int (2 : Int32)), .val (.int (32 : Int32)), .val (.ref b115)] [(.long ((yl.toUInt64 >>> ((42 : Int32) &&& 0x3f).toInt64.toUInt64).toInt64)), (.int (5 : Int32)), (.int (32 : Int32)), (.int (5 : Int32)), (.ref b115)])) rfl (by rw [hml]; rfl) (argsL := [(.int (32 : Int32)), (.int (5 : Int32)), (.long ((yl.toUInt64 >>> ((42 : Int32) &&& 0x3f).toInt64.toUInt64).toInt64))]) (rest := [(.int (5 : Int32)), (.ref b115)]) (lenOf own_pd27 rfl) rfl (by show 2 * 0 + _ ≤ _; exact Nat.le_of_eq rfl) (hb hby at_210) (fun _ _ => ⟨rfl, e125, (by decide : 1 + 0 ≤ _), (by decide : 7 + 0 ≤ _)⟩)
                dsimp only [Pt.U, Pt.locs, Pt.cells, Pt.slots] at X126 l126 y126 z126 st126 hQ126
                subst l126 y126 z126
                obtain ⟨rfl, N126q, e126⟩ := hQ126
                have N126 := Fr.app N125 N126q
                refine own_ww (T' := T126) (g' := (mkF m 213 #[.val (.int kk), .val (.long xl), .second, .val (.long yl), .second, .val (.int (kk &&& (7 : Int32))), .unset, .val (.int (2 : Int32)), .val (.int (32 : Int32)), .val (.ref b115)] [(.int (46 : Int32)), (.int (5 : Int32)), (.ref b115)])) st126 ?_
                obtain ⟨cl127, Ar127, hs127⟩ := id V125
                obtain ⟨T127, h127, X127, e127, W127, st127⟩ := stC X126 hx hZ e126 Ar127 (j := (5 : Int32)) (own_Ar_in (i := 5) hs127 (by decide) (by simp)) (g := (mkF m 213 #[.val (.int kk), .val (.long xl), .second, .val (.long yl), .second, .val (.int (kk &&& (7 : Int32))), .unset, .val (.int (2 : Int32)), .val (.int (32 : Int32)), .val (.ref b115)] [(.int (46 : Int32)), (.int (5 : Int32)), (.ref b115)])) rfl rfl (hb hby at_213)
                have V127 := own_Ar_set (i := 5) (v := (46 : Int32)) V125 W127 (by decide) (by decide)
                have N127 := Fr.snoc X127 N126 g_b115
                have Z127 : n0 ≤ h127.size := Nat.le_trans Z125 (Keep.of_wr W127).1
                have CS127 : CHr Z own_EL s.vm h0 s.vm h127 := CS125.trans (CHr.wr W127 sf125_b115 CS125.1)
                have sf127_b115 := Safe.wr W127 sf125_b115 CS125.1 sf125_b115
                refine own_ww (T' := T127) (g' := (mkF m 214 #[.val (.int kk), .val (.long xl), .second, .val (.long yl), .second, .val (.int (kk &&& (7 : Int32))), .unset, .val (.int (2 : Int32)), .val (.int (32 : Int32)), .val (.ref b115)] [])) st127 ?_
                have K127 := K125.wr W127 (Or.inr (Nat.le_of_eq gq115.symm))
                refine own_ww (T' := T127) (g' := (mkF m 216 #[.val (.int kk), .val (.long xl), .second, .val (.long yl), .second, .val (.int (kk &&& (7 : Int32))), .unset, .val (.int (2 : Int32)), .val (.int (32 : Int32)), .val (.ref b115)] [(.ref b115)])) (fun _ k_ => XS.aload X127.here hx rfl (hb hby at_214) rfl rfl k_) ?_
                refine own_ww (T' := T127) (g' := (mkF m 218 #[.val (.int kk), .val (.long xl), .second, .val (.long yl), .second, .val (.int (kk &&& (7 : Int32))), .unset, .val (.int (2 : Int32)), .val (.int (32 : Int32)), .val (.ref b115)] [(.int (6 : Int32)), (.ref b115)])) (fun _ k_ => XS.bipush X127.here hx rfl (hb hby at_216) k_) ?_
                refine own_ww (T' := T127) (g' := (mkF m 220 #[.val (.int kk), .val (.long xl), .second, .val (.long yl), .second, .val (.int (kk &&& (7 : Int32))), .unset, .val (.int (2 : Int32)), .val (.int (32 : Int32)), .val (.ref b115)] [(.int (32 : Int32)), (.int (6 : Int32)), (.ref b115)])) (fun _ k_ => XS.iload X127.here hx rfl (hb hby at_218) rfl k_) ?_
                refine own_ww (T' := T127) (g' := (mkF m 222 #[.val (.int kk), .val (.long xl), .second, .val (.long yl), .second, .val (.int (kk &&& (7 : Int32))), .unset, .val (.int (2 : Int32)), .val (.int (32 : Int32)), .val (.ref b115)] [(.int (6 : Int32)), (.int (32 : Int32)), (.int (6 : Int32)), (.ref b115)])) (fun _ k_ => XS.bipush X127.here hx rfl (hb hby at_220) k_) ?_
                refine own_ww (T' := T127) (g' := (mkF m 223 #[.val (.int kk), .val (.long xl), .second, .val (.long yl), .second, .val (.int (kk &&& (7 : Int32))), .unset, .val (.int (2 : Int32)), .val (.int (32 : Int32)), .val (.ref b115)] [(.int kk), (.int (6 : Int32)), (.int (32 : Int32)), (.int (6 : Int32)), (.ref b115)])) (fun _ k_ => XS.iloadN X127.here hx rfl (hb hby at_222) rfl k_) ?_
                refine own_ww (T' := T127) (g' := (mkF m 224 #[.val (.int kk), .val (.long xl), .second, .val (.long yl), .second, .val (.int (kk &&& (7 : Int32))), .unset, .val (.int (2 : Int32)), .val (.int (32 : Int32)), .val (.ref b115)] [(.int (3 : Int32)), (.int kk), (.int (6 : Int32)), (.int (32 : Int32)), (.int (6 : Int32)), (.ref b115)])) (fun _ k_ => XS.iconst X127.here hx rfl (hb hby at_223) k_) ?_
                refine own_ww (T' := T127) (g' := (mkF m 225 #[.val (.int kk), .val (.long xl), .second, .val (.long yl), .second, .val (.int (kk &&& (7 : Int32))), .unset, .val (.int (2 : Int32)), .val (.int (32 : Int32)), .val (.ref b115)] [(.int ((kk.toUInt32 >>> ((3 : Int32) &&& 31).toUInt32).toInt32)), (.int (6 : Int32)), (.int (32 : Int32)), (.int (6 : Int32)), (.ref b115)])) (fun _ k_ => XS.iushr X127.here hx rfl (hb hby at_224) rfl k_) ?_
                refine own_ww (T' := T127) (g' := (mkF m 226 #[.val (.int kk), .val (.long xl), .second, .val (.long yl), .second, .val (.int (kk &&& (7 : Int32))), .unset, .val (.int (2 : Int32)), .val (.int (32 : Int32)), .val (.ref b115)] [(.long (((kk.toUInt32 >>> ((3 : Int32) &&& 31).toUInt32).toInt32).toInt64)), (.int (6 : Int32)), (.int (32 : Int32)), (.int (6 : Int32)), (.ref b115)])) (fun _ k_ => XS.i2l X127.here hx rfl (hb hby at_225) rfl k_) ?_
                obtain ⟨_, _, ⟨T128, L128, k128, n128⟩, -, X128, ⟨Lc128, hQ128, l128, y128, z128⟩, st128⟩ := Jvm.LawKit.callS X127 hx (y := (⟨"com/example/adjacency/adjacency/identity/NodeNameParsePinLaw", "pos", "(IIJ)C"⟩ : MethodName)) hown (mvT hZ (hw _ (List.mem_of_getElem? (i := 1) rfl))) (mvT hZ (hw _ (List.mem_of_getElem? (i := 2) rfl))) (mvT hZ (hw _ (List.mem_of_getElem? (i := 3) rfl))) (mvT hZ (hw _ (List.mem_of_getElem? (i := 4) rfl))) (by decide) (backOf (W := 2) (own_rm1_c l Z a0 hw [] (32 : Int32) (6 : Int32) (((kk.toUInt32 >>> ((3 : Int32) &&& 31).toUInt32).toInt32).toInt64)  h127 n0 Z127 (by decide)) hZ (hw _ (List.mem_of_getElem? (i := 4) rfl)) (hw _ (List.mem_of_getElem? (i := 3) rfl)) (by decide) (by decide)) (g := (mkF m 226 #[.val (.int kk), .val (.long xl), .second, .val (.long yl), .second, .val (.int (kk &&& (7 : Int32))), .unset, .val (.int (2 : Int32)), .val (.int (32 : Int32)), .val (.ref b115)] [(.long (((kk.toUInt32 >>> ((3 : Int32) &&& 31).toUInt32).toInt32).toInt64)), (.int (6 : Int32)), (.int (32 : Int32)), (.int (6 : Int32)), (.ref b115)])) rfl (by rw [hml]; rfl) (argsL := [(.int (32 : Int32)), (.int (6 : Int32)), (.long (((kk.toUInt32 >>> ((3 : Int32) &&& 31).toUInt32).toInt32).toInt64))]) (rest := [(.int (6 : Int32)), (.ref b115)]) (lenOf own_pd27 rfl) rfl (by show 2 * 0 + _ ≤ _; exact Nat.le_of_eq rfl) (hb hby at_226) (fun _ _ => ⟨rfl, e127, (by decide : 1 + 0 ≤ _), (by decide : 7 + 0 ≤ _)⟩)
                dsimp only [Pt.U, Pt.locs, Pt.cells, Pt.slots] at X128 l128 y128 z128 st128 hQ128
                subst l128 y128 z128
                obtain ⟨r128, rfl, N128q, e128, ok128, nh128⟩ := hQ128
                have N128 := Fr.app N127 N128q
                refine own_ww (T' := T128) (g' := (mkF m 229 #[.val (.int kk), .val (.long xl), .second, .val (.long yl), .second, .val (.int (kk &&& (7 : Int32))), .unset, .val (.int (2 : Int32)), .val (.int (32 : Int32)), .val (.ref b115)] [(.int r128), (.int (6 : Int32)), (.ref b115)])) st128 ?_
                obtain ⟨cl129, Ar129, hs129⟩ := id V127
                obtain ⟨T129, h129, X129, e129, W129, st129⟩ := stC X128 hx hZ e128 Ar129 (j := (6 : Int32)) (own_Ar_in (i := 6) hs129 (by decide) (by simp)) (g := (mkF m 229 #[.val (.int kk), .val (.long xl), .second, .val (.long yl), .second, .val (.int (kk &&& (7 : Int32))), .unset, .val (.int (2 : Int32)), .val (.int (32 : Int32)), .val (.ref b115)] [(.int r128), (.int (6 : Int32)), (.ref b115)])) rfl rfl (hb hby at_229)
                have V129 := own_Ar_set (i := 6) (v := r128) V127 W129 (by decide) (own_i2c_small (own_ok128 ok128).1 (Int.lt_trans (own_ok128 ok128).2 (by decide)))
                have N129 := Fr.snoc X129 N128 g_b115
                have Z129 : n0 ≤ h129.size := Nat.le_trans Z127 (Keep.of_wr W129).1
                have CS129 : CHr Z own_EL s.vm h0 s.vm h129 := CS127.trans (CHr.wr W129 sf127_b115 CS127.1)
                have sf129_b115 := Safe.wr W129 sf127_b115 CS127.1 sf127_b115
                refine own_ww (T' := T129) (g' := (mkF m 230 #[.val (.int kk), .val (.long xl), .second, .val (.long yl), .second, .val (.int (kk &&& (7 : Int32))), .unset, .val (.int (2 : Int32)), .val (.int (32 : Int32)), .val (.ref b115)] [])) st129 ?_
                have K129 := K127.wr W129 (Or.inr (Nat.le_of_eq gq115.symm))
                obtain ⟨T130, h130, X130, e130, E130, A130, D130, -, st130⟩ := newO X129 hx hZ hown (hw _ (List.mem_of_getElem? (i := 9) rfl)) (hw _ (List.mem_of_getElem? (i := 10) rfl)) (hw _ (List.mem_of_getElem? (i := 11) rfl)) e129 (g := (mkF m 230 #[.val (.int kk), .val (.long xl), .second, .val (.long yl), .second, .val (.int (kk &&& (7 : Int32))), .unset, .val (.int (2 : Int32)), .val (.int (32 : Int32)), .val (.ref b115)] [])) rfl (hb hby at_230) (by decide) (by decide)
                obtain ⟨b130, gq130⟩ : ∃ z, z = h129.size := ⟨_, rfl⟩
                rw [← gq130] at A130 D130 st130
                have g_b130 : n0 ≤ b130 := Nat.le_trans Z129 (Nat.le_of_eq gq130.symm)
                have Z130 : n0 ≤ h130.size := Nat.le_trans Z129 E130.1
                have CS130 : CHr Z own_EL s.vm h0 s.vm h130 := CS129.trans (CHr.ext E130 CS129.1)
                have sf130_b115 := Safe.ext E130 CS129.1 sf129_b115
                have sf130_b130 : Safe Z own_EL s.vm h130 b130 := Safe.ext E130 CS129.1 (Safe.new (Nat.le_of_eq gq130.symm))
                refine own_ww (T' := T130) (g' := (mkF m 233 #[.val (.int kk), .val (.long xl), .second, .val (.long yl), .second, .val (.int (kk &&& (7 : Int32))), .unset, .val (.int (2 : Int32)), .val (.int (32 : Int32)), .val (.ref b115)] [(.ref b130)])) st130 ?_
                refine own_ww (T' := T130) (g' := (mkF m 234 #[.val (.int kk), .val (.long xl), .second, .val (.long yl), .second, .val (.int (kk &&& (7 : Int32))), .unset, .val (.int (2 : Int32)), .val (.int (32 : Int32)), .val (.ref b115)] [(.ref b130), (.ref b130)])) (fun _ k_ => XS.dup X130.here hx rfl (hb hby at_233) rfl rfl k_) ?_
                refine own_ww (T' := T130) (g' := (mkF m 236 #[.val (.int kk), .val (.long xl), .second, .val (.long yl), .second, .val (.int (kk &&& (7 : Int32))), .unset, .val (.int (2 : Int32)), .val (.int (32 : Int32)), .val (.ref b115)] [(.ref b115), (.ref b130), (.ref b130)])) (fun _ k_ => XS.aload X130.here hx rfl (hb hby at_234) rfl rfl k_) ?_
                have S1 := (own_sta0 S K129).ext E130
                have SF1 := (own_sta0 SF K129).ext E130
                obtain ⟨_, _, ⟨T131, L131, k131, n131⟩, -, X131, ⟨Lc131, hQ131, l131, y131, z131⟩, st131⟩ := X130.specialBack hx (y := (⟨"java/lang/String", "<init>", "([C)V"⟩ : MethodName)) rfl hown (mvT hZ (hw _ (List.mem_of_getElem? (i := 12) rfl))) (mvT hZ (hw _ (List.mem_of_getElem? (i := 13) rfl))) (mvT hZ (hw _ (List.mem_of_getElem? (i := 14) rfl))) (by decide) (backOf (W := 1) (own_rm3 l Z a0 hw [] b130 b115 _ _ cs r116 r118 r120 r122 r124 (46 : Int32) r128 h130 n0 Z130 (D130 (Or.inr (hw _ (List.mem_of_getElem? (i := 37) rfl))) (ty := (.array .byte)) (by decide)) (D130 (Or.inr (hw _ (List.mem_of_getElem? (i := 35) rfl))) (ty := .byte) (by decide)) A130 g_b130 (own_Ar_ext V129 E130) hcs S1 (own_ok255 ok116) (own_ok255 ok118) (own_ok255 ok120) (own_ok255 ok122) (own_ok255 ok124) (by decide) (own_ok255 ok128)) hZ (hw _ (List.mem_of_getElem? (i := 14) rfl)) (hw _ (List.mem_of_getElem? (i := 11) rfl)) (by decide) (by decide)) (g := (mkF m 236 #[.val (.int kk), .val (.long xl), .second, .val (.long yl), .second, .val (.int (kk &&& (7 : Int32))), .unset, .val (.int (2 : Int32)), .val (.int (32 : Int32)), .val (.ref b115)] [(.ref b115), (.ref b130), (.ref b130)])) rfl (by rw [hml]; rfl) (Steps.refl _) (a := b130) (argsL := [(.ref b115)]) (rest := [(.ref b130)]) (lenOf own_pd28 rfl) rfl (by show 2 * 0 + _ ≤ _; exact Nat.le_of_eq rfl) (hb hby at_236) (fun _ _ => ⟨rfl, e130, (by decide : 2 + 1 ≤ _), (by decide : 11 + 7 ≤ _)⟩)
                dsimp only [Pt.U, Pt.locs, Pt.cells, Pt.slots] at X131 l131 y131 z131 st131 hQ131
                subst l131 y131 z131
                obtain ⟨h131, e131⟩ : ∃ h, T131.heap = h := ⟨_, rfl⟩
                rw [e131] at hQ131
                obtain ⟨rfl, N131q, K131, Q131⟩ := hQ131
                have CS131 : CHr Z own_EL s.vm h0 s.vm h131 := CS130.trans (CHr.keep K131 (sfS sf130_b130 sf0) CS130.1)
                have sf131_b115 := Safe.keep K131 (sfS sf130_b130 sf0) CS130.1 sf130_b115
                have sf131_b130 := Safe.keep K131 (sfS sf130_b130 sf0) CS130.1 sf130_b130
                have N131 := Fr.app N129 N131q
                refine own_wt (T' := T131) (g' := (mkF m 239 #[.val (.int kk), .val (.long xl), .second, .val (.long yl), .second, .val (.int (kk &&& (7 : Int32))), .unset, .val (.int (2 : Int32)), .val (.int (32 : Int32)), .val (.ref b115)] [(.ref b130)])) st131 ?_
                have Z131 : n0 ≤ h131.size := Nat.le_trans Z130 K131.1
                have KA : Keep h129 h131 [] := ((Keep.refl _ []).ext E130).trans K131 (fun x hx => Or.inr (by rw [List.mem_singleton.mp hx]; exact Nat.le_of_eq gq130.symm))
                have S2 := own_sta0 (own_sta0 S K129) KA
                have SF2 := own_sta0 (own_sta0 SF K129) KA
                have Qs : own_Str Z h131 b130 [r116, r118, r120, r122, r124, (46 : Int32), r128] := by
                  have q := Q131
                  rw [own_i2b_small (own_ok128 ok116), own_i2b_small (own_ok128 ok118), own_i2b_small (own_ok128 ok120), own_i2b_small (own_ok128 ok122), own_i2b_small (own_ok128 ok124), show (46 : Int32).toInt8.toInt32 = 46 by decide, own_i2b_small (own_ok128 ok128)] at q
                  exact q
                refine own_ww (T' := T131) (g' := (mkF m 241 #[.val (.int kk), .val (.long xl), .second, .val (.long yl), .second, .val (.int (kk &&& (7 : Int32))), .val (.ref b130), .val (.int (2 : Int32)), .val (.int (32 : Int32)), .val (.ref b115)] [])) (fun _ k_ => XS.astore X131.here hx rfl (hb hby at_239) rfl rfl (l' := #[.val (.int kk), .val (.long xl), .second, .val (.long yl), .second, .val (.int (kk &&& (7 : Int32))), .val (.ref b130), .val (.int (2 : Int32)), .val (.int (32 : Int32)), .val (.ref b115)]) rfl k_) ?_
                obtain ⟨LA132, XA132, NA132⟩ : ∃ L, Stand p l e room_1 (s.setVm s.vm) m #[(.int kk), (.long xl), (.long yl)] below meth c T131 L 3 18 ∧ Fr n0 L := ⟨_, X131, N131⟩
                have PL := own_pl_32 ok116 ok118 ok120 ok122 ok124 ok128 (nh116 (by decide)) (nh124 (by decide)) (nh128 (by decide))
                have hro := own_ro PL.2.2.2 (by decide)
                refine own_ww (T' := T131) (g' := (mkF m 243 #[.val (.int kk), .val (.long xl), .second, .val (.long yl), .second, .val (.int (kk &&& (7 : Int32))), .val (.ref b130), .val (.int (2 : Int32)), .val (.int (32 : Int32)), .val (.ref b115)] [(.ref b130)])) (fun _ k_ => XS.aload XA132.here hx rfl (hb hby at_241) rfl rfl k_) ?_
                obtain ⟨_, _, ⟨T133, L133, k133, n133⟩, -, X133', hs2133, hg133, ⟨Lc133, hQ133, l133, y133, z133, cr133⟩, st133⟩ := callSS XA132 hx (y := (⟨"com/example/adjacency/adjacency/identity/NodeName", "parse", "(Ljava/lang/String;)Lcom/example/adjacency/adjacency/identity/NodeName;"⟩ : MethodName)) hown (mvT hZ (hw _ (List.mem_of_getElem? (i := 38) rfl))) (mvT hZ (hw _ (List.mem_of_getElem? (i := 39) rfl))) (mvT hZ (hw _ (List.mem_of_getElem? (i := 40) rfl))) (mvT hZ (hw _ (List.mem_of_getElem? (i := 41) rfl))) (by decide) (backOfSH (W := 0) (own_rm9 l Z a0 hw [] b130 [r116, r118, r120, r122, r124, (46 : Int32), r128] cs sf h131 n0 Z131 Qs (show 7 < 1000 by decide) hcs S2 hsf SF2 PL.1 PL.2.1 (by rw [PL.2.2.1]; decide)) hZ (hw _ (List.mem_of_getElem? (i := 41) rfl)) (hw _ (List.mem_of_getElem? (i := 40) rfl)) (by decide) (by decide) (own_EW hw) CS131.1) (g := (mkF m 243 #[.val (.int kk), .val (.long xl), .second, .val (.long yl), .second, .val (.int (kk &&& (7 : Int32))), .val (.ref b130), .val (.int (2 : Int32)), .val (.int (32 : Int32)), .val (.ref b115)] [(.ref b130)])) rfl (by rw [hml]; rfl) (argsL := [(.ref b130)]) (rest := []) (lenOf own_pd24 rfl) rfl (by show 2 * 0 + _ ≤ _; exact Nat.le_of_eq rfl) (hb hby at_243) (fun _ _ => ⟨rfl, e131, (by decide : 3 + 3 ≤ _), (by decide : 18 + 21 ≤ _)⟩)
                dsimp only [Pt.U, Pt.locs, Pt.cells, Pt.slots] at X133' hs2133 hg133 l133 y133 z133 st133 hQ133 cr133
                subst l133 y133 z133
                obtain ⟨X133, hS133, hZ133, ho133⟩ := rebS hS0 (by rw [e131]; exact CS131.2.1) X133' hs2133 hg133 hZ hown
                obtain ⟨h133, e133⟩ : ∃ h, T133.heap = h := ⟨_, rfl⟩
                rw [e133] at hQ133 hS133 cr133
                obtain ⟨r133, rfl, N133q, K133, Ex133, F133⟩ := hQ133
                have N133 := Fr.app NA132 N133q
                have CB133 : CHr Z own_EL s.vm h0 T133.vm h133 := (CB0.trans CS131).trans cr133
                have CS133 : CHr Z own_EL T133.vm h133 T133.vm h133 := CHr.refl CB133.1
                have Z133 : n0 ≤ h133.size := Nat.le_trans Z131 cr133.2.1
                refine own_wt (T' := T133) (g' := (mkF m 246 #[.val (.int kk), .val (.long xl), .second, .val (.long yl), .second, .val (.int (kk &&& (7 : Int32))), .val (.ref b130), .val (.int (2 : Int32)), .val (.int (32 : Int32)), .val (.ref b115)] [(.ref r133)])) st133 ?_
                have Se := own_Str_keep Qs K133
                have Sf := own_sta0 S2 K133
                have Sg := own_sta0 SF2 K133
                refine own_ww (T' := T133) (g' := (mkF m 248 #[.val (.int kk), .val (.long xl), .second, .val (.long yl), .second, .val (.int (kk &&& (7 : Int32))), .val (.ref b130), .val (.int (2 : Int32)), .val (.ref r133), .val (.ref b115)] [])) (fun _ k_ => XS.astore X133.here hx rfl (hb hby at_246) rfl rfl (l' := #[.val (.int kk), .val (.long xl), .second, .val (.long yl), .second, .val (.int (kk &&& (7 : Int32))), .val (.ref b130), .val (.int (2 : Int32)), .val (.ref r133), .val (.ref b115)]) rfl k_) ?_
                refine own_ww (T' := T133) (g' := (mkF m 250 #[.val (.int kk), .val (.long xl), .second, .val (.long yl), .second, .val (.int (kk &&& (7 : Int32))), .val (.ref b130), .val (.int (2 : Int32)), .val (.ref r133), .val (.ref b115)] [(.ref r133)])) (fun _ k_ => XS.aload X133.here hx rfl (hb hby at_248) rfl rfl k_) ?_
                obtain ⟨cq134, kq134, q134a, q134b, q134c⟩ := isOf hZ133 e133 Ex133
                obtain ⟨_, _, ⟨T134, L134, k134, n134⟩, -, X134, ⟨Lc134, hQ134, l134, y134, z134⟩, st134⟩ := X133.virtualBack hx (y := (⟨"com/example/adjacency/adjacency/identity/NodeName", "toString", "()Ljava/lang/String;"⟩ : MethodName)) (z := (⟨"com/example/adjacency/adjacency/identity/NodeName", "toString", "()Ljava/lang/String;"⟩ : MethodName)) ho133 (mvT hZ133 (hw _ (List.mem_of_getElem? (i := 117) rfl))) (mvT hZ133 (hw _ (List.mem_of_getElem? (i := 118) rfl))) (notFace_of_selects (args := #[]) (mvT hZ133 (hw _ (List.mem_of_getElem? (i := 120) rfl)))) (mvT hZ133 (hw _ (List.mem_of_getElem? (i := 120) rfl))) (mvT hZ133 (hw _ (List.mem_of_getElem? (i := 119) rfl))) (by decide) (backOf (W := 0) (own_rm27 l Z a0 hw [] r133 b130 h133 n0 Z133 F133) hZ133 (hw _ (List.mem_of_getElem? (i := 121) rfl)) (hw _ (List.mem_of_getElem? (i := 40) rfl)) (by decide) (by decide)) q134a q134c (g := (mkF m 250 #[.val (.int kk), .val (.long xl), .second, .val (.long yl), .second, .val (.int (kk &&& (7 : Int32))), .val (.ref b130), .val (.int (2 : Int32)), .val (.ref r133), .val (.ref b115)] [(.ref r133)])) rfl (by rw [hml]; rfl) (Steps.refl _) (argsL := []) (rest := []) (lenOf own_pd25 rfl) rfl (by show 2 * 0 + _ ≤ _; exact Nat.le_of_eq rfl) (hb hby at_250) (fun _ _ => ⟨rfl, e133, (by decide : 6 + 0 ≤ _), (by decide : 39 + 0 ≤ _)⟩)
                dsimp only [Pt.U, Pt.locs, Pt.cells, Pt.slots] at X134 l134 y134 z134 st134 hQ134
                subst l134 y134 z134
                obtain ⟨rfl, N134q, e134⟩ := hQ134
                have N134 := Fr.app N133 N134q
                refine own_wt (T' := T134) (g' := (mkF m 253 #[.val (.int kk), .val (.long xl), .second, .val (.long yl), .second, .val (.int (kk &&& (7 : Int32))), .val (.ref b130), .val (.int (2 : Int32)), .val (.ref r133), .val (.ref b115)] [(.ref b130)])) st134 ?_
                refine own_ww (T' := T134) (g' := (mkF m 255 #[.val (.int kk), .val (.long xl), .second, .val (.long yl), .second, .val (.int (kk &&& (7 : Int32))), .val (.ref b130), .val (.int (2 : Int32)), .val (.ref r133), .val (.ref b115)] [(.ref b130), (.ref b130)])) (fun _ k_ => XS.aload X134.here hx rfl (hb hby at_253) rfl rfl k_) ?_
                obtain ⟨cq135, kq135, q135a, q135b, q135c⟩ := isOf hZ133 e134 Se.1
                obtain ⟨_, _, ⟨T135, L135, k135, n135⟩, -, X135, ⟨Lc135, hQ135, l135, y135, z135⟩, st135⟩ := X134.virtualBack hx (y := (⟨"java/lang/String", "equals", "(Ljava/lang/Object;)Z"⟩ : MethodName)) (z := (⟨"java/lang/String", "equals", "(Ljava/lang/Object;)Z"⟩ : MethodName)) ho133 (mvT hZ133 (hw _ (List.mem_of_getElem? (i := 122) rfl))) (mvT hZ133 (hw _ (List.mem_of_getElem? (i := 123) rfl))) (notFace_of_selects (args := #[]) (mvT hZ133 (hw _ (List.mem_of_getElem? (i := 125) rfl)))) (mvT hZ133 (hw _ (List.mem_of_getElem? (i := 125) rfl))) (mvT hZ133 (hw _ (List.mem_of_getElem? (i := 124) rfl))) (by decide) (backOf (W := 0) (own_rm28 l Z a0 hw [] b130 b130  h133 n0 Z133 rfl) hZ133 (hw _ (List.mem_of_getElem? (i := 126) rfl)) (hw _ (List.mem_of_getElem? (i := 11) rfl)) (by decide) (by decide)) q135a q135c (g := (mkF m 255 #[.val (.int kk), .val (.long xl), .second, .val (.long yl), .second, .val (.int (kk &&& (7 : Int32))), .val (.ref b130), .val (.int (2 : Int32)), .val (.ref r133), .val (.ref b115)] [(.ref b130), (.ref b130)])) rfl (by rw [hml]; rfl) (Steps.refl _) (argsL := [(.ref b130)]) (rest := []) (lenOf own_pd26 rfl) rfl (by show 2 * 0 + _ ≤ _; exact Nat.le_of_eq rfl) (hb hby at_255) (fun _ _ => ⟨rfl, e134, (by decide : 6 + 0 ≤ _), (by decide : 39 + 0 ≤ _)⟩)
                dsimp only [Pt.U, Pt.locs, Pt.cells, Pt.slots] at X135 l135 y135 z135 st135 hQ135
                subst l135 y135 z135
                obtain ⟨rfl, N135q, e135⟩ := hQ135
                have N135 := Fr.app N134 N135q
                refine own_wt (T' := T135) (g' := (mkF m 258 #[.val (.int kk), .val (.long xl), .second, .val (.long yl), .second, .val (.int (kk &&& (7 : Int32))), .val (.ref b130), .val (.int (2 : Int32)), .val (.ref r133), .val (.ref b115)] [(.int (1 : Int32))])) st135 ?_
                refine own_ww (T' := T135) (g' := (mkF m 261 #[.val (.int kk), .val (.long xl), .second, .val (.long yl), .second, .val (.int (kk &&& (7 : Int32))), .val (.ref b130), .val (.int (2 : Int32)), .val (.ref r133), .val (.ref b115)] [])) (fun _ k_ => XS.ifNo X135.here hx rfl (hb hby at_258) rfl ((if0 _ _).trans (feq (by decide)).1) k_) ?_
                refine own_ww (T' := T135) (g' := (mkF m 263 #[.val (.int kk), .val (.long xl), .second, .val (.long yl), .second, .val (.int (kk &&& (7 : Int32))), .val (.ref b130), .val (.int (2 : Int32)), .val (.ref r133), .val (.ref b115)] [(.ref r133)])) (fun _ k_ => XS.aload X135.here hx rfl (hb hby at_261) rfl rfl k_) ?_
                obtain ⟨cq136, kq136, q136a, q136b, q136c⟩ := isOf hZ133 e135 Ex133
                obtain ⟨_, _, ⟨T136, L136, k136, n136⟩, -, X136, ⟨Lc136, hQ136, l136, y136, z136⟩, st136⟩ := X135.virtualBack hx (y := (⟨"com/example/adjacency/adjacency/identity/NodeName", "labelCount", "()I"⟩ : MethodName)) (z := (⟨"com/example/adjacency/adjacency/identity/NodeName", "labelCount", "()I"⟩ : MethodName)) ho133 (mvT hZ133 (hw _ (List.mem_of_getElem? (i := 127) rfl))) (mvT hZ133 (hw _ (List.mem_of_getElem? (i := 128) rfl))) (notFace_of_selects (args := #[]) (mvT hZ133 (hw _ (List.mem_of_getElem? (i := 130) rfl)))) (mvT hZ133 (hw _ (List.mem_of_getElem? (i := 130) rfl))) (mvT hZ133 (hw _ (List.mem_of_getElem? (i := 129) rfl))) (by decide) (backOf (W := 0) (own_rm29 l Z a0 hw [] r133 b130 [r116, r118, r120, r122, r124, (46 : Int32), r128] cs sf h133 n0 Z133 F133 Se (show 7 < 1000 by decide) hcs Sf hsf Sg PL.1) hZ133 (hw _ (List.mem_of_getElem? (i := 131) rfl)) (hw _ (List.mem_of_getElem? (i := 40) rfl)) (by decide) (by decide)) q136a q136c (g := (mkF m 263 #[.val (.int kk), .val (.long xl), .second, .val (.long yl), .second, .val (.int (kk &&& (7 : Int32))), .val (.ref b130), .val (.int (2 : Int32)), .val (.ref r133), .val (.ref b115)] [(.ref r133)])) rfl (by rw [hml]; rfl) (Steps.refl _) (argsL := []) (rest := []) (lenOf own_pd8 rfl) rfl (by show 2 * 0 + _ ≤ _; exact Nat.le_of_eq rfl) (hb hby at_263) (fun _ _ => ⟨rfl, e135, (by decide : 6 + 0 ≤ _), (by decide : 39 + 0 ≤ _)⟩)
                dsimp only [Pt.U, Pt.locs, Pt.cells, Pt.slots] at X136 l136 y136 z136 st136 hQ136
                subst l136 y136 z136
                obtain ⟨rfl, N136q, e136⟩ := hQ136
                have N136 := Fr.app N135 N136q
                refine own_wt (T' := T136) (g' := (mkF m 266 #[.val (.int kk), .val (.long xl), .second, .val (.long yl), .second, .val (.int (kk &&& (7 : Int32))), .val (.ref b130), .val (.int (2 : Int32)), .val (.ref r133), .val (.ref b115)] [(.int (own_cl [r116, r118, r120, r122, r124, (46 : Int32), r128]))])) st136 ?_
                refine own_ww (T' := T136) (g' := (mkF m 268 #[.val (.int kk), .val (.long xl), .second, .val (.long yl), .second, .val (.int (kk &&& (7 : Int32))), .val (.ref b130), .val (.int (2 : Int32)), .val (.ref r133), .val (.ref b115)] [(.int (2 : Int32)), (.int (own_cl [r116, r118, r120, r122, r124, (46 : Int32), r128]))])) (fun _ k_ => XS.iload X136.here hx rfl (hb hby at_266) rfl k_) ?_
                refine own_ww (T' := T136) (g' := (mkF m 271 #[.val (.int kk), .val (.long xl), .second, .val (.long yl), .second, .val (.int (kk &&& (7 : Int32))), .val (.ref b130), .val (.int (2 : Int32)), .val (.ref r133), .val (.ref b115)] [])) (fun _ k_ => XS.icmpNo X136.here hx rfl (hb hby at_268) rfl (teq PL.2.2.1).2 k_) ?_
                refine own_ww (T' := T136) (g' := (mkF m 273 #[.val (.int kk), .val (.long xl), .second, .val (.long yl), .second, .val (.int (kk &&& (7 : Int32))), .val (.ref b130), .val (.int (2 : Int32)), .val (.ref r133), .val (.ref b115)] [(.ref r133)])) (fun _ k_ => XS.aload X136.here hx rfl (hb hby at_271) rfl rfl k_) ?_
                obtain ⟨cq137, kq137, q137a, q137b, q137c⟩ := isOf hZ133 e136 Ex133
                obtain ⟨_, _, ⟨T137, L137, k137, n137⟩, -, X137, ⟨Lc137, hQ137, l137, y137, z137⟩, st137⟩ := X136.virtualBack hx (y := (⟨"com/example/adjacency/adjacency/identity/NodeName", "isRoot", "()Z"⟩ : MethodName)) (z := (⟨"com/example/adjacency/adjacency/identity/NodeName", "isRoot", "()Z"⟩ : MethodName)) ho133 (mvT hZ133 (hw _ (List.mem_of_getElem? (i := 132) rfl))) (mvT hZ133 (hw _ (List.mem_of_getElem? (i := 133) rfl))) (notFace_of_selects (args := #[]) (mvT hZ133 (hw _ (List.mem_of_getElem? (i := 135) rfl)))) (mvT hZ133 (hw _ (List.mem_of_getElem? (i := 135) rfl))) (mvT hZ133 (hw _ (List.mem_of_getElem? (i := 134) rfl))) (by decide) (backOf (W := 0) (own_rm30 l Z a0 hw [] r133 b130 [r116, r118, r120, r122, r124, (46 : Int32), r128] cs h133 n0 Z133 F133 Se (show 7 < 1000 by decide) hcs Sf) hZ133 (hw _ (List.mem_of_getElem? (i := 136) rfl)) (hw _ (List.mem_of_getElem? (i := 40) rfl)) (by decide) (by decide)) q137a q137c (g := (mkF m 273 #[.val (.int kk), .val (.long xl), .second, .val (.long yl), .second, .val (.int (kk &&& (7 : Int32))), .val (.ref b130), .val (.int (2 : Int32)), .val (.ref r133), .val (.ref b115)] [(.ref r133)])) rfl (by rw [hml]; rfl) (Steps.refl _) (argsL := []) (rest := []) (lenOf own_pd3 rfl) rfl (by show 2 * 0 + _ ≤ _; exact Nat.le_of_eq rfl) (hb hby at_273) (fun _ _ => ⟨rfl, e136, (by decide : 6 + 0 ≤ _), (by decide : 39 + 0 ≤ _)⟩)
                dsimp only [Pt.U, Pt.locs, Pt.cells, Pt.slots] at X137 l137 y137 z137 st137 hQ137
                subst l137 y137 z137
                obtain ⟨rfl, N137q, e137⟩ := hQ137
                have N137 := Fr.app N136 N137q
                refine own_wt (T' := T137) (g' := (mkF m 276 #[.val (.int kk), .val (.long xl), .second, .val (.long yl), .second, .val (.int (kk &&& (7 : Int32))), .val (.ref b130), .val (.int (2 : Int32)), .val (.ref r133), .val (.ref b115)] [(.int (if (own_io [r116, r118, r120, r122, r124, (46 : Int32), r128] 0 < (0 : Int32)) then (1 : Int32) else 0))])) st137 ?_
                refine own_ww (T' := T137) (g' := (mkF m 278 #[.val (.int kk), .val (.long xl), .second, .val (.long yl), .second, .val (.int (kk &&& (7 : Int32))), .val (.ref b130), .val (.int (2 : Int32)), .val (.ref r133), .val (.ref b115)] [(.int (2 : Int32)), (.int (if (own_io [r116, r118, r120, r122, r124, (46 : Int32), r128] 0 < (0 : Int32)) then (1 : Int32) else 0))])) (fun _ k_ => XS.iload X137.here hx rfl (hb hby at_276) rfl k_) ?_
                refine own_ww (T' := T137) (g' := (mkF m 279 #[.val (.int kk), .val (.long xl), .second, .val (.long yl), .second, .val (.int (kk &&& (7 : Int32))), .val (.ref b130), .val (.int (2 : Int32)), .val (.ref r133), .val (.ref b115)] [(.int (1 : Int32)), (.int (2 : Int32)), (.int (if (own_io [r116, r118, r120, r122, r124, (46 : Int32), r128] 0 < (0 : Int32)) then (1 : Int32) else 0))])) (fun _ k_ => XS.iconst X137.here hx rfl (hb hby at_278) k_) ?_
                refine own_ww (T' := T137) (g' := (mkF m 286 #[.val (.int kk), .val (.long xl), .second, .val (.long yl), .second, .val (.int (kk &&& (7 : Int32))), .val (.ref b130), .val (.int (2 : Int32)), .val (.ref r133), .val (.ref b115)] [(.int (if (own_io [r116, r118, r120, r122, r124, (46 : Int32), r128] 0 < (0 : Int32)) then (1 : Int32) else 0))])) (fun _ k_ => XS.icmpYes X137.here hx rfl (pc0 := 279) (pc' := 286) rfl (hb hby at_279) rfl (feq (by decide)).2 (by decide) (by decide) k_) ?_
                refine own_ww (T' := T137) (g' := (mkF m 287 #[.val (.int kk), .val (.long xl), .second, .val (.long yl), .second, .val (.int (kk &&& (7 : Int32))), .val (.ref b130), .val (.int (2 : Int32)), .val (.ref r133), .val (.ref b115)] [(.int (0 : Int32)), (.int (if (own_io [r116, r118, r120, r122, r124, (46 : Int32), r128] 0 < (0 : Int32)) then (1 : Int32) else 0))])) (fun _ k_ => XS.iconst X137.here hx rfl (hb hby at_286) k_) ?_
                refine own_ww (T' := T137) (g' := (mkF m 290 #[.val (.int kk), .val (.long xl), .second, .val (.long yl), .second, .val (.int (kk &&& (7 : Int32))), .val (.ref b130), .val (.int (2 : Int32)), .val (.ref r133), .val (.ref b115)] [])) (fun _ k_ => XS.icmpNo X137.here hx rfl (hb hby at_287) rfl (teq (if_neg hro)).2 k_) ?_
                refine own_ww (T' := T137) (g' := (mkF m 291 #[.val (.int kk), .val (.long xl), .second, .val (.long yl), .second, .val (.int (kk &&& (7 : Int32))), .val (.ref b130), .val (.int (2 : Int32)), .val (.ref r133), .val (.ref b115)] [(.int (1 : Int32))])) (fun _ k_ => XS.iconst X137.here hx rfl (hb hby at_290) k_) ?_
                refine own_ww (T' := T137) (g' := (mkF m 295 #[.val (.int kk), .val (.long xl), .second, .val (.long yl), .second, .val (.int (kk &&& (7 : Int32))), .val (.ref b130), .val (.int (2 : Int32)), .val (.ref r133), .val (.ref b115)] [(.int (1 : Int32))])) (fun _ k_ => XS.goto X137.here hx rfl (pc0 := 291) (pc' := 295) rfl (hb hby at_291) (by decide) (by decide) k_) ?_
                obtain ⟨fs, hr, hrun, hended, hRE⟩ := X137.leaveW (own_since hS133 CS133.2.1) (by rw [e137]; exact Nat.le_refl _) (v := some (.int (1 : Int32))) (fun h => by rw [Bd.returns] at h; cases h)
                exact ⟨_, _, retOut X137 hx Bd.returns rfl (Or.inl ⟨rfl, Or.inr (Or.inl rfl), _, rfl⟩) (hb hby at_295) hr, hrun, hended, _, _, rfl, (by show own_Q0 Z kk xl yl cs sf h0 n0 _ T137.heap _; rw [e137]; exact ⟨rfl, N137⟩), (by show CHr Z own_EL s.vm s.heap T137.vm T137.heap; rw [e137, hh]; exact (CB133.trans CS133).trans (CHv.at X137 hZ133 (own_EW hw) CS133.1)), own_rmono hRE (by decide) (by decide)⟩
theorem own_cs {args : Array Value} {Z : State} {t : Term} {k : Int32} (ev : t.eval args Z none [] Z = some (.int k)) (h : (Jvm.Cond.not (Jvm.Cond.eq t (Term.int 0))).value args Z none Z [] = some true) : ¬ k = (0 : Int32) := by
  have h1 := not_v h
  have e2 : (Term.int 0).eval args Z none [] Z = some (.int 0) := rfl
  simp only [Cond.value, ev, e2] at h1
  simpa using h1
set_option maxRecDepth 65536 in
set_option maxHeartbeats 40000000 in
theorem comes_1 {Post : Tables → Env → Array Value → State → Outcome → State → Prop} (hpost : ∀ tb e args s v u, (limb_1_1.after args s (.returned v) u = true ∧ limb_1_2.after args s (.returned v) u = true ∧ True) → ReturnedEndW s (.returned v) u (Jvm.fieldLocs frame_1_writes args s ++ Jvm.arrayLocs frame_1_arrays args s ++ Jvm.staticLocs frame_1_statics s) 24 3200 → Post tb e args s (.returned v) u) :
    ArmFor flags0 classFile x code maxLocals ret World_1 tables_1 room_1 Calls_1 rest_1 Pre_1 Post := by
  intro l hfl _ _ p e ha hc hk s m args below hf hA hF happ hP
  obtain ⟨hcalls, hrest, hpre⟩ := hP
  obtain ⟨-, -, -, hnamed, -, -, -, hat⟩ := (Spec.applies_iff hf).mp happ
  obtain ⟨hg, hn⟩ := and_e (Cond.before_iff.mp (show (Jvm.Cond.and given_1 narrow_1).before args s = true from hpre))
  obtain ⟨hcount, hr0⟩ := and_e hg
  obtain ⟨ga0, hr1⟩ := and_e hr0
  obtain ⟨ga1, hr2⟩ := and_e hr1
  have ga2 := hr2
  obtain ⟨w0, w1, w2, rfl⟩ : ∃ w0 w1 w2 : Value, args = #[w0, w1, w2] := by
    have hs : args.size = 3 := by simpa [Cond.value, given_1] using hcount
    obtain ⟨L⟩ := args
    match L, hs with
    | [w0, w1, w2], _ => exact ⟨w0, w1, w2, rfl⟩
  have hw := fun d (hd : d ∈ tables_1) => atoms_spec (ws := Jvm.Cond.code x code maxLocals ret :: tables_1) hat d (List.mem_cons_of_mem _ hd)
  obtain ⟨i0, ei0⟩ := is_v ga0
  obtain rfl : w0 = (.int i0) := Option.some.inj ei0
  obtain ⟨i1, ei1⟩ := isL_v ga1
  obtain rfl : w1 = (.long i1) := Option.some.inj ei1
  obtain ⟨i2, ei2⟩ := isL_v ga2
  obtain rfl : w2 = (.long i2) := Option.some.inj ei2
  obtain ⟨hsets, hown0⟩ := atoms_of _ (rest_1_c_eq ▸ (show rest_1_c.before _ s = true from hrest))
  have hcw0 := hsets _ (List.mem_of_getElem? (i := 2) rfl)
  obtain ⟨cs, ecs⟩ := is_v (Cond.before_iff.mp (hsets _ (List.mem_of_getElem? (i := 1) rfl)))
  have S := Sta.start ecs (Or.inl (hsets _ (List.mem_of_getElem? (i := 0) rfl)))
  have hcs : ¬ cs = (0 : Int32) := own_cs ecs (Cond.before_iff.mp hcw0)
  have hCH : CHv s own_EL s.vm s.heap := CHv.start (own_EW hw) (fun p hp => hcalls.1 p hp) hcw0 (hw _ (List.mem_of_getElem? (i := 27) rfl)) (hw _ (List.mem_of_getElem? (i := 10) rfl))
  obtain ⟨sf, esf, hsf⟩ := isR_v (Cond.before_iff.mp (hsets _ (List.mem_of_getElem? (i := 8) rfl)))
  have SF := Sta.start esf (Or.inl (hsets _ (List.mem_of_getElem? (i := 7) rfl)))
  obtain ⟨n, o, h1, h2, h3, _, L, rfl, ⟨rfl, N⟩, -, hq⟩ := own_rm0 l s _ hw tables_1 i0 i1 i2 cs sf s.heap s.heap.size (Nat.le_refl _) hcs S hsf SF p e ha hc hk s m _ below hf ((Spec.applies_iff_loose hf).mp happ).1 ⟨rfl, State.Warmed39.refl s, rfl, hCH⟩ trivial
  refine ⟨n, _, h1, h2, h3, hpost _ _ _ _ _ _ ⟨Cond.after_iff.mpr rfl, Cond.after_iff.mpr (eq_i res_at (Term.int_eval (1)) rfl), trivial⟩ ⟨hq.1, hq.2.1, hq.2.2.1, (hq.2.2.2.sift fun y hy => Or.inr (N y hy)).mono (by decide) (by decide)⟩⟩
theorem main_1_1 : Claimed_1_1 := comes_1 fun _ _ _ _ _ _ h hF => ⟨h.1, hF⟩
theorem main_1_2 : Claimed_1_2 := comes_1 fun _ _ _ _ _ _ h hF => ⟨h.2.1, hF⟩
end Jvm.Pilot.@@N@@
namespace Jvm.Pilot.@@N@@
open Jvm Jvm.ClassFile Sem Op Lib Jvm.Free Jvm.Stand Jvm.Pilot.@@N@@.Jvm.D
/-! MADE BY PROGRAM (witnessworld.py) out of the Statement's table words and the real class files: 22 classes; the members and pool entries that the words name. The judged class is class 1, her method 3. -/
namespace start1
open Jvm.ClassFile
def u (s : String) : CpInfo := .utf8 (stringToUtf16 s)
/-- a pool by its gaps: so many unusable entries, then the entry; so many at the end -/
def gap : Nat → List CpInfo → List CpInfo
  | 0, r => r
  | n + 1, r => .unusable :: gap n r
def poolList (es : List (Nat × CpInfo)) (last : Nat) : List CpInfo := es.foldr (fun e r => gap e.1 (e.2 :: r)) (gap last [])
def pool (es : List (Nat × CpInfo)) (last : Nat) : Array CpInfo := ⟨poolList es last⟩
def fileOf (pool : Array CpInfo) (this : Nat) (attrs : Array Attribute := #[]) (ms : Array MethodInfo := #[]) (fl : Nat := 33) (sup : Nat := 0) (ifs : Array Nat := #[]) (fds : Array FieldInfo := #[]) : ClassFile where
  minorVersion := 0
  majorVersion := 65
  constantPool := pool
  accessFlags := fl
  thisClass := this
  superClass := sup
  interfaces := ifs
  fields := fds
  methods := ms
  attributes := attrs
def plain (name : String) (sup : Option ClassId) : Class where
  name := name
  kind := .ordinary
  loader := none
  accessFlags := 33
  super := sup
  interfaces := #[]
  cf := none
  fields := #[]
  methods := #[]
  instanceTypes := #[]
  staticTypes := #[]
  resolved := #[]
  callSites := []
  init := .initialized
  statics := none
  mirror := none

def pool0 : Array CpInfo := pool [(5, u "<init>"), (0, u "()V"), (1, .class_ 10), (1, u "java/lang/Object")] 113

def k0c0 : Code := { maxStack := 0, maxLocals := 1, code := object_method_1_code, exceptionTable := #[], attributes := #[] }
def k0m0 : Method := { name := "<init>", desc := "()V", sig := { parameters := [], returnType := none }, accessFlags := 1, code := some k0c0 }
/-- java/lang/Object -/
def k0 : Class := { plain "java/lang/Object" none with
  accessFlags := 33
  interfaces := #[]
  cf := some (fileOf pool0 8 #[] #[{ accessFlags := 1, nameIndex := 5, descriptorIndex := 6, attributes := #[] }] 33 0 #[] #[])
  fields := #[]
  methods := #[k0m0]
  instanceTypes := #[]
  staticTypes := #[]
  resolved := Array.replicate 124 none
  statics := none }

def pool1 : Array CpInfo := pool [(2, .class_ 4), (1, u "java/lang/Object"), (0, u "<init>"), (0, u "()V"), (0, .long 1048575), (1, .methodref 10 11), (0, .class_ 12), (0, .nameAndType 13 14), (0, u "com/example/adjacency/adjacency/identity/NodeNameParsePinLaw"), (0, u "ch"), (0, u "(JZ)C"), (0, .methodref 16 17), (0, .class_ 18), (0, .nameAndType 19 20), (0, u "java/lang/String"), (0, u "valueOf"), (0, u "(C)Ljava/lang/String;"), (0, .string 22), (0, u "abcdefghijklmnopqrstuvwxyz0123456789-abcdefghijklmnopqrstuvwxyz"), (0, .string 24), (0, u "abcdefghijklmnopqrstuvwxyz0123456789-abcdefghijklmnopqrstuvwxyz.abcdefghijklmnopqrstuvwxyz0123456789-abcdefghijklmnopqrstuvwxyz.abcdefghijklmnopqrstuvwxyz0123456789-abcdefghijklmnopqrstuvwxyz.abcdefghijklmnopqrstuvwxyz0123456789-abcdefghijklmnopqrstuvwxyz"), (0, .methodref 10 26), (0, .nameAndType 27 28), (0, u "pos"), (0, u "(IIJ)C"), (0, .methodref 16 30), (0, .nameAndType 5 31), (0, u "([C)V"), (0, .methodref 33 34), (0, .class_ 35), (0, .nameAndType 36 37), (0, u "com/example/adjacency/adjacency/identity/NodeName"), (0, u "parse"), (0, u "(Ljava/lang/String;)Lcom/example/adjacency/adjacency/identity/NodeName;"), (0, .methodref 33 39), (0, .nameAndType 40 41), (0, u "toString"), (0, u "()Ljava/lang/String;"), (0, .methodref 16 43), (0, .nameAndType 44 45), (0, u "equals"), (0, u "(Ljava/lang/Object;)Z"), (0, .methodref 33 47), (0, .nameAndType 48 49), (0, u "labelCount"), (0, u "()I"), (0, .methodref 33 51), (0, .nameAndType 52 53), (0, u "isRoot"), (0, u "()Z"), (3, u "law"), (0, u "(IJJ)Z")] 2

def k1m0 : Method := { name := "<init>", desc := "()V", sig := { parameters := [], returnType := none }, accessFlags := 1, code := none }
def k1c1 : Code := { maxStack := 4, maxLocals := 4, code := method_2_code, exceptionTable := #[], attributes := #[] }
def k1m1 : Method := { name := "ch", desc := "(JZ)C", sig := { parameters := [.long, .boolean], returnType := some .char }, accessFlags := 10, code := some k1c1 }
def k1c2 : Code := { maxStack := 3, maxLocals := 5, code := method_3_code, exceptionTable := #[], attributes := #[] }
def k1m2 : Method := { name := "pos", desc := "(IIJ)C", sig := { parameters := [.int, .int, .long], returnType := some .char }, accessFlags := 10, code := some k1c2 }
def k1c3 : Code := { maxStack := 7, maxLocals := 10, code := code, exceptionTable := #[], attributes := #[] }
def k1m3 : Method := { name := "law", desc := "(IJJ)Z", sig := { parameters := [.int, .long, .long], returnType := some .boolean }, accessFlags := 9, code := some k1c3 }
/-- com/example/adjacency/adjacency/identity/NodeNameParsePinLaw -/
def k1 : Class := { plain "com/example/adjacency/adjacency/identity/NodeNameParsePinLaw" (some 0) with
  accessFlags := 49
  interfaces := #[]
  cf := some (fileOf pool1 10 #[] #[{ accessFlags := 1, nameIndex := 5, descriptorIndex := 6, attributes := #[] }, { accessFlags := 10, nameIndex := 13, descriptorIndex := 14, attributes := #[] }, { accessFlags := 10, nameIndex := 27, descriptorIndex := 28, attributes := #[] }, { accessFlags := 9, nameIndex := 57, descriptorIndex := 58, attributes := #[] }] 49 2 #[] #[])
  fields := #[]
  methods := #[k1m0, k1m1, k1m2, k1m3]
  instanceTypes := #[]
  staticTypes := #[]
  resolved := Array.replicate 61 none
  statics := none }

def pool2 : Array CpInfo := pool [(1, .class_ 2), (0, u "java/io/Serializable"), (0, .class_ 4), (0, u "java/lang/Object")] 2

/-- java/io/Serializable -/
def k2 : Class := { plain "java/io/Serializable" (some 0) with
  accessFlags := 1537
  interfaces := #[]
  cf := some (fileOf pool2 1 #[] #[] 1537 3 #[] #[])
  fields := #[]
  methods := #[]
  instanceTypes := #[]
  staticTypes := #[]
  resolved := Array.replicate 7 none
  statics := none }

def pool3 : Array CpInfo := pool [(1, .class_ 2), (0, u "java/lang/Comparable"), (0, .class_ 4), (0, u "java/lang/Object")] 7

/-- java/lang/Comparable -/
def k3 : Class := { plain "java/lang/Comparable" (some 0) with
  accessFlags := 1537
  interfaces := #[]
  cf := some (fileOf pool3 1 #[] #[] 1537 3 #[] #[])
  fields := #[]
  methods := #[]
  instanceTypes := #[]
  staticTypes := #[]
  resolved := Array.replicate 12 none
  statics := none }

def pool4 : Array CpInfo := pool [(2, .class_ 4), (1, u "java/lang/CharSequence"), (42, .class_ 48), (0, u "java/lang/CharSequence$1CodePointIterator"), (10, .class_ 60), (0, u "java/lang/CharSequence$1CharIterator"), (5, .class_ 67), (0, u "java/lang/Object")] 63

/-- java/lang/CharSequence -/
def k4 : Class := { plain "java/lang/CharSequence" (some 0) with
  accessFlags := 1537
  interfaces := #[]
  cf := some (fileOf pool4 2 #[.nestMembers #[47, 59]] #[] 1537 66 #[] #[])
  fields := #[]
  methods := #[]
  instanceTypes := #[]
  staticTypes := #[]
  resolved := Array.replicate 131 none
  statics := none }

def pool5 : Array CpInfo := pool [(1, .class_ 2), (0, u "java/lang/constant/Constable"), (0, .class_ 4), (0, u "java/lang/Object")] 6

/-- java/lang/constant/Constable -/
def k5 : Class := { plain "java/lang/constant/Constable" (some 0) with
  accessFlags := 1537
  interfaces := #[]
  cf := some (fileOf pool5 1 #[] #[] 1537 3 #[] #[])
  fields := #[]
  methods := #[]
  instanceTypes := #[]
  staticTypes := #[]
  resolved := Array.replicate 11 none
  statics := none }

def pool6 : Array CpInfo := pool [(1, .class_ 2), (0, u "java/lang/constant/ConstantDesc"), (0, .class_ 4), (0, u "java/lang/Object")] 32

/-- java/lang/constant/ConstantDesc -/
def k6 : Class := { plain "java/lang/constant/ConstantDesc" (some 0) with
  accessFlags := 1537
  interfaces := #[]
  cf := some (fileOf pool6 1 #[] #[] 1537 3 #[] #[])
  fields := #[]
  methods := #[]
  instanceTypes := #[]
  staticTypes := #[]
  resolved := Array.replicate 37 none
  statics := none }

def pool7 : Array CpInfo := pool [(1, .methodref 2 3), (0, .class_ 4), (0, .nameAndType 5 6), (0, u "java/lang/Object"), (0, u "<init>"), (0, u "()V"), (2, .fieldref 10 11), (0, .class_ 12), (0, .nameAndType 13 14), (0, u "java/lang/String"), (0, u "value"), (0, u "[B"), (0, .fieldref 10 16), (0, .nameAndType 17 18), (0, u "coder"), (0, u "B"), (2, u "hash"), (0, u "I"), (2, u "hashIsZero"), (0, u "Z"), (0, .methodref 10 28), (0, .nameAndType 5 29), (0, u "([CIILjava/lang/Void;)V"), (8, .fieldref 10 39), (0, .nameAndType 40 26), (0, u "COMPACT_STRINGS"), (1, .class_ 44), (1, u "java/lang/StringUTF16"), (0, u "compress"), (1, .methodref 42 48), (0, .nameAndType 49 50), (0, u "coderFromArrayLen"), (0, u "([BI)B"), (2, u "toBytes"), (53, .class_ 109), (1, u "java/lang/StringLatin1"), (32, u "()Z"), (34, .methodref 42 178), (0, .nameAndType 45 179), (0, u "([CII)[B"), (29, .methodref 10 210), (0, .nameAndType 5 211), (0, u "([BB)V"), (122, u "()I"), (0, .methodref 10 336), (0, .nameAndType 17 337), (0, u "()B"), (25, u "([BI)C"), (5, u "(C)Z"), (21, u "(II)V"), (35, u "(I)C"), (64, .methodref 10 493), (0, .nameAndType 494 142), (0, u "isLatin1"), (0, .methodref 107 496), (0, .nameAndType 497 363), (0, u "charAt"), (3, u "checkIndex"), (3, .methodref 10 506), (0, .nameAndType 507 334), (0, u "length"), (35, u "equals"), (29, u "(Ljava/lang/Object;)Z"), (1, .class_ 576), (0, u "java/lang/CharSequence"), (22, u "CASE_INSENSITIVE_ORDER"), (0, u "Ljava/util/Comparator;"), (32, .methodref 10 634), (0, .nameAndType 635 636), (0, u "indexOf"), (0, u "(II)I"), (0, .methodref 107 638), (0, .nameAndType 635 639), (0, u "([BIII)I"), (125, u "(I)I"), (16, u "valueOf"), (0, u "(C)Ljava/lang/String;"), (226, u "([C)V"), (4, .methodref 107 1016), (0, .nameAndType 1017 369), (0, u "canEncode"), (0, .methodref 107 1019), (0, .nameAndType 53 1020), (0, u "(C)[B"), (32, .fieldref 1054 1055), (0, .class_ 1056), (0, .nameAndType 1057 1058), (0, u "jdk/internal/util/Preconditions"), (0, u "SIOOBE_FORMATTER"), (0, u "Ljava/util/function/BiFunction;"), (0, .methodref 1054 1060), (0, .nameAndType 501 1061), (0, u "(IILjava/util/function/BiFunction;)I"), (39, u "serialPersistentFields"), (0, u "[Ljava/io/ObjectStreamField;"), (0, .class_ 1104), (0, u "java/lang/String$CaseInsensitiveComparator"), (1, .class_ 1107), (0, u "java/io/Serializable"), (0, .class_ 1109), (0, u "java/lang/Comparable"), (0, .class_ 1111), (0, u "java/lang/constant/Constable"), (0, .class_ 1113), (0, u "java/lang/constant/ConstantDesc"), (2, u "serialVersionUID"), (0, u "J"), (3, u "REPL"), (0, u "C"), (2, u "LATIN1"), (1, u "UTF16")] 323

def k7m0 : Method := { name := "<init>", desc := "()V", sig := { parameters := [], returnType := none }, accessFlags := 1, code := none }
def k7c1 : Code := { maxStack := 5, maxLocals := 2, code := jdk_42_method_3_code, exceptionTable := #[], attributes := #[] }
def k7m1 : Method := { name := "<init>", desc := "([C)V", sig := { parameters := [(.array .char)], returnType := none }, accessFlags := 1, code := some k7c1 }
def k7c2 : Code := { maxStack := 2, maxLocals := 1, code := jdk_42_method_54_code, exceptionTable := #[], attributes := #[] }
def k7m2 : Method := { name := "length", desc := "()I", sig := { parameters := [], returnType := some .int }, accessFlags := 1, code := some k7c2 }
def k7c3 : Code := { maxStack := 2, maxLocals := 2, code := jdk_42_method_56_code, exceptionTable := #[], attributes := #[] }
def k7m3 : Method := { name := "charAt", desc := "(I)C", sig := { parameters := [.int], returnType := some .char }, accessFlags := 1, code := some k7c3 }
def k7c4 : Code := { maxStack := 2, maxLocals := 3, code := jdk_42_method_66_code, exceptionTable := #[], attributes := #[] }
def k7m4 : Method := { name := "equals", desc := "(Ljava/lang/Object;)Z", sig := { parameters := [(.object "java/lang/Object")], returnType := some .boolean }, accessFlags := 1, code := some k7c4 }
def k7c5 : Code := { maxStack := 3, maxLocals := 2, code := jdk_42_method_79_code, exceptionTable := #[], attributes := #[] }
def k7m5 : Method := { name := "indexOf", desc := "(I)I", sig := { parameters := [.int], returnType := some .int }, accessFlags := 1, code := some k7c5 }
def k7c6 : Code := { maxStack := 4, maxLocals := 3, code := jdk_42_method_80_code, exceptionTable := #[], attributes := #[] }
def k7m6 : Method := { name := "indexOf", desc := "(II)I", sig := { parameters := [.int, .int], returnType := some .int }, accessFlags := 1, code := some k7c6 }
def k7c7 : Code := { maxStack := 4, maxLocals := 1, code := jdk_42_method_139_code, exceptionTable := #[], attributes := #[] }
def k7m7 : Method := { name := "valueOf", desc := "(C)Ljava/lang/String;", sig := { parameters := [.char], returnType := some (.object "java/lang/String") }, accessFlags := 9, code := some k7c7 }
def k7c8 : Code := { maxStack := 4, maxLocals := 6, code := jdk_42_method_149_code, exceptionTable := #[], attributes := #[] }
def k7m8 : Method := { name := "<init>", desc := "([CIILjava/lang/Void;)V", sig := { parameters := [(.array .char), .int, .int, (.object "java/lang/Void")], returnType := none }, accessFlags := 2, code := some k7c8 }
def k7c9 : Code := { maxStack := 2, maxLocals := 3, code := jdk_42_method_151_code, exceptionTable := #[], attributes := #[] }
def k7m9 : Method := { name := "<init>", desc := "([BB)V", sig := { parameters := [(.array .byte), .byte], returnType := none }, accessFlags := 0, code := some k7c9 }
def k7c10 : Code := { maxStack := 1, maxLocals := 1, code := jdk_42_method_152_code, exceptionTable := #[], attributes := #[] }
def k7m10 : Method := { name := "coder", desc := "()B", sig := { parameters := [], returnType := some .byte }, accessFlags := 0, code := some k7c10 }
def k7c11 : Code := { maxStack := 1, maxLocals := 1, code := jdk_42_method_154_code, exceptionTable := #[], attributes := #[] }
def k7m11 : Method := { name := "isLatin1", desc := "()Z", sig := { parameters := [], returnType := some .boolean }, accessFlags := 0, code := some k7c11 }
def k7c12 : Code := { maxStack := 3, maxLocals := 2, code := jdk_42_method_155_code, exceptionTable := #[], attributes := #[] }
def k7m12 : Method := { name := "checkIndex", desc := "(II)V", sig := { parameters := [.int, .int], returnType := none }, accessFlags := 8, code := some k7c12 }
/-- java/lang/String -/
def k7 : Class := { plain "java/lang/String" (some 0) with
  accessFlags := 49
  interfaces := #[2, 3, 4, 5, 6]
  cf := some (fileOf pool7 10 #[.nestMembers #[1103]] #[{ accessFlags := 1, nameIndex := 5, descriptorIndex := 6, attributes := #[] }, { accessFlags := 1, nameIndex := 5, descriptorIndex := 1010, attributes := #[] }, { accessFlags := 1, nameIndex := 507, descriptorIndex := 334, attributes := #[] }, { accessFlags := 1, nameIndex := 497, descriptorIndex := 427, attributes := #[] }, { accessFlags := 1, nameIndex := 543, descriptorIndex := 573, attributes := #[] }, { accessFlags := 1, nameIndex := 635, descriptorIndex := 765, attributes := #[] }, { accessFlags := 1, nameIndex := 635, descriptorIndex := 636, attributes := #[] }, { accessFlags := 9, nameIndex := 782, descriptorIndex := 783, attributes := #[] }, { accessFlags := 2, nameIndex := 5, descriptorIndex := 29, attributes := #[] }, { accessFlags := 0, nameIndex := 5, descriptorIndex := 211, attributes := #[] }, { accessFlags := 0, nameIndex := 17, descriptorIndex := 337, attributes := #[] }, { accessFlags := 0, nameIndex := 494, descriptorIndex := 142, attributes := #[] }, { accessFlags := 8, nameIndex := 501, descriptorIndex := 391, attributes := #[] }] 49 2 #[1106, 1108, 575, 1110, 1112] #[{ accessFlags := 18, nameIndex := 13, descriptorIndex := 14, attributes := #[] }, { accessFlags := 18, nameIndex := 17, descriptorIndex := 18, attributes := #[] }, { accessFlags := 2, nameIndex := 21, descriptorIndex := 22, attributes := #[] }, { accessFlags := 2, nameIndex := 25, descriptorIndex := 26, attributes := #[] }, { accessFlags := 26, nameIndex := 1116, descriptorIndex := 1117, attributes := #[] }, { accessFlags := 24, nameIndex := 40, descriptorIndex := 26, attributes := #[] }, { accessFlags := 26, nameIndex := 1101, descriptorIndex := 1102, attributes := #[] }, { accessFlags := 26, nameIndex := 1121, descriptorIndex := 1122, attributes := #[] }, { accessFlags := 25, nameIndex := 599, descriptorIndex := 600, attributes := #[] }, { accessFlags := 24, nameIndex := 1125, descriptorIndex := 18, attributes := #[] }, { accessFlags := 24, nameIndex := 1127, descriptorIndex := 18, attributes := #[] }])
  fields := #[{ name := "value", type := (.array .byte), accessFlags := 18, slot := 0, constantValue := 0 }, { name := "coder", type := .byte, accessFlags := 18, slot := 1, constantValue := 0 }, { name := "hash", type := .int, accessFlags := 2, slot := 2, constantValue := 0 }, { name := "hashIsZero", type := .boolean, accessFlags := 2, slot := 3, constantValue := 0 }, { name := "serialVersionUID", type := .long, accessFlags := 26, slot := 0, constantValue := 0 }, { name := "COMPACT_STRINGS", type := .boolean, accessFlags := 24, slot := 1, constantValue := 0 }, { name := "serialPersistentFields", type := (.array (.object "java/io/ObjectStreamField")), accessFlags := 26, slot := 2, constantValue := 0 }, { name := "REPL", type := .char, accessFlags := 26, slot := 3, constantValue := 0 }, { name := "CASE_INSENSITIVE_ORDER", type := (.object "java/util/Comparator"), accessFlags := 25, slot := 4, constantValue := 0 }, { name := "LATIN1", type := .byte, accessFlags := 24, slot := 5, constantValue := 0 }, { name := "UTF16", type := .byte, accessFlags := 24, slot := 6, constantValue := 0 }]
  methods := #[k7m0, k7m1, k7m2, k7m3, k7m4, k7m5, k7m6, k7m7, k7m8, k7m9, k7m10, k7m11, k7m12]
  instanceTypes := #[(.array .byte), .byte, .int, .boolean]
  staticTypes := #[.long, .boolean, (.array (.object "java/io/ObjectStreamField")), .char, (.object "java/util/Comparator"), .byte, .byte]
  resolved := Array.replicate 1451 none
  statics := some 0 }

def pool8 : Array CpInfo := pool [(6, .class_ 8), (1, u "java/lang/Object"), (0, u "<init>"), (0, u "()V"), (1, .class_ 14), (1, u "java/lang/StringUTF16"), (31, u "$assertionsDisabled"), (0, u "Z"), (13, u "HI_BYTE_SHIFT"), (0, u "I"), (2, u "LO_BYTE_SHIFT"), (49, .methodref 12 116), (0, .nameAndType 117 118), (0, u "compress"), (0, u "([CI[BII)I"), (3, u "([CII)[B"), (138, u "coderFromArrayLen"), (0, u "([BI)B"), (106, .class_ 371), (1, u "java/lang/StringUTF16$LinesSpliterator"), (58, u "MAX_LENGTH"), (196, .class_ 628), (0, u "java/lang/StringUTF16$CodePointsSpliterator"), (0, .class_ 630), (0, u "java/lang/StringUTF16$CharsSpliterator")] 4

def k8m0 : Method := { name := "<init>", desc := "()V", sig := { parameters := [], returnType := none }, accessFlags := 0, code := none }
def k8c1 : Code := { maxStack := 2, maxLocals := 2, code := jdk_52_method_15_code, exceptionTable := #[], attributes := #[] }
def k8m1 : Method := { name := "coderFromArrayLen", desc := "([BI)B", sig := { parameters := [(.array .byte), .int], returnType := some .byte }, accessFlags := 8, code := some k8c1 }
def k8c2 : Code := { maxStack := 5, maxLocals := 6, code := jdk_52_method_16_code, exceptionTable := #[], attributes := #[] }
def k8m2 : Method := { name := "compress", desc := "([CII)[B", sig := { parameters := [(.array .char), .int, .int], returnType := some (.array .byte) }, accessFlags := 9, code := some k8c2 }
def k8c3 : Code := { maxStack := 3, maxLocals := 7, code := jdk_52_method_21_code, exceptionTable := #[], attributes := #[] }
def k8m3 : Method := { name := "compress", desc := "([CI[BII)I", sig := { parameters := [(.array .char), .int, (.array .byte), .int, .int], returnType := some .int }, accessFlags := 9, code := some k8c3 }
/-- java/lang/StringUTF16 -/
def k8 : Class := { plain "java/lang/StringUTF16" (some 0) with
  accessFlags := 48
  interfaces := #[]
  cf := some (fileOf pool8 12 #[.nestMembers #[627, 629, 369]] #[{ accessFlags := 0, nameIndex := 9, descriptorIndex := 10, attributes := #[] }, { accessFlags := 8, nameIndex := 261, descriptorIndex := 262, attributes := #[] }, { accessFlags := 9, nameIndex := 117, descriptorIndex := 122, attributes := #[] }, { accessFlags := 9, nameIndex := 117, descriptorIndex := 118, attributes := #[] }] 48 6 #[] #[{ accessFlags := 26, nameIndex := 61, descriptorIndex := 62, attributes := #[] }, { accessFlags := 26, nameIndex := 65, descriptorIndex := 62, attributes := #[] }, { accessFlags := 24, nameIndex := 430, descriptorIndex := 62, attributes := #[] }, { accessFlags := 4120, nameIndex := 46, descriptorIndex := 47, attributes := #[] }])
  fields := #[{ name := "HI_BYTE_SHIFT", type := .int, accessFlags := 26, slot := 0, constantValue := 0 }, { name := "LO_BYTE_SHIFT", type := .int, accessFlags := 26, slot := 1, constantValue := 0 }, { name := "MAX_LENGTH", type := .int, accessFlags := 24, slot := 2, constantValue := 0 }, { name := "$assertionsDisabled", type := .boolean, accessFlags := 4120, slot := 3, constantValue := 0 }]
  methods := #[k8m0, k8m1, k8m2, k8m3]
  instanceTypes := #[]
  staticTypes := #[.int, .int, .int, .boolean]
  resolved := Array.replicate 635 none
  statics := none }

def pool9 : Array CpInfo := pool [(1, .class_ 2), (0, u "com/example/adjacency/adjacency/identity/NodeName"), (0, .methodref 4 5), (0, .class_ 6), (0, .nameAndType 7 8), (0, u "java/lang/Object"), (0, u "<init>"), (0, u "()V"), (0, .fieldref 1 10), (0, .nameAndType 11 12), (0, u "text"), (0, u "Ljava/lang/String;"), (0, .string 11), (0, .methodref 15 16), (0, .class_ 17), (0, .nameAndType 18 19), (0, u "java/util/Objects"), (0, u "requireNonNull"), (0, u "(Ljava/lang/Object;Ljava/lang/String;)Ljava/lang/Object;"), (0, .methodref 1 21), (0, .nameAndType 22 23), (0, u "countLabels"), (0, u "(Ljava/lang/String;)I"), (8, .methodref 33 34), (0, .class_ 35), (0, .nameAndType 36 37), (0, u "java/lang/String"), (0, u "length"), (0, u "()I"), (0, .methodref 33 39), (0, .nameAndType 40 41), (0, u "indexOf"), (0, u "(II)I"), (0, .methodref 1 43), (0, .nameAndType 44 45), (0, u "isLabel"), (0, u "(Ljava/lang/String;II)Z"), (7, .methodref 1 54), (0, .nameAndType 7 55), (0, u "(Ljava/lang/String;)V"), (0, .methodref 33 57), (0, .nameAndType 40 58), (0, u "(I)I"), (14, .methodref 33 74), (0, .nameAndType 75 76), (0, u "charAt"), (0, u "(I)C"), (2, u "labelCount"), (33, u "MAX_LABELS"), (0, u "I"), (2, u "MAX_LABEL_LENGTH"), (1, u "MAX_LENGTH"), (3, u "parse"), (0, u "(Ljava/lang/String;)Lcom/example/adjacency/adjacency/identity/NodeName;"), (1, u "isRoot"), (0, u "()Z"), (8, u "toString"), (0, u "()Ljava/lang/String;")] 25

def k9c0 : Code := { maxStack := 2, maxLocals := 2, code := prog_13_method_1_code, exceptionTable := #[], attributes := #[] }
def k9m0 : Method := { name := "<init>", desc := "(Ljava/lang/String;)V", sig := { parameters := [(.object "java/lang/String")], returnType := none }, accessFlags := 2, code := some k9c0 }
def k9c1 : Code := { maxStack := 4, maxLocals := 5, code := prog_13_method_2_code, exceptionTable := #[], attributes := #[] }
def k9m1 : Method := { name := "parse", desc := "(Ljava/lang/String;)Lcom/example/adjacency/adjacency/identity/NodeName;", sig := { parameters := [(.object "java/lang/String")], returnType := some (.object "com/example/adjacency/adjacency/identity/NodeName") }, accessFlags := 9, code := some k9c1 }
def k9c2 : Code := { maxStack := 2, maxLocals := 1, code := prog_13_method_3_code, exceptionTable := #[], attributes := #[] }
def k9m2 : Method := { name := "isRoot", desc := "()Z", sig := { parameters := [], returnType := some .boolean }, accessFlags := 1, code := some k9c2 }
def k9c3 : Code := { maxStack := 1, maxLocals := 1, code := prog_13_method_7_code, exceptionTable := #[], attributes := #[] }
def k9m3 : Method := { name := "labelCount", desc := "()I", sig := { parameters := [], returnType := some .int }, accessFlags := 1, code := some k9c3 }
def k9c4 : Code := { maxStack := 1, maxLocals := 1, code := prog_13_method_11_code, exceptionTable := #[], attributes := #[] }
def k9m4 : Method := { name := "toString", desc := "()Ljava/lang/String;", sig := { parameters := [], returnType := some (.object "java/lang/String") }, accessFlags := 1, code := some k9c4 }
def k9c5 : Code := { maxStack := 2, maxLocals := 3, code := prog_13_method_14_code, exceptionTable := #[], attributes := #[] }
def k9m5 : Method := { name := "countLabels", desc := "(Ljava/lang/String;)I", sig := { parameters := [(.object "java/lang/String")], returnType := some .int }, accessFlags := 10, code := some k9c5 }
def k9c6 : Code := { maxStack := 3, maxLocals := 6, code := prog_13_method_15_code, exceptionTable := #[], attributes := #[] }
def k9m6 : Method := { name := "isLabel", desc := "(Ljava/lang/String;II)Z", sig := { parameters := [(.object "java/lang/String"), .int, .int], returnType := some .boolean }, accessFlags := 10, code := some k9c6 }
/-- com/example/adjacency/adjacency/identity/NodeName -/
def k9 : Class := { plain "com/example/adjacency/adjacency/identity/NodeName" (some 0) with
  accessFlags := 49
  interfaces := #[]
  cf := some (fileOf pool9 1 #[] #[{ accessFlags := 2, nameIndex := 7, descriptorIndex := 55, attributes := #[] }, { accessFlags := 9, nameIndex := 123, descriptorIndex := 124, attributes := #[] }, { accessFlags := 1, nameIndex := 126, descriptorIndex := 127, attributes := #[] }, { accessFlags := 1, nameIndex := 79, descriptorIndex := 37, attributes := #[] }, { accessFlags := 1, nameIndex := 136, descriptorIndex := 137, attributes := #[] }, { accessFlags := 10, nameIndex := 22, descriptorIndex := 23, attributes := #[] }, { accessFlags := 10, nameIndex := 44, descriptorIndex := 45, attributes := #[] }] 49 4 #[] #[{ accessFlags := 25, nameIndex := 113, descriptorIndex := 114, attributes := #[] }, { accessFlags := 26, nameIndex := 117, descriptorIndex := 114, attributes := #[] }, { accessFlags := 25, nameIndex := 119, descriptorIndex := 114, attributes := #[] }, { accessFlags := 18, nameIndex := 11, descriptorIndex := 12, attributes := #[] }])
  fields := #[{ name := "MAX_LABELS", type := .int, accessFlags := 25, slot := 0, constantValue := 0 }, { name := "MAX_LABEL_LENGTH", type := .int, accessFlags := 26, slot := 1, constantValue := 0 }, { name := "MAX_LENGTH", type := .int, accessFlags := 25, slot := 2, constantValue := 0 }, { name := "text", type := (.object "java/lang/String"), accessFlags := 18, slot := 0, constantValue := 0 }]
  methods := #[k9m0, k9m1, k9m2, k9m3, k9m4, k9m5, k9m6]
  instanceTypes := #[(.object "java/lang/String")]
  staticTypes := #[.int, .int, .int]
  resolved := Array.replicate 163 none
  statics := none }

def pool10 : Array CpInfo := pool [(2, .class_ 4), (1, u "java/lang/Object"), (0, u "<init>"), (0, u "()V"), (35, .class_ 44), (1, u "java/util/Objects"), (0, u "requireNonNull"), (48, u "(Ljava/lang/Object;Ljava/lang/String;)Ljava/lang/Object;")] 89

def k10m0 : Method := { name := "<init>", desc := "()V", sig := { parameters := [], returnType := none }, accessFlags := 2, code := none }
def k10c1 : Code := { maxStack := 3, maxLocals := 2, code := jdk_31_method_11_code, exceptionTable := #[], attributes := #[] }
def k10m1 : Method := { name := "requireNonNull", desc := "(Ljava/lang/Object;Ljava/lang/String;)Ljava/lang/Object;", sig := { parameters := [(.object "java/lang/Object"), (.object "java/lang/String")], returnType := some (.object "java/lang/Object") }, accessFlags := 9, code := some k10c1 }
/-- java/util/Objects -/
def k10 : Class := { plain "java/util/Objects" (some 0) with
  accessFlags := 49
  interfaces := #[]
  cf := some (fileOf pool10 42 #[] #[{ accessFlags := 2, nameIndex := 5, descriptorIndex := 6, attributes := #[] }, { accessFlags := 9, nameIndex := 45, descriptorIndex := 94, attributes := #[] }] 49 2 #[] #[])
  fields := #[]
  methods := #[k10m0, k10m1]
  instanceTypes := #[]
  staticTypes := #[]
  resolved := Array.replicate 184 none
  statics := none }

def pool11 : Array CpInfo := pool [(1, .class_ 2), (0, u "java/lang/String"), (1, .class_ 6), (1, u "java/lang/Object"), (0, u "<init>"), (0, u "()V"), (0, .methodref 1 10), (0, .nameAndType 11 12), (0, u "checkIndex"), (0, u "(II)V"), (1, .class_ 16), (1, u "java/lang/StringLatin1"), (21, .methodref 39 40), (0, .class_ 41), (0, .nameAndType 42 43), (0, u "java/lang/Math"), (0, u "min"), (0, u "(II)I"), (9, u "([BI)C"), (34, .methodref 14 89), (0, .nameAndType 90 91), (0, u "canEncode"), (0, u "(I)Z"), (0, .methodref 39 93), (0, .nameAndType 94 43), (0, u "max"), (0, .methodref 14 96), (0, .nameAndType 97 98), (0, u "indexOfChar"), (0, u "([BIII)I"), (2, u "indexOf"), (3, u "(C)Z"), (15, u "$assertionsDisabled"), (0, u "Z"), (98, .class_ 223), (1, u "java/lang/StringLatin1$LinesSpliterator"), (28, u "charAt"), (127, u "toBytes"), (1, u "(C)[B"), (7, .class_ 391), (0, u "java/lang/StringLatin1$CharsSpliterator")] 3

def k11m0 : Method := { name := "<init>", desc := "()V", sig := { parameters := [], returnType := none }, accessFlags := 0, code := none }
def k11c1 : Code := { maxStack := 2, maxLocals := 2, code := jdk_43_method_2_code, exceptionTable := #[], attributes := #[] }
def k11m1 : Method := { name := "charAt", desc := "([BI)C", sig := { parameters := [(.array .byte), .int], returnType := some .char }, accessFlags := 9, code := some k11c1 }
def k11c2 : Code := { maxStack := 2, maxLocals := 1, code := jdk_43_method_3_code, exceptionTable := #[], attributes := #[] }
def k11m2 : Method := { name := "canEncode", desc := "(C)Z", sig := { parameters := [.char], returnType := some .boolean }, accessFlags := 9, code := some k11c2 }
def k11c3 : Code := { maxStack := 2, maxLocals := 1, code := jdk_43_method_4_code, exceptionTable := #[], attributes := #[] }
def k11m3 : Method := { name := "canEncode", desc := "(I)Z", sig := { parameters := [.int], returnType := some .boolean }, accessFlags := 9, code := some k11c3 }
def k11c4 : Code := { maxStack := 4, maxLocals := 4, code := jdk_43_method_22_code, exceptionTable := #[], attributes := #[] }
def k11m4 : Method := { name := "indexOf", desc := "([BIII)I", sig := { parameters := [(.array .byte), .int, .int, .int], returnType := some .int }, accessFlags := 9, code := some k11c4 }
def k11c5 : Code := { maxStack := 2, maxLocals := 6, code := jdk_43_method_23_code, exceptionTable := #[], attributes := #[] }
def k11m5 : Method := { name := "indexOfChar", desc := "([BIII)I", sig := { parameters := [(.array .byte), .int, .int, .int], returnType := some .int }, accessFlags := 10, code := some k11c5 }
def k11c6 : Code := { maxStack := 4, maxLocals := 1, code := jdk_43_method_46_code, exceptionTable := #[], attributes := #[] }
def k11m6 : Method := { name := "toBytes", desc := "(C)[B", sig := { parameters := [.char], returnType := some (.array .byte) }, accessFlags := 9, code := some k11c6 }
/-- java/lang/StringLatin1 -/
def k11 : Class := { plain "java/lang/StringLatin1" (some 0) with
  accessFlags := 48
  interfaces := #[]
  cf := some (fileOf pool11 14 #[.nestMembers #[390, 221]] #[{ accessFlags := 0, nameIndex := 7, descriptorIndex := 8, attributes := #[] }, { accessFlags := 9, nameIndex := 252, descriptorIndex := 53, attributes := #[] }, { accessFlags := 9, nameIndex := 90, descriptorIndex := 105, attributes := #[] }, { accessFlags := 9, nameIndex := 90, descriptorIndex := 91, attributes := #[] }, { accessFlags := 9, nameIndex := 101, descriptorIndex := 98, attributes := #[] }, { accessFlags := 10, nameIndex := 97, descriptorIndex := 98, attributes := #[] }, { accessFlags := 9, nameIndex := 380, descriptorIndex := 382, attributes := #[] }] 48 4 #[] #[{ accessFlags := 4120, nameIndex := 121, descriptorIndex := 122, attributes := #[] }])
  fields := #[{ name := "$assertionsDisabled", type := .boolean, accessFlags := 4120, slot := 0, constantValue := 0 }]
  methods := #[k11m0, k11m1, k11m2, k11m3, k11m4, k11m5, k11m6]
  instanceTypes := #[]
  staticTypes := #[.boolean]
  resolved := Array.replicate 395 none
  statics := none }

def pool12 : Array CpInfo := pool [(2, .class_ 4), (1, u "java/lang/Object"), (0, u "<init>"), (0, u "()V"), (17, .class_ 26), (1, u "jdk/internal/util/Preconditions"), (6, u "checkIndex"), (21, .class_ 56), (0, u "jdk/internal/util/Preconditions$4"), (57, .class_ 115), (0, u "jdk/internal/util/Preconditions$1"), (7, u "SIOOBE_FORMATTER"), (0, u "Ljava/util/function/BiFunction;"), (0, .class_ 126), (0, u "jdk/internal/util/Preconditions$2"), (3, u "AIOOBE_FORMATTER"), (0, .class_ 132), (0, u "jdk/internal/util/Preconditions$3"), (3, u "IOOBE_FORMATTER"), (41, u "(IILjava/util/function/BiFunction;)I")] 15

def k12m0 : Method := { name := "<init>", desc := "()V", sig := { parameters := [], returnType := none }, accessFlags := 1, code := none }
def k12c1 : Code := { maxStack := 3, maxLocals := 3, code := jdk_41_method_11_code, exceptionTable := #[], attributes := #[] }
def k12m1 : Method := { name := "checkIndex", desc := "(IILjava/util/function/BiFunction;)I", sig := { parameters := [.int, .int, (.object "java/util/function/BiFunction")], returnType := some .int }, accessFlags := 9, code := some k12c1 }
/-- jdk/internal/util/Preconditions -/
def k12 : Class := { plain "jdk/internal/util/Preconditions" (some 0) with
  accessFlags := 33
  interfaces := #[]
  cf := some (fileOf pool12 24 #[.nestMembers #[55, 131, 125, 114]] #[{ accessFlags := 1, nameIndex := 5, descriptorIndex := 6, attributes := #[] }, { accessFlags := 9, nameIndex := 33, descriptorIndex := 178, attributes := #[] }] 33 2 #[] #[{ accessFlags := 25, nameIndex := 123, descriptorIndex := 124, attributes := #[] }, { accessFlags := 25, nameIndex := 130, descriptorIndex := 124, attributes := #[] }, { accessFlags := 25, nameIndex := 136, descriptorIndex := 124, attributes := #[] }])
  fields := #[{ name := "SIOOBE_FORMATTER", type := (.object "java/util/function/BiFunction"), accessFlags := 25, slot := 0, constantValue := 0 }, { name := "AIOOBE_FORMATTER", type := (.object "java/util/function/BiFunction"), accessFlags := 25, slot := 1, constantValue := 0 }, { name := "IOOBE_FORMATTER", type := (.object "java/util/function/BiFunction"), accessFlags := 25, slot := 2, constantValue := 0 }]
  methods := #[k12m0, k12m1]
  instanceTypes := #[]
  staticTypes := #[(.object "java/util/function/BiFunction"), (.object "java/util/function/BiFunction"), (.object "java/util/function/BiFunction")]
  resolved := Array.replicate 194 none
  statics := some 1 }

def pool13 : Array CpInfo := pool [(1, .class_ 2), (0, u "java/lang/Math"), (1, .class_ 6), (1, u "java/lang/Object"), (0, u "<init>"), (0, u "()V"), (89, .class_ 100), (1, u "java/lang/Math$RandomNumberGeneratorHolder"), (71, u "negativeZeroFloatBits"), (0, u "J"), (2, u "negativeZeroDoubleBits"), (21, u "max"), (2, u "min"), (43, u "$assertionsDisabled"), (0, u "Z"), (88, u "(II)I"), (2, u "twoToTheDoubleScaleDown"), (0, u "D"), (4, u "twoToTheDoubleScaleUp"), (9, u "E"), (3, u "PI"), (2, u "TAU"), (2, u "DEGREES_TO_RADIANS"), (0, u "RADIANS_TO_DEGREES")] 94

def k13m0 : Method := { name := "<init>", desc := "()V", sig := { parameters := [], returnType := none }, accessFlags := 2, code := none }
def k13c1 : Code := { maxStack := 2, maxLocals := 2, code := jdk_29_method_65_code, exceptionTable := #[], attributes := #[] }
def k13m1 : Method := { name := "max", desc := "(II)I", sig := { parameters := [.int, .int], returnType := some .int }, accessFlags := 9, code := some k13c1 }
def k13c2 : Code := { maxStack := 2, maxLocals := 2, code := jdk_29_method_69_code, exceptionTable := #[], attributes := #[] }
def k13m2 : Method := { name := "min", desc := "(II)I", sig := { parameters := [.int, .int], returnType := some .int }, accessFlags := 9, code := some k13c2 }
/-- java/lang/Math -/
def k13 : Class := { plain "java/lang/Math" (some 0) with
  accessFlags := 49
  interfaces := #[]
  cf := some (fileOf pool13 1 #[.nestMembers #[98]] #[{ accessFlags := 2, nameIndex := 7, descriptorIndex := 8, attributes := #[] }, { accessFlags := 9, nameIndex := 198, descriptorIndex := 335, attributes := #[] }, { accessFlags := 9, nameIndex := 201, descriptorIndex := 335, attributes := #[] }] 49 4 #[] #[{ accessFlags := 25, nameIndex := 354, descriptorIndex := 339, attributes := #[] }, { accessFlags := 25, nameIndex := 358, descriptorIndex := 339, attributes := #[] }, { accessFlags := 25, nameIndex := 361, descriptorIndex := 339, attributes := #[] }, { accessFlags := 26, nameIndex := 364, descriptorIndex := 339, attributes := #[] }, { accessFlags := 26, nameIndex := 365, descriptorIndex := 339, attributes := #[] }, { accessFlags := 26, nameIndex := 172, descriptorIndex := 173, attributes := #[] }, { accessFlags := 26, nameIndex := 176, descriptorIndex := 173, attributes := #[] }, { accessFlags := 8, nameIndex := 344, descriptorIndex := 339, attributes := #[] }, { accessFlags := 8, nameIndex := 338, descriptorIndex := 339, attributes := #[] }, { accessFlags := 4120, nameIndex := 245, descriptorIndex := 246, attributes := #[] }])
  fields := #[{ name := "E", type := .double, accessFlags := 25, slot := 0, constantValue := 0 }, { name := "PI", type := .double, accessFlags := 25, slot := 1, constantValue := 0 }, { name := "TAU", type := .double, accessFlags := 25, slot := 2, constantValue := 0 }, { name := "DEGREES_TO_RADIANS", type := .double, accessFlags := 26, slot := 3, constantValue := 0 }, { name := "RADIANS_TO_DEGREES", type := .double, accessFlags := 26, slot := 4, constantValue := 0 }, { name := "negativeZeroFloatBits", type := .long, accessFlags := 26, slot := 5, constantValue := 0 }, { name := "negativeZeroDoubleBits", type := .long, accessFlags := 26, slot := 6, constantValue := 0 }, { name := "twoToTheDoubleScaleUp", type := .double, accessFlags := 8, slot := 7, constantValue := 0 }, { name := "twoToTheDoubleScaleDown", type := .double, accessFlags := 8, slot := 8, constantValue := 0 }, { name := "$assertionsDisabled", type := .boolean, accessFlags := 4120, slot := 9, constantValue := 0 }]
  methods := #[k13m0, k13m1, k13m2]
  instanceTypes := #[]
  staticTypes := #[.double, .double, .double, .double, .double, .long, .long, .double, .double, .boolean]
  resolved := Array.replicate 460 none
  statics := none }

def pool14 : Array CpInfo := pool [(9, u "<init>"), (6, .class_ 18), (1, u "java/lang/Object"), (0, u "()V"), (1, .class_ 23), (1, u "jdk/internal/util/ArraysSupport"), (0, u "LOG2_ARRAY_LONG_INDEX_SCALE"), (0, u "I"), (2, u "U"), (0, u "Ljdk/internal/misc/Unsafe;"), (8, u "BIG_ENDIAN"), (0, u "Z"), (8, u "LOG2_BYTE_BIT_SIZE"), (4, u "LOG2_ARRAY_INT_INDEX_SCALE"), (54, u "JLA"), (0, u "Ljdk/internal/access/JavaLangAccess;"), (11, u "LOG2_ARRAY_BOOLEAN_INDEX_SCALE"), (9, u "LOG2_ARRAY_BYTE_INDEX_SCALE"), (5, u "LOG2_ARRAY_CHAR_INDEX_SCALE"), (5, u "LOG2_ARRAY_SHORT_INDEX_SCALE"), (18, u "LOG2_ARRAY_FLOAT_INDEX_SCALE"), (24, u "LOG2_ARRAY_DOUBLE_INDEX_SCALE"), (89, u "T_BOOLEAN"), (2, u "T_CHAR"), (1, u "T_FLOAT"), (1, u "T_DOUBLE"), (1, u "T_BYTE"), (1, u "T_SHORT"), (1, u "T_INT"), (1, u "T_LONG"), (1, u "SOFT_MAX_ARRAY_LENGTH")] 83

def k14m0 : Method := { name := "<init>", desc := "()V", sig := { parameters := [], returnType := none }, accessFlags := 2, code := none }
/-- jdk/internal/util/ArraysSupport -/
def k14 : Class := { plain "jdk/internal/util/ArraysSupport" (some 0) with
  accessFlags := 33
  interfaces := #[]
  cf := some (fileOf pool14 21 #[] #[{ accessFlags := 2, nameIndex := 9, descriptorIndex := 19, attributes := #[] }] 33 16 #[] #[{ accessFlags := 24, nameIndex := 28, descriptorIndex := 29, attributes := #[] }, { accessFlags := 26, nameIndex := 38, descriptorIndex := 39, attributes := #[] }, { accessFlags := 25, nameIndex := 121, descriptorIndex := 25, attributes := #[] }, { accessFlags := 25, nameIndex := 131, descriptorIndex := 25, attributes := #[] }, { accessFlags := 25, nameIndex := 137, descriptorIndex := 25, attributes := #[] }, { accessFlags := 25, nameIndex := 143, descriptorIndex := 25, attributes := #[] }, { accessFlags := 25, nameIndex := 53, descriptorIndex := 25, attributes := #[] }, { accessFlags := 25, nameIndex := 24, descriptorIndex := 25, attributes := #[] }, { accessFlags := 25, nameIndex := 162, descriptorIndex := 25, attributes := #[] }, { accessFlags := 25, nameIndex := 187, descriptorIndex := 25, attributes := #[] }, { accessFlags := 26, nameIndex := 48, descriptorIndex := 25, attributes := #[] }, { accessFlags := 25, nameIndex := 277, descriptorIndex := 25, attributes := #[] }, { accessFlags := 25, nameIndex := 280, descriptorIndex := 25, attributes := #[] }, { accessFlags := 25, nameIndex := 282, descriptorIndex := 25, attributes := #[] }, { accessFlags := 25, nameIndex := 284, descriptorIndex := 25, attributes := #[] }, { accessFlags := 25, nameIndex := 286, descriptorIndex := 25, attributes := #[] }, { accessFlags := 25, nameIndex := 288, descriptorIndex := 25, attributes := #[] }, { accessFlags := 25, nameIndex := 290, descriptorIndex := 25, attributes := #[] }, { accessFlags := 25, nameIndex := 292, descriptorIndex := 25, attributes := #[] }, { accessFlags := 26, nameIndex := 108, descriptorIndex := 109, attributes := #[] }, { accessFlags := 25, nameIndex := 294, descriptorIndex := 25, attributes := #[] }])
  fields := #[{ name := "U", type := (.object "jdk/internal/misc/Unsafe"), accessFlags := 24, slot := 0, constantValue := 0 }, { name := "BIG_ENDIAN", type := .boolean, accessFlags := 26, slot := 1, constantValue := 0 }, { name := "LOG2_ARRAY_BOOLEAN_INDEX_SCALE", type := .int, accessFlags := 25, slot := 2, constantValue := 0 }, { name := "LOG2_ARRAY_BYTE_INDEX_SCALE", type := .int, accessFlags := 25, slot := 3, constantValue := 0 }, { name := "LOG2_ARRAY_CHAR_INDEX_SCALE", type := .int, accessFlags := 25, slot := 4, constantValue := 0 }, { name := "LOG2_ARRAY_SHORT_INDEX_SCALE", type := .int, accessFlags := 25, slot := 5, constantValue := 0 }, { name := "LOG2_ARRAY_INT_INDEX_SCALE", type := .int, accessFlags := 25, slot := 6, constantValue := 0 }, { name := "LOG2_ARRAY_LONG_INDEX_SCALE", type := .int, accessFlags := 25, slot := 7, constantValue := 0 }, { name := "LOG2_ARRAY_FLOAT_INDEX_SCALE", type := .int, accessFlags := 25, slot := 8, constantValue := 0 }, { name := "LOG2_ARRAY_DOUBLE_INDEX_SCALE", type := .int, accessFlags := 25, slot := 9, constantValue := 0 }, { name := "LOG2_BYTE_BIT_SIZE", type := .int, accessFlags := 26, slot := 10, constantValue := 0 }, { name := "T_BOOLEAN", type := .int, accessFlags := 25, slot := 11, constantValue := 0 }, { name := "T_CHAR", type := .int, accessFlags := 25, slot := 12, constantValue := 0 }, { name := "T_FLOAT", type := .int, accessFlags := 25, slot := 13, constantValue := 0 }, { name := "T_DOUBLE", type := .int, accessFlags := 25, slot := 14, constantValue := 0 }, { name := "T_BYTE", type := .int, accessFlags := 25, slot := 15, constantValue := 0 }, { name := "T_SHORT", type := .int, accessFlags := 25, slot := 16, constantValue := 0 }, { name := "T_INT", type := .int, accessFlags := 25, slot := 17, constantValue := 0 }, { name := "T_LONG", type := .int, accessFlags := 25, slot := 18, constantValue := 0 }, { name := "JLA", type := (.object "jdk/internal/access/JavaLangAccess"), accessFlags := 26, slot := 19, constantValue := 0 }, { name := "SOFT_MAX_ARRAY_LENGTH", type := .int, accessFlags := 25, slot := 20, constantValue := 0 }]
  methods := #[k14m0]
  instanceTypes := #[]
  staticTypes := #[(.object "jdk/internal/misc/Unsafe"), .boolean, .int, .int, .int, .int, .int, .int, .int, .int, .int, .int, .int, .int, .int, .int, .int, .int, .int, (.object "jdk/internal/access/JavaLangAccess"), .int]
  resolved := Array.replicate 378 none
  statics := none }

def pool15 : Array CpInfo := pool [(1, u "java/lang/Cloneable"), (0, .class_ 1), (0, u "java/lang/Object"), (0, .class_ 3)] 3

/-- java/lang/Cloneable -/
def k15 : Class := { plain "java/lang/Cloneable" (some 0) with
  accessFlags := 1537
  interfaces := #[]
  cf := some (fileOf pool15 2 #[] #[] 1537 4 #[] #[])
  fields := #[]
  methods := #[]
  instanceTypes := #[]
  staticTypes := #[]
  resolved := Array.replicate 8 none
  statics := none }

/-- the primitive byte -/
def k16 : Class := { plain "byte" none with kind := .primitive 'B', accessFlags := 0x411 }
/-- [B -/
def k17 : Class := { plain "[B" (some 0) with kind := .array 16 .byte, interfaces := #[15, 2], accessFlags := 1041 }

/-- the primitive char -/
def k18 : Class := { plain "char" none with kind := .primitive 'C', accessFlags := 0x411 }
/-- [C -/
def k19 : Class := { plain "[C" (some 0) with kind := .array 18 .char, interfaces := #[15, 2], accessFlags := 1041 }

/-- the primitive int -/
def k20 : Class := { plain "int" none with kind := .primitive 'I', accessFlags := 0x411 }
/-- [I -/
def k21 : Class := { plain "[I" (some 0) with kind := .array 20 .int, interfaces := #[15, 2], accessFlags := 1041 }

def heap : Heap := #[{ cls := 7, slots := #[.long 0, .int 1, .null, .int 0, .null, .int 0, .int 0], vm := .statics 7 },
  { cls := 12, slots := #[.null, .null, .null], vm := .statics 12 }]
def classes : Array Class := #[k0, k1, k2, k3, k4, k5, k6, k7, k8, k9, k10, k11, k12, k13, k14, k15, k16, k17, k18, k19, k20, k21]
def interned : List (Array UInt16 × Addr) := []
def slotsUsed : Nat := 10
def theMethod : MethodId := ⟨1, 3⟩
def args0 : Array Value := #[.int 1, .long 5, .long 9]
def aboutOver (below : List Frame) : State where
  vm := { classes := classes, interned := interned.toArray }
  heap := heap
  slotsUsed := slotsUsed
  threads := #[{ frames := .invoking theMethod args0 :: below }]
def below0 : List Frame := [.native { method := ⟨0, 0⟩, args := #[] }]
def about1 : State := aboutOver below0
def p0 : Program := .bare "" "" ""
def e0 : Env := launch0.env 0 0 0
theorem w_frames : about1.frames = Frame.invoking theMethod args0 :: below0 := rfl
set_option maxRecDepth 65536 in
theorem w_args : argsFit about1.vm theMethod args0 = true := by decide +kernel
set_option maxRecDepth 65536 in
theorem w_heap : heapFits about1 = true := by decide +kernel
set_option maxRecDepth 65536 in
theorem w_runnable : about1.curStatus? = some .runnable := by decide +kernel
set_option maxRecDepth 65536 in
theorem w_alone : about1.alone = true := by decide +kernel
set_option maxRecDepth 65536 in
theorem w_named : about1.methodNamed? x = some theMethod := by decide +kernel
set_option maxRecDepth 65536 in
theorem w_hears : about1.hears theMethod below0 = true := by decide +kernel
set_option maxRecDepth 65536 in
theorem w_ripe : about1.ripe theMethod args0 below0 = true := by decide +kernel
theorem w_running : about1.status = .running := rfl
set_option maxRecDepth 65536 in
theorem w_room : about1.hasRoom e0.platform room_1 = true :=
  launch0.hasRoom_least _ room_1 (by decide +kernel) (by decide +kernel) (by decide +kernel) (by decide +kernel) (by decide +kernel) (by decide +kernel)
theorem allAtoms_all (ts : List Jvm.Cond) (a : Array Jvm.Value) (st : Jvm.State) : (allAtoms ts).before a st = ts.all (fun c => c.before a st) := by
  induction ts with
  | nil => rfl
  | cons c t ih =>
    show (Jvm.Cond.and c (allAtoms t)).before a st = _
    rw [Jvm.Cond.before_and, ih, List.all_cons]
def words1 : List Jvm.Cond := Jvm.Cond.code x code maxLocals ret :: tables_1
/-- a 'code' word, met by the world's own term for the bytes: nothing is compared byte by byte -/
theorem code_word {y : MethodName} {bytes : ByteArray} {mx : Nat} {rt : Option FieldType} {a : Array Value} {s : State} {m : MethodId} {meth : Method} {c : Code} (h1 : s.methodNamed? y = some m) (h2 : s.vm.method? m = some meth) (h3 : meth.code = some c) (h4 : c.code = bytes)
    (h5 : (c.maxLocals == mx && c.exceptionTable.isEmpty && decide (c.maxStack ≤ mostOperands) && decide (meth.sig.returnType = rt) && !meth.locks && decide (parseMethodDescriptor y.desc = some meth.sig)) = true) : (Jvm.Cond.code y bytes mx rt).before a s = true := by
  simp only [Bool.and_eq_true, beq_iff_eq, Bool.not_eq_true', decide_eq_true_eq] at h5
  obtain ⟨⟨⟨⟨⟨g1, g2⟩, g3⟩, g4⟩, g5⟩, g6⟩ := h5
  simp [Cond.before, Cond.holds, Cond.value, h1, h2, h3, h4, g1, g2, g3, g4, g5, g6]
def isCode : Jvm.Cond → Bool
  | .code _ _ _ _ => true
  | _ => false
theorem all_split {L : List Jvm.Cond} {P : Jvm.Cond → Bool} (h1 : L.all (fun c => isCode c || P c) = true) (h2 : ∀ c ∈ L.filter isCode, P c = true) : L.all P = true := by
  refine List.all_eq_true.mpr fun c hc => ?_
  have h := List.all_eq_true.mp h1 c hc
  rcases Bool.eq_false_or_eq_true (isCode c) with hi | hi
  · exact h2 c (List.mem_filter.mpr ⟨hc, hi⟩)
  · simpa [hi] using h
set_option maxRecDepth 65536 in
theorem w_c0 : (Jvm.Cond.code x code maxLocals ret).before args0 about1 = true := code_word (m := ⟨1, 3⟩) (meth := k1m3) (c := k1c3) (by decide +kernel) rfl rfl rfl (by decide +kernel)
set_option maxRecDepth 65536 in
theorem w_c1 : (Jvm.Cond.code ({ cls := "com/example/adjacency/adjacency/identity/NodeNameParsePinLaw", name := "pos", desc := "(IIJ)C" } : Jvm.MethodName) method_3_code (5 : Nat) (Option.some Jvm.ClassFile.FieldType.char)).before args0 about1 = true := code_word (m := ⟨1, 2⟩) (meth := k1m2) (c := k1c2) (by decide +kernel) rfl rfl rfl (by decide +kernel)
set_option maxRecDepth 65536 in
theorem w_c2 : (Jvm.Cond.code ({ cls := "com/example/adjacency/adjacency/identity/NodeNameParsePinLaw", name := "ch", desc := "(JZ)C" } : Jvm.MethodName) method_2_code (4 : Nat) (Option.some Jvm.ClassFile.FieldType.char)).before args0 about1 = true := code_word (m := ⟨1, 1⟩) (meth := k1m1) (c := k1c1) (by decide +kernel) rfl rfl rfl (by decide +kernel)
set_option maxRecDepth 65536 in
theorem w_c3 : (Jvm.Cond.code ({ cls := "java/lang/String", name := "<init>", desc := "([C)V" } : Jvm.MethodName) jdk_42_method_3_code (2 : Nat) (Option.none : Option Jvm.ClassFile.FieldType)).before args0 about1 = true := code_word (m := ⟨7, 1⟩) (meth := k7m1) (c := k7c1) (by decide +kernel) rfl rfl rfl (by decide +kernel)
set_option maxRecDepth 65536 in
theorem w_c4 : (Jvm.Cond.code ({ cls := "java/lang/String", name := "<init>", desc := "([CIILjava/lang/Void;)V" } : Jvm.MethodName) jdk_42_method_149_code (6 : Nat) (Option.none : Option Jvm.ClassFile.FieldType)).before args0 about1 = true := code_word (m := ⟨7, 8⟩) (meth := k7m8) (c := k7c8) (by decide +kernel) rfl rfl rfl (by decide +kernel)
set_option maxRecDepth 65536 in
theorem w_c5 : (Jvm.Cond.code ({ cls := "java/lang/Object", name := "<init>", desc := "()V" } : Jvm.MethodName) object_method_1_code (1 : Nat) (Option.none : Option Jvm.ClassFile.FieldType)).before args0 about1 = true := code_word (m := ⟨0, 0⟩) (meth := k0m0) (c := k0c0) (by decide +kernel) rfl rfl rfl (by decide +kernel)
set_option maxRecDepth 65536 in
theorem w_c6 : (Jvm.Cond.code ({ cls := "java/lang/StringUTF16", name := "compress", desc := "([CII)[B" } : Jvm.MethodName) jdk_52_method_16_code (6 : Nat) (Option.some (Jvm.ClassFile.FieldType.array Jvm.ClassFile.FieldType.byte))).before args0 about1 = true := code_word (m := ⟨8, 2⟩) (meth := k8m2) (c := k8c2) (by decide +kernel) rfl rfl rfl (by decide +kernel)
set_option maxRecDepth 65536 in
theorem w_c7 : (Jvm.Cond.code ({ cls := "java/lang/StringUTF16", name := "compress", desc := "([CI[BII)I" } : Jvm.MethodName) jdk_52_method_21_code (7 : Nat) (Option.some Jvm.ClassFile.FieldType.int)).before args0 about1 = true := code_word (m := ⟨8, 3⟩) (meth := k8m3) (c := k8c3) (by decide +kernel) rfl rfl rfl (by decide +kernel)
set_option maxRecDepth 65536 in
theorem w_c8 : (Jvm.Cond.code ({ cls := "java/lang/StringUTF16", name := "coderFromArrayLen", desc := "([BI)B" } : Jvm.MethodName) jdk_52_method_15_code (2 : Nat) (Option.some Jvm.ClassFile.FieldType.byte)).before args0 about1 = true := code_word (m := ⟨8, 1⟩) (meth := k8m1) (c := k8c1) (by decide +kernel) rfl rfl rfl (by decide +kernel)
set_option maxRecDepth 65536 in
theorem w_c9 : (Jvm.Cond.code ({ cls := "com/example/adjacency/adjacency/identity/NodeName", name := "parse", desc := "(Ljava/lang/String;)Lcom/example/adjacency/adjacency/identity/NodeName;" } : Jvm.MethodName) prog_13_method_2_code (5 : Nat) (Option.some (Jvm.ClassFile.FieldType.object "com/example/adjacency/adjacency/identity/NodeName"))).before args0 about1 = true := code_word (m := ⟨9, 1⟩) (meth := k9m1) (c := k9c1) (by decide +kernel) rfl rfl rfl (by decide +kernel)
set_option maxRecDepth 65536 in
theorem w_c10 : (Jvm.Cond.code ({ cls := "java/util/Objects", name := "requireNonNull", desc := "(Ljava/lang/Object;Ljava/lang/String;)Ljava/lang/Object;" } : Jvm.MethodName) jdk_31_method_11_code (2 : Nat) (Option.some (Jvm.ClassFile.FieldType.object "java/lang/Object"))).before args0 about1 = true := code_word (m := ⟨10, 1⟩) (meth := k10m1) (c := k10c1) (by decide +kernel) rfl rfl rfl (by decide +kernel)
set_option maxRecDepth 65536 in
theorem w_c11 : (Jvm.Cond.code ({ cls := "com/example/adjacency/adjacency/identity/NodeName", name := "countLabels", desc := "(Ljava/lang/String;)I" } : Jvm.MethodName) prog_13_method_14_code (3 : Nat) (Option.some Jvm.ClassFile.FieldType.int)).before args0 about1 = true := code_word (m := ⟨9, 5⟩) (meth := k9m5) (c := k9c5) (by decide +kernel) rfl rfl rfl (by decide +kernel)
set_option maxRecDepth 65536 in
theorem w_c12 : (Jvm.Cond.code ({ cls := "java/lang/String", name := "length", desc := "()I" } : Jvm.MethodName) jdk_42_method_54_code (1 : Nat) (Option.some Jvm.ClassFile.FieldType.int)).before args0 about1 = true := code_word (m := ⟨7, 2⟩) (meth := k7m2) (c := k7c2) (by decide +kernel) rfl rfl rfl (by decide +kernel)
set_option maxRecDepth 65536 in
theorem w_c13 : (Jvm.Cond.code ({ cls := "java/lang/String", name := "coder", desc := "()B" } : Jvm.MethodName) jdk_42_method_152_code (1 : Nat) (Option.some Jvm.ClassFile.FieldType.byte)).before args0 about1 = true := code_word (m := ⟨7, 10⟩) (meth := k7m10) (c := k7c10) (by decide +kernel) rfl rfl rfl (by decide +kernel)
set_option maxRecDepth 65536 in
theorem w_c14 : (Jvm.Cond.code ({ cls := "java/lang/String", name := "charAt", desc := "(I)C" } : Jvm.MethodName) jdk_42_method_56_code (2 : Nat) (Option.some Jvm.ClassFile.FieldType.char)).before args0 about1 = true := code_word (m := ⟨7, 3⟩) (meth := k7m3) (c := k7c3) (by decide +kernel) rfl rfl rfl (by decide +kernel)
set_option maxRecDepth 65536 in
theorem w_c15 : (Jvm.Cond.code ({ cls := "java/lang/String", name := "isLatin1", desc := "()Z" } : Jvm.MethodName) jdk_42_method_154_code (1 : Nat) (Option.some Jvm.ClassFile.FieldType.boolean)).before args0 about1 = true := code_word (m := ⟨7, 11⟩) (meth := k7m11) (c := k7c11) (by decide +kernel) rfl rfl rfl (by decide +kernel)
set_option maxRecDepth 65536 in
theorem w_c16 : (Jvm.Cond.code ({ cls := "java/lang/StringLatin1", name := "charAt", desc := "([BI)C" } : Jvm.MethodName) jdk_43_method_2_code (2 : Nat) (Option.some Jvm.ClassFile.FieldType.char)).before args0 about1 = true := code_word (m := ⟨11, 1⟩) (meth := k11m1) (c := k11c1) (by decide +kernel) rfl rfl rfl (by decide +kernel)
set_option maxRecDepth 65536 in
theorem w_c17 : (Jvm.Cond.code ({ cls := "java/lang/String", name := "checkIndex", desc := "(II)V" } : Jvm.MethodName) jdk_42_method_155_code (2 : Nat) (Option.none : Option Jvm.ClassFile.FieldType)).before args0 about1 = true := code_word (m := ⟨7, 12⟩) (meth := k7m12) (c := k7c12) (by decide +kernel) rfl rfl rfl (by decide +kernel)
set_option maxRecDepth 65536 in
theorem w_c18 : (Jvm.Cond.code ({ cls := "jdk/internal/util/Preconditions", name := "checkIndex", desc := "(IILjava/util/function/BiFunction;)I" } : Jvm.MethodName) jdk_41_method_11_code (3 : Nat) (Option.some Jvm.ClassFile.FieldType.int)).before args0 about1 = true := code_word (m := ⟨12, 1⟩) (meth := k12m1) (c := k12c1) (by decide +kernel) rfl rfl rfl (by decide +kernel)
set_option maxRecDepth 65536 in
theorem w_c19 : (Jvm.Cond.code ({ cls := "java/lang/String", name := "indexOf", desc := "(II)I" } : Jvm.MethodName) jdk_42_method_80_code (3 : Nat) (Option.some Jvm.ClassFile.FieldType.int)).before args0 about1 = true := code_word (m := ⟨7, 6⟩) (meth := k7m6) (c := k7c6) (by decide +kernel) rfl rfl rfl (by decide +kernel)
set_option maxRecDepth 65536 in
theorem w_c20 : (Jvm.Cond.code ({ cls := "java/lang/StringLatin1", name := "indexOf", desc := "([BIII)I" } : Jvm.MethodName) jdk_43_method_22_code (4 : Nat) (Option.some Jvm.ClassFile.FieldType.int)).before args0 about1 = true := code_word (m := ⟨11, 4⟩) (meth := k11m4) (c := k11c4) (by decide +kernel) rfl rfl rfl (by decide +kernel)
set_option maxRecDepth 65536 in
theorem w_c21 : (Jvm.Cond.code ({ cls := "java/lang/StringLatin1", name := "canEncode", desc := "(I)Z" } : Jvm.MethodName) jdk_43_method_4_code (1 : Nat) (Option.some Jvm.ClassFile.FieldType.boolean)).before args0 about1 = true := code_word (m := ⟨11, 3⟩) (meth := k11m3) (c := k11c3) (by decide +kernel) rfl rfl rfl (by decide +kernel)
set_option maxRecDepth 65536 in
theorem w_c22 : (Jvm.Cond.code ({ cls := "java/lang/Math", name := "max", desc := "(II)I" } : Jvm.MethodName) jdk_29_method_65_code (2 : Nat) (Option.some Jvm.ClassFile.FieldType.int)).before args0 about1 = true := code_word (m := ⟨13, 1⟩) (meth := k13m1) (c := k13c1) (by decide +kernel) rfl rfl rfl (by decide +kernel)
set_option maxRecDepth 65536 in
theorem w_c23 : (Jvm.Cond.code ({ cls := "java/lang/Math", name := "min", desc := "(II)I" } : Jvm.MethodName) jdk_29_method_69_code (2 : Nat) (Option.some Jvm.ClassFile.FieldType.int)).before args0 about1 = true := code_word (m := ⟨13, 2⟩) (meth := k13m2) (c := k13c2) (by decide +kernel) rfl rfl rfl (by decide +kernel)
set_option maxRecDepth 65536 in
theorem w_c24 : (Jvm.Cond.code ({ cls := "java/lang/StringLatin1", name := "indexOfChar", desc := "([BIII)I" } : Jvm.MethodName) jdk_43_method_23_code (6 : Nat) (Option.some Jvm.ClassFile.FieldType.int)).before args0 about1 = true := code_word (m := ⟨11, 5⟩) (meth := k11m5) (c := k11c5) (by decide +kernel) rfl rfl rfl (by decide +kernel)
set_option maxRecDepth 65536 in
theorem w_c25 : (Jvm.Cond.code ({ cls := "com/example/adjacency/adjacency/identity/NodeName", name := "isLabel", desc := "(Ljava/lang/String;II)Z" } : Jvm.MethodName) prog_13_method_15_code (6 : Nat) (Option.some Jvm.ClassFile.FieldType.boolean)).before args0 about1 = true := code_word (m := ⟨9, 6⟩) (meth := k9m6) (c := k9c6) (by decide +kernel) rfl rfl rfl (by decide +kernel)
set_option maxRecDepth 65536 in
theorem w_c26 : (Jvm.Cond.code ({ cls := "com/example/adjacency/adjacency/identity/NodeName", name := "<init>", desc := "(Ljava/lang/String;)V" } : Jvm.MethodName) prog_13_method_1_code (2 : Nat) (Option.none : Option Jvm.ClassFile.FieldType)).before args0 about1 = true := code_word (m := ⟨9, 0⟩) (meth := k9m0) (c := k9c0) (by decide +kernel) rfl rfl rfl (by decide +kernel)
set_option maxRecDepth 65536 in
theorem w_c27 : (Jvm.Cond.code ({ cls := "com/example/adjacency/adjacency/identity/NodeName", name := "toString", desc := "()Ljava/lang/String;" } : Jvm.MethodName) prog_13_method_11_code (1 : Nat) (Option.some (Jvm.ClassFile.FieldType.object "java/lang/String"))).before args0 about1 = true := code_word (m := ⟨9, 4⟩) (meth := k9m4) (c := k9c4) (by decide +kernel) rfl rfl rfl (by decide +kernel)
set_option maxRecDepth 65536 in
theorem w_c28 : (Jvm.Cond.code ({ cls := "java/lang/String", name := "equals", desc := "(Ljava/lang/Object;)Z" } : Jvm.MethodName) jdk_42_method_66_code (3 : Nat) (Option.some Jvm.ClassFile.FieldType.boolean)).before args0 about1 = true := code_word (m := ⟨7, 4⟩) (meth := k7m4) (c := k7c4) (by decide +kernel) rfl rfl rfl (by decide +kernel)
set_option maxRecDepth 65536 in
theorem w_c29 : (Jvm.Cond.code ({ cls := "com/example/adjacency/adjacency/identity/NodeName", name := "labelCount", desc := "()I" } : Jvm.MethodName) prog_13_method_7_code (1 : Nat) (Option.some Jvm.ClassFile.FieldType.int)).before args0 about1 = true := code_word (m := ⟨9, 3⟩) (meth := k9m3) (c := k9c3) (by decide +kernel) rfl rfl rfl (by decide +kernel)
set_option maxRecDepth 65536 in
theorem w_c30 : (Jvm.Cond.code ({ cls := "com/example/adjacency/adjacency/identity/NodeName", name := "isRoot", desc := "()Z" } : Jvm.MethodName) prog_13_method_3_code (1 : Nat) (Option.some Jvm.ClassFile.FieldType.boolean)).before args0 about1 = true := code_word (m := ⟨9, 2⟩) (meth := k9m2) (c := k9c2) (by decide +kernel) rfl rfl rfl (by decide +kernel)
set_option maxRecDepth 65536 in
theorem w_c31 : (Jvm.Cond.code ({ cls := "java/lang/String", name := "indexOf", desc := "(I)I" } : Jvm.MethodName) jdk_42_method_79_code (2 : Nat) (Option.some Jvm.ClassFile.FieldType.int)).before args0 about1 = true := code_word (m := ⟨7, 5⟩) (meth := k7m5) (c := k7c5) (by decide +kernel) rfl rfl rfl (by decide +kernel)
set_option maxRecDepth 65536 in
theorem w_c32 : (Jvm.Cond.code ({ cls := "java/lang/String", name := "valueOf", desc := "(C)Ljava/lang/String;" } : Jvm.MethodName) jdk_42_method_139_code (1 : Nat) (Option.some (Jvm.ClassFile.FieldType.object "java/lang/String"))).before args0 about1 = true := code_word (m := ⟨7, 7⟩) (meth := k7m7) (c := k7c7) (by decide +kernel) rfl rfl rfl (by decide +kernel)
set_option maxRecDepth 65536 in
theorem w_c33 : (Jvm.Cond.code ({ cls := "java/lang/StringLatin1", name := "canEncode", desc := "(C)Z" } : Jvm.MethodName) jdk_43_method_3_code (1 : Nat) (Option.some Jvm.ClassFile.FieldType.boolean)).before args0 about1 = true := code_word (m := ⟨11, 2⟩) (meth := k11m2) (c := k11c2) (by decide +kernel) rfl rfl rfl (by decide +kernel)
set_option maxRecDepth 65536 in
theorem w_c34 : (Jvm.Cond.code ({ cls := "java/lang/StringLatin1", name := "toBytes", desc := "(C)[B" } : Jvm.MethodName) jdk_43_method_46_code (1 : Nat) (Option.some (Jvm.ClassFile.FieldType.array Jvm.ClassFile.FieldType.byte))).before args0 about1 = true := code_word (m := ⟨11, 6⟩) (meth := k11m6) (c := k11c6) (by decide +kernel) rfl rfl rfl (by decide +kernel)
set_option maxRecDepth 65536 in
theorem w_c35 : (Jvm.Cond.code ({ cls := "java/lang/String", name := "<init>", desc := "([BB)V" } : Jvm.MethodName) jdk_42_method_151_code (3 : Nat) (Option.none : Option Jvm.ClassFile.FieldType)).before args0 about1 = true := code_word (m := ⟨7, 9⟩) (meth := k7m9) (c := k7c9) (by decide +kernel) rfl rfl rfl (by decide +kernel)
def codes1 : List Jvm.Cond := [Jvm.Cond.code x code maxLocals ret, Jvm.Cond.code ({ cls := "com/example/adjacency/adjacency/identity/NodeNameParsePinLaw", name := "pos", desc := "(IIJ)C" } : Jvm.MethodName) method_3_code (5 : Nat) (Option.some Jvm.ClassFile.FieldType.char), Jvm.Cond.code ({ cls := "com/example/adjacency/adjacency/identity/NodeNameParsePinLaw", name := "ch", desc := "(JZ)C" } : Jvm.MethodName) method_2_code (4 : Nat) (Option.some Jvm.ClassFile.FieldType.char), Jvm.Cond.code ({ cls := "java/lang/String", name := "<init>", desc := "([C)V" } : Jvm.MethodName) jdk_42_method_3_code (2 : Nat) (Option.none : Option Jvm.ClassFile.FieldType), Jvm.Cond.code ({ cls := "java/lang/String", name := "<init>", desc := "([CIILjava/lang/Void;)V" } : Jvm.MethodName) jdk_42_method_149_code (6 : Nat) (Option.none : Option Jvm.ClassFile.FieldType), Jvm.Cond.code ({ cls := "java/lang/Object", name := "<init>", desc := "()V" } : Jvm.MethodName) object_method_1_code (1 : Nat) (Option.none : Option Jvm.ClassFile.FieldType), Jvm.Cond.code ({ cls := "java/lang/StringUTF16", name := "compress", desc := "([CII)[B" } : Jvm.MethodName) jdk_52_method_16_code (6 : Nat) (Option.some (Jvm.ClassFile.FieldType.array Jvm.ClassFile.FieldType.byte)), Jvm.Cond.code ({ cls := "java/lang/StringUTF16", name := "compress", desc := "([CI[BII)I" } : Jvm.MethodName) jdk_52_method_21_code (7 : Nat) (Option.some Jvm.ClassFile.FieldType.int), Jvm.Cond.code ({ cls := "java/lang/StringUTF16", name := "coderFromArrayLen", desc := "([BI)B" } : Jvm.MethodName) jdk_52_method_15_code (2 : Nat) (Option.some Jvm.ClassFile.FieldType.byte), Jvm.Cond.code ({ cls := "com/example/adjacency/adjacency/identity/NodeName", name := "parse", desc := "(Ljava/lang/String;)Lcom/example/adjacency/adjacency/identity/NodeName;" } : Jvm.MethodName) prog_13_method_2_code (5 : Nat) (Option.some (Jvm.ClassFile.FieldType.object "com/example/adjacency/adjacency/identity/NodeName")), Jvm.Cond.code ({ cls := "java/util/Objects", name := "requireNonNull", desc := "(Ljava/lang/Object;Ljava/lang/String;)Ljava/lang/Object;" } : Jvm.MethodName) jdk_31_method_11_code (2 : Nat) (Option.some (Jvm.ClassFile.FieldType.object "java/lang/Object")), Jvm.Cond.code ({ cls := "com/example/adjacency/adjacency/identity/NodeName", name := "countLabels", desc := "(Ljava/lang/String;)I" } : Jvm.MethodName) prog_13_method_14_code (3 : Nat) (Option.some Jvm.ClassFile.FieldType.int), Jvm.Cond.code ({ cls := "java/lang/String", name := "length", desc := "()I" } : Jvm.MethodName) jdk_42_method_54_code (1 : Nat) (Option.some Jvm.ClassFile.FieldType.int), Jvm.Cond.code ({ cls := "java/lang/String", name := "coder", desc := "()B" } : Jvm.MethodName) jdk_42_method_152_code (1 : Nat) (Option.some Jvm.ClassFile.FieldType.byte), Jvm.Cond.code ({ cls := "java/lang/String", name := "charAt", desc := "(I)C" } : Jvm.MethodName) jdk_42_method_56_code (2 : Nat) (Option.some Jvm.ClassFile.FieldType.char), Jvm.Cond.code ({ cls := "java/lang/String", name := "isLatin1", desc := "()Z" } : Jvm.MethodName) jdk_42_method_154_code (1 : Nat) (Option.some Jvm.ClassFile.FieldType.boolean), Jvm.Cond.code ({ cls := "java/lang/StringLatin1", name := "charAt", desc := "([BI)C" } : Jvm.MethodName) jdk_43_method_2_code (2 : Nat) (Option.some Jvm.ClassFile.FieldType.char), Jvm.Cond.code ({ cls := "java/lang/String", name := "checkIndex", desc := "(II)V" } : Jvm.MethodName) jdk_42_method_155_code (2 : Nat) (Option.none : Option Jvm.ClassFile.FieldType), Jvm.Cond.code ({ cls := "jdk/internal/util/Preconditions", name := "checkIndex", desc := "(IILjava/util/function/BiFunction;)I" } : Jvm.MethodName) jdk_41_method_11_code (3 : Nat) (Option.some Jvm.ClassFile.FieldType.int), Jvm.Cond.code ({ cls := "java/lang/String", name := "indexOf", desc := "(II)I" } : Jvm.MethodName) jdk_42_method_80_code (3 : Nat) (Option.some Jvm.ClassFile.FieldType.int), Jvm.Cond.code ({ cls := "java/lang/StringLatin1", name := "indexOf", desc := "([BIII)I" } : Jvm.MethodName) jdk_43_method_22_code (4 : Nat) (Option.some Jvm.ClassFile.FieldType.int), Jvm.Cond.code ({ cls := "java/lang/StringLatin1", name := "canEncode", desc := "(I)Z" } : Jvm.MethodName) jdk_43_method_4_code (1 : Nat) (Option.some Jvm.ClassFile.FieldType.boolean), Jvm.Cond.code ({ cls := "java/lang/Math", name := "max", desc := "(II)I" } : Jvm.MethodName) jdk_29_method_65_code (2 : Nat) (Option.some Jvm.ClassFile.FieldType.int), Jvm.Cond.code ({ cls := "java/lang/Math", name := "min", desc := "(II)I" } : Jvm.MethodName) jdk_29_method_69_code (2 : Nat) (Option.some Jvm.ClassFile.FieldType.int), Jvm.Cond.code ({ cls := "java/lang/StringLatin1", name := "indexOfChar", desc := "([BIII)I" } : Jvm.MethodName) jdk_43_method_23_code (6 : Nat) (Option.some Jvm.ClassFile.FieldType.int), Jvm.Cond.code ({ cls := "com/example/adjacency/adjacency/identity/NodeName", name := "isLabel", desc := "(Ljava/lang/String;II)Z" } : Jvm.MethodName) prog_13_method_15_code (6 : Nat) (Option.some Jvm.ClassFile.FieldType.boolean), Jvm.Cond.code ({ cls := "com/example/adjacency/adjacency/identity/NodeName", name := "<init>", desc := "(Ljava/lang/String;)V" } : Jvm.MethodName) prog_13_method_1_code (2 : Nat) (Option.none : Option Jvm.ClassFile.FieldType), Jvm.Cond.code ({ cls := "com/example/adjacency/adjacency/identity/NodeName", name := "toString", desc := "()Ljava/lang/String;" } : Jvm.MethodName) prog_13_method_11_code (1 : Nat) (Option.some (Jvm.ClassFile.FieldType.object "java/lang/String")), Jvm.Cond.code ({ cls := "java/lang/String", name := "equals", desc := "(Ljava/lang/Object;)Z" } : Jvm.MethodName) jdk_42_method_66_code (3 : Nat) (Option.some Jvm.ClassFile.FieldType.boolean), Jvm.Cond.code ({ cls := "com/example/adjacency/adjacency/identity/NodeName", name := "labelCount", desc := "()I" } : Jvm.MethodName) prog_13_method_7_code (1 : Nat) (Option.some Jvm.ClassFile.FieldType.int), Jvm.Cond.code ({ cls := "com/example/adjacency/adjacency/identity/NodeName", name := "isRoot", desc := "()Z" } : Jvm.MethodName) prog_13_method_3_code (1 : Nat) (Option.some Jvm.ClassFile.FieldType.boolean), Jvm.Cond.code ({ cls := "java/lang/String", name := "indexOf", desc := "(I)I" } : Jvm.MethodName) jdk_42_method_79_code (2 : Nat) (Option.some Jvm.ClassFile.FieldType.int), Jvm.Cond.code ({ cls := "java/lang/String", name := "valueOf", desc := "(C)Ljava/lang/String;" } : Jvm.MethodName) jdk_42_method_139_code (1 : Nat) (Option.some (Jvm.ClassFile.FieldType.object "java/lang/String")), Jvm.Cond.code ({ cls := "java/lang/StringLatin1", name := "canEncode", desc := "(C)Z" } : Jvm.MethodName) jdk_43_method_3_code (1 : Nat) (Option.some Jvm.ClassFile.FieldType.boolean), Jvm.Cond.code ({ cls := "java/lang/StringLatin1", name := "toBytes", desc := "(C)[B" } : Jvm.MethodName) jdk_43_method_46_code (1 : Nat) (Option.some (Jvm.ClassFile.FieldType.array Jvm.ClassFile.FieldType.byte)), Jvm.Cond.code ({ cls := "java/lang/String", name := "<init>", desc := "([BB)V" } : Jvm.MethodName) jdk_42_method_151_code (3 : Nat) (Option.none : Option Jvm.ClassFile.FieldType)]
set_option maxRecDepth 65536 in
theorem codes_eq : words1.filter isCode = codes1 := rfl
theorem w_codes : ∀ c ∈ words1.filter isCode, c.before args0 about1 = true := by
  rw [codes_eq]
  intro c hc
  simp only [codes1, List.mem_cons, List.not_mem_nil, or_false] at hc
  rcases hc with rfl | rfl | rfl | rfl | rfl | rfl | rfl | rfl | rfl | rfl | rfl | rfl | rfl | rfl | rfl | rfl | rfl | rfl | rfl | rfl | rfl | rfl | rfl | rfl | rfl | rfl | rfl | rfl | rfl | rfl | rfl | rfl | rfl | rfl | rfl | rfl
  · exact w_c0
  · exact w_c1
  · exact w_c2
  · exact w_c3
  · exact w_c4
  · exact w_c5
  · exact w_c6
  · exact w_c7
  · exact w_c8
  · exact w_c9
  · exact w_c10
  · exact w_c11
  · exact w_c12
  · exact w_c13
  · exact w_c14
  · exact w_c15
  · exact w_c16
  · exact w_c17
  · exact w_c18
  · exact w_c19
  · exact w_c20
  · exact w_c21
  · exact w_c22
  · exact w_c23
  · exact w_c24
  · exact w_c25
  · exact w_c26
  · exact w_c27
  · exact w_c28
  · exact w_c29
  · exact w_c30
  · exact w_c31
  · exact w_c32
  · exact w_c33
  · exact w_c34
  · exact w_c35
set_option maxRecDepth 65536 in
theorem w_t1 : (words1.take 24).all (fun c => isCode c || c.before args0 about1) = true := by decide +kernel
set_option maxRecDepth 65536 in
theorem w_t2 : ((words1.drop 24).take 24).all (fun c => isCode c || c.before args0 about1) = true := by decide +kernel
set_option maxRecDepth 65536 in
theorem w_t3 : (((words1.drop 24).drop 24).take 24).all (fun c => isCode c || c.before args0 about1) = true := by decide +kernel
set_option maxRecDepth 65536 in
theorem w_t4 : ((((words1.drop 24).drop 24).drop 24).take 24).all (fun c => isCode c || c.before args0 about1) = true := by decide +kernel
set_option maxRecDepth 65536 in
theorem w_t5 : (((((words1.drop 24).drop 24).drop 24).drop 24).take 24).all (fun c => isCode c || c.before args0 about1) = true := by decide +kernel
set_option maxRecDepth 65536 in
theorem w_t6 : ((((((words1.drop 24).drop 24).drop 24).drop 24).drop 24).take 24).all (fun c => isCode c || c.before args0 about1) = true := by decide +kernel
set_option maxRecDepth 65536 in
theorem w_t7 : ((((((words1.drop 24).drop 24).drop 24).drop 24).drop 24).drop 24).all (fun c => isCode c || c.before args0 about1) = true := by decide +kernel
theorem w_tables : (allAtoms (Jvm.Cond.code x code maxLocals ret :: tables_1)).before args0 about1 = true := by
  rw [allAtoms_all]
  show words1.all (fun c => c.before args0 about1) = true
  refine all_split ?_ w_codes
  rw [← List.take_append_drop 24 words1, List.all_append, w_t1, ← List.take_append_drop 24 (words1.drop 24), List.all_append, w_t2, ← List.take_append_drop 24 ((words1.drop 24).drop 24), List.all_append, w_t3, ← List.take_append_drop 24 (((words1.drop 24).drop 24).drop 24), List.all_append, w_t4, ← List.take_append_drop 24 ((((words1.drop 24).drop 24).drop 24).drop 24), List.all_append, w_t5, ← List.take_append_drop 24 (((((words1.drop 24).drop 24).drop 24).drop 24).drop 24), List.all_append, w_t6, w_t7]
  rfl
set_option maxRecDepth 65536 in
theorem w_rest : rest_1_c.before args0 about1 = true := by decide +kernel
set_option maxRecDepth 65536 in
theorem w_case : (Jvm.Cond.and given_1 narrow_1).before args0 about1 = true := by decide +kernel
set_option maxRecDepth 65536 in
theorem w_consts : constsHeld consts_1 about1 := Jvm.Lit.constsHeldB_iff.mp (by decide +kernel)
theorem w_applies : (headSpec (Jvm.Cond.code x code maxLocals ret :: tables_1) room_1).applies x e0.platform about1 = true :=
  (Spec.applies_iff w_frames).mpr ⟨w_running, w_runnable, w_alone, w_named, w_hears, w_ripe, w_room, w_tables⟩
theorem atStart : AtStart classFile x code maxLocals ret World_1 tables_1 room_1 Calls_1 rest_1 Pre_1 launch0 p0 e0 about1 theMethod args0 below0 :=
  ⟨lists_1, trivial, launch0.admits_env _ _ _, launch0.least_env, fairChoices_fair.cas, fairChoices_fair.clock, w_frames, w_args, w_heap, w_applies, ⟨w_consts, trivial⟩, w_rest, w_case⟩
end start1
theorem witness_1 : WitnessClaimed_1 := ⟨start1.p0, start1.e0, start1.about1, start1.theMethod, start1.args0, start1.below0, start1.atStart⟩
end Jvm.Pilot.@@N@@
