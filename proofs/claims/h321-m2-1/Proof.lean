import JvmDerived
import JvmDerived.Pilot.@@N@@Statement
import JvmDerived.Pilot.@@N@@Code
set_option linter.unusedVariables false
set_option linter.unusedSimpArgs false
namespace Jvm.Pilot.@@N@@
open Jvm Jvm.ClassFile Sem Op Lib Jvm.Free Jvm.Stand Jvm.LawKit Jvm.RoadKit Bundle Jvm.Pilot.@@N@@.Jvm.D
/-- what is left to show at a frame of the walk: the run from there ends as the contract says -/
def own_G (p : Program) (e : Env) (below : List Frame) (s : State) (Q : Option Value → Heap → List Loc → Prop) (ce sl : Nat) (T : State) (g : JFrame) : Prop :=
  ∃ s₂ o, Steps p.tables e below (T.setTop g) s₂ ∧ s₂.status = .running ∧ Ended s₂ below o ∧ ∃ v L, o = .returned v ∧ Q v s₂.heap L ∧ FrameEnd s o s₂ L ce sl
theorem own_w {p : Program} {e : Env} {below : List Frame} {s : State} {Q : Option Value → Heap → List Loc → Prop} {ce sl : Nat} {T T' : State} {g g' : JFrame}
    (st : ∀ target, Steps p.tables e below (T'.setTop g') target → Steps p.tables e below (T.setTop g) target) (k : own_G p e below s Q ce sl T' g') : own_G p e below s Q ce sl T g := by
  obtain ⟨u, o, a, r⟩ := k
  exact ⟨u, o, st u a, r⟩
theorem own_t {p : Program} {e : Env} {below : List Frame} {s : State} {Q : Option Value → Heap → List Loc → Prop} {ce sl : Nat} {T T' : State} {g g' : JFrame}
    (st : Steps p.tables e below (T.setTop g) (T'.setTop g')) (k : own_G p e below s Q ce sl T' g') : own_G p e below s Q ce sl T g := own_w (fun _ k => st.trans k) k
theorem own_sta {Z : State} {h h' : Heap} {C n d : String} {v : Value} {a : Addr} (F : Sta Z h C n d v) (K : Keep h h' [a]) (na : ∀ cell : Cell, h[a]? = some cell → cell.vm.isStatics = false) : Sta Z h' C n d v := by
  obtain ⟨cf, i, k, f, st, cell, h1, h2, h3, h4, h5, h6, h7⟩ := F
  refine ⟨cf, i, k, f, st, cell, h1, h2, h3, h4, K.2.1 st cell h5 (fun q => ?_), h6, h7⟩
  have e : st = a := List.mem_singleton.mp q
  subst e
  rw [na _ h5] at h6; cases h6
theorem own_nb {P : Prop} [Decidable P] : narrow .boolean (.int (if P then (1 : Int32) else 0)) = .int (if P then (1 : Int32) else 0) := by split <;> rfl
theorem own_ite0 {P : Prop} [Decidable P] : ((if P then (1 : Int32) else 0) = 0) = ¬ P := by by_cases h : P <;> simp [h]
def own_Ar (Z : State) (h : Heap) (a : Addr) (ty : FieldType) (xs : List Int32) : Prop := ∃ c : Cell, Arr Z h a c ty ∧ c.slots = (xs.map Value.int).toArray
section Arrays
variable {Z : State} {h h' : Heap} {a b : Addr} {ty : FieldType} {xs : List Int32} {c : Cell} {i : Nat} {j x y v : Int32} {sl : Nat} {u : Value} {ws : List Addr}
theorem own_Ar_lt (V : own_Ar Z h a ty xs) : a < h.size := by obtain ⟨c, A, -⟩ := V; exact A.lt
theorem own_Ar_ext (V : own_Ar Z h a ty xs) (E : Ext h h') : own_Ar Z h' a ty xs := by obtain ⟨c, A, r⟩ := V; exact ⟨c, A.ext E, r⟩
theorem own_Ar_other (V : own_Ar Z h b ty xs) (W : Wr h h' a sl u) (q : b ≠ a) : own_Ar Z h' b ty xs := by obtain ⟨c, A, r⟩ := V; exact ⟨c, A.other W q, r⟩
theorem own_Ar_keep (V : own_Ar Z h a ty xs) (K : Keep h h' ws) (q : a ∉ ws) : own_Ar Z h' a ty xs := by obtain ⟨c, A, r⟩ := V; exact ⟨c, ⟨K.2.1 a c A.1 q, A.2⟩, r⟩
theorem own_Ar_new {cA : ClassId} {n : Int32} {k : Nat} (A : Arr Z h a (newA cA ty n) ty) (hd : defaultValue ty = .int 0) (hn : n.toNatClampNeg = k) : own_Ar Z h a ty (List.replicate k 0) := by
  refine ⟨_, A, ?_⟩
  show Array.replicate n.toNatClampNeg (defaultValue ty) = _
  rw [hd, hn]; simp
theorem own_ix (hj : j.toInt = (i : Int)) : j.toNatClampNeg = i := by show j.toInt.toNat = i; rw [hj]; rfl
theorem own_Ar_set (V : own_Ar Z h a ty xs) (W : Wr h h' a j.toNatClampNeg (.int y)) (hj : j.toInt = (i : Int)) (hv : y = v) : own_Ar Z h' a ty (xs.set i v) := by
  obtain ⟨c, A, hs⟩ := V
  subst hv
  refine ⟨_, A.same W, ?_⟩
  show c.slots.setIfInBounds _ _ = _
  rw [hs, own_ix hj]; simp [List.map_set]
theorem own_Ar_in (hs : c.slots = (xs.map Value.int).toArray) (hj : j.toInt = (i : Int)) (hi : i < xs.length) : ¬ (j < 0 ∨ c.slots.size ≤ j.toNatClampNeg) := by
  rw [hs, own_ix hj, Int32.lt_iff_toInt_lt, hj, show (0 : Int32).toInt = 0 from rfl]
  simp; omega
theorem own_Ar_at (hs : c.slots = (xs.map Value.int).toArray) (hj : j.toInt = (i : Int)) (hx : xs[i]? = some x) : c.slots[j.toNatClampNeg]? = some (.int x) := by
  rw [hs, own_ix hj]; simp [hx]
theorem own_fitc (A : Arr Z h a c ty) (hs : c.slots = (xs.map Value.int).toArray) (hf : ∀ x ∈ xs, fits ty (.int x) = true) : FitC Z c := fitC_of A fun i hi v hv => by
  rw [hs] at hv
  simp only [List.getElem?_toArray, List.getElem?_map, Option.map_eq_some_iff] at hv
  obtain ⟨x, hx, rfl⟩ := hv
  exact hf x (List.mem_of_getElem? hx)
theorem own_get_lt (hx : xs[i]? = some x) : i < xs.length := (List.getElem?_eq_some_iff.mp hx).1
end Arrays
theorem own_rem {x y : Int32} (d : Nat) (hy : y.toInt = d) (hd : 0 < d) (hx : 0 ≤ x.toInt) : (x - (x / y) * y).toInt = x.toInt % d := by
  have q := (c_idiv x y d hy (by intro h; rw [h] at hy; have : (-1 : Int32).toInt = -1 := by decide
                                 omega)).1 hx
  have m := c_imul (x / y) y
  have s := c_isub x (x / y * y)
  rw [q, hy] at m
  have e := Int.mul_ediv_add_emod x.toInt d
  have r0 := Int.emod_nonneg x.toInt (show (d : Int) ≠ 0 by omega)
  have r1 := Int.emod_lt_of_pos x.toInt (show (0 : Int) < d by omega)
  have p0 : 0 ≤ x.toInt / d := Int.ediv_nonneg hx (by omega)
  have p1 : 0 ≤ (d : Int) * (x.toInt / d) := Int.mul_nonneg (by omega) p0
  rw [Int.mul_comm (x.toInt / d) d] at m
  have l1 := x.toInt_lt; have l2 := (x / y * y).toInt_lt; have l3 := (x / y * y).le_toInt; have l4 := (x - x / y * y).toInt_lt; have l5 := (x - x / y * y).le_toInt
  have hy2 := y.toInt_lt
  generalize (d : Int) * (x.toInt / d) = P at *
  generalize x.toInt % (d : Int) = r at *
  omega
theorem own_n8 (x : Int32) : nar .byte x.toInt8.toInt32 = x.toInt8.toInt32 := by
  apply Int32.toInt_inj.mp
  have h1 := c_i2b x
  have h2 := c_i2b x.toInt8.toInt32
  show (x.toInt8.toInt32.toInt8.toInt32).toInt = _
  omega
theorem own_f8 (x : Int32) : fits .byte (.int x.toInt8.toInt32) = true := fits_nar_byte x
theorem own_not (x : Int32) : ¬ x = (x ^^^ (-1 : Int32)).toInt8.toInt32 := fun q => by
  have h1 := c_xor2 x (-1)
  have h2 := (c_i2b (x ^^^ (-1 : Int32))).1
  rw [← q, show (-1 : Int32).toInt = -1 by decide] at *
  omega
theorem own_d2_0 : decode prog_31_method_1_code 0 = .ok (.aload_n 0, 1) := by decide +kernel
theorem own_d2_1 : decode prog_31_method_1_code 1 = .ok (.invokespecial 1, 3) := by decide +kernel
theorem own_d2_4 : decode prog_31_method_1_code 4 = .ok (.aload_n 0, 1) := by decide +kernel
theorem own_d2_5 : decode prog_31_method_1_code 5 = .ok (.aload_n 1, 1) := by decide +kernel
theorem own_d2_6 : decode prog_31_method_1_code 6 = .ok (.putfield 7, 3) := by decide +kernel
theorem own_d2_9 : decode prog_31_method_1_code 9 = .ok (.aload_n 0, 1) := by decide +kernel
theorem own_d2_10 : decode prog_31_method_1_code 10 = .ok (.iload_n 2, 1) := by decide +kernel
theorem own_d2_11 : decode prog_31_method_1_code 11 = .ok (.putfield 13, 3) := by decide +kernel
theorem own_d2_14 : decode prog_31_method_1_code 14 = .ok (.aload_n 0, 1) := by decide +kernel
theorem own_d2_15 : decode prog_31_method_1_code 15 = .ok (.iload_n 3, 1) := by decide +kernel
theorem own_d2_16 : decode prog_31_method_1_code 16 = .ok (.putfield 17, 3) := by decide +kernel
theorem own_d2_19 : decode prog_31_method_1_code 19 = .ok (.return_, 1) := by decide +kernel
theorem own_pn_com_example_adjacency_adjacency_wire_PrefixedBytes : plainName "com/example/adjacency/adjacency/wire/PrefixedBytes" = true := by first | (simp [plainName, overriddenIn]; done) | decide +kernel
theorem own_rm2_ef (m : MethodId) (a : Addr) (ar : Addr) (of : Int32) (le : Int32) : entryFrame m #[(.ref a), (.ref ar), (.int of), (.int le)] 4 = mkF m 0 #[.val (.ref a), .val (.ref ar), .val (.int of), .val (.int le)] [] := by first | (simp [entryFrame, mkF, argsToLocals, Value.category]; done) | rfl
def own_Q2 (Z : State) (a : Addr) (ar : Addr) (of : Int32) (le : Int32) (u0 : Value) (u1 : Value) (u2 : Value) (h0 : Heap) (n0 : Nat) (v_ : Option Value) (h : Heap) (L_ : List Loc) : Prop := v_ = none ∧ Fr n0 L_ ∧ (Keep h0 h [a]) ∧ (Fld Z h a "com/example/adjacency/adjacency/wire/PrefixedBytes" "array" "[B" (.ref ar)) ∧ (Fld Z h a "com/example/adjacency/adjacency/wire/PrefixedBytes" "offset" "I" (.int of)) ∧ (Fld Z h a "com/example/adjacency/adjacency/wire/PrefixedBytes" "length" "I" (.int le))
set_option maxRecDepth 65536 in
set_option maxHeartbeats 40000000 in
theorem own_rm2 (l : Launch) (Z : State) (a0 : Array Value) (hw : ∀ d ∈ tables_1, d.before a0 Z = true) (ws : List Jvm.Cond) (a : Addr) (ar : Addr) (of : Int32) (le : Int32) (u0 : Value) (u1 : Value) (u2 : Value) (h0 : Heap) (n0 : Nat) (Z0 : n0 ≤ h0.size) (F0 : Fld Z h0 a "com/example/adjacency/adjacency/wire/PrefixedBytes" "array" "[B" u0) (F1 : Fld Z h0 a "com/example/adjacency/adjacency/wire/PrefixedBytes" "offset" "I" u1) (F2 : Fld Z h0 a "com/example/adjacency/adjacency/wire/PrefixedBytes" "length" "I" u2) (E : Exa Z h0 a "com/example/adjacency/adjacency/wire/PrefixedBytes") (g_a : n0 ≤ a) :
    MetFree l (⟨"com/example/adjacency/adjacency/wire/PrefixedBytes", "<init>", "([BII)V"⟩ : MethodName) (head1 (Jvm.Cond.code (⟨"com/example/adjacency/adjacency/wire/PrefixedBytes", "<init>", "([BII)V"⟩ : MethodName) prog_31_method_1_code 4 none :: ws) ({ frames := 1, cells := 0, slots := 0, locals := 12 } : Room)) (fun a_ U_ => a_ = #[(.ref a), (.ref ar), (.int of), (.int le)] ∧ Z.Warmed39 U_.vm ∧ U_.heap = h0) (fun _ _ _ _ _ => True) (fun _ U_ o_ V_ => ∃ v_ L_, o_ = .returned v_ ∧ own_Q2 Z a ar of le u0 u1 u2 h0 n0 v_ V_.heap L_ ∧ FrameEnd U_ o_ V_ L_ ({ frames := 1, cells := 0, slots := 0, locals := 12 } : Room).cells ({ frames := 1, cells := 0, slots := 0, locals := 12 } : Room).slots) := by
  refine MetFree.of_bodySF (plainFor_of_name own_pn_com_example_adjacency_adjacency_wire_PrefixedBytes) hisR ?_
  intro p e s m args below meth c s₁ Bd hml0 hP hK
  obtain ⟨rfl, hZ, hh⟩ := hP
  have hx := Bd.exec
  have hby := Bd.bytes
  have hml : c.maxLocals = 4 := hml0
  have hown : s.vm.findClass "com/example/adjacency/adjacency/wire/PrefixedBytes" = some m.cls := findClass_of_methodNamed Bd.named
  have hnm := (name_of_methodNamed Bd.named Bd.method).1
  have X0 : Stand p l e ({ frames := 1, cells := 0, slots := 0, locals := 12 } : Room) s m #[(.ref a), (.ref ar), (.int of), (.int le)] below meth c s₁ [] 0 0 := Stand.of_body Bd
  have e0 : s₁.heap = h0 := by rw [← hh, Bd.state]; rfl
  have N0 := Fr.nil n0
  show own_G p e below s (own_Q2 Z a ar of le u0 u1 u2 h0 n0) ({ frames := 1, cells := 0, slots := 0, locals := 12 } : Room).cells ({ frames := 1, cells := 0, slots := 0, locals := 12 } : Room).slots s₁ (entryFrame m #[(.ref a), (.ref ar), (.int of), (.int le)] 4)
  rw [own_rm2_ef]
  refine own_w (T' := s₁) (g' := (mkF m 1 #[.val (.ref a), .val (.ref ar), .val (.int of), .val (.int le)] [(.ref a)])) (fun _ k_ => XS.aloadN X0.here hx rfl (hb hby own_d2_0) rfl rfl k_) ?_
  obtain ⟨T1, X1, e1, st1⟩ := initO X0 hx hZ hown (hw _ (List.mem_of_getElem? (i := 19) rfl)) (hw _ (List.mem_of_getElem? (i := 20) rfl)) (hw _ (List.mem_of_getElem? (i := 21) rfl)) e0 (g := (mkF m 1 #[.val (.ref a), .val (.ref ar), .val (.int of), .val (.int le)] [(.ref a)])) rfl (by rw [hml]; rfl) rfl (hb hby own_d2_1) (by decide) (W := 0) (by show 2 * 0 + _ ≤ _; exact Nat.le_of_eq rfl) (by decide)
  refine own_w (T' := T1) (g' := (mkF m 4 #[.val (.ref a), .val (.ref ar), .val (.int of), .val (.int le)] [])) st1 ?_
  refine own_w (T' := T1) (g' := (mkF m 5 #[.val (.ref a), .val (.ref ar), .val (.int of), .val (.int le)] [(.ref a)])) (fun _ k_ => XS.aloadN X1.here hx rfl (hb hby own_d2_4) rfl rfl k_) ?_
  refine own_w (T' := T1) (g' := (mkF m 6 #[.val (.ref a), .val (.ref ar), .val (.int of), .val (.int le)] [(.ref ar), (.ref a)])) (fun _ k_ => XS.aloadN X1.here hx rfl (hb hby own_d2_5) rfl rfl k_) ?_
  obtain ⟨T2, h2, X2, e2, W2, st2⟩ := putF X1 hx hZ hown (host := "") (Or.inl (hw _ (List.mem_of_getElem? (i := 22) rfl))) Via.refl e1 F0 E (Or.inr ⟨(hw _ (List.mem_of_getElem? (i := 23) rfl)), rfl, hnm⟩) (hw _ (List.mem_of_getElem? (i := 6) rfl)) (ty := (.array .byte)) (by decide) rfl rfl (g := (mkF m 6 #[.val (.ref a), .val (.ref ar), .val (.int of), .val (.int le)] [(.ref ar), (.ref a)])) rfl rfl (hb hby own_d2_6)
  have N2 := Fr.snoc X2 N0 g_a
  refine own_w (T' := T2) (g' := (mkF m 9 #[.val (.ref a), .val (.ref ar), .val (.int of), .val (.int le)] [])) st2 ?_
  have F2_0 := F0.same W2
  have F2_1 := F1.other W2 (Or.inr (slot_ne (Or.inr (hw _ (List.mem_of_getElem? (i := 25) rfl))) (Or.inr (hw _ (List.mem_of_getElem? (i := 23) rfl))) (by decide) (t := .int) (t' := (.array .byte)) (by decide) (by decide)))
  have F2_2 := F2.other W2 (Or.inr (slot_ne (Or.inr (hw _ (List.mem_of_getElem? (i := 27) rfl))) (Or.inr (hw _ (List.mem_of_getElem? (i := 23) rfl))) (by decide) (t := .int) (t' := (.array .byte)) (by decide) (by decide)))
  have E2 := E.wr W2
  have K2 := (Keep.refl h0 [a]).wr W2 (Or.inl (List.mem_singleton.mpr rfl))
  refine own_w (T' := T2) (g' := (mkF m 10 #[.val (.ref a), .val (.ref ar), .val (.int of), .val (.int le)] [(.ref a)])) (fun _ k_ => XS.aloadN X2.here hx rfl (hb hby own_d2_9) rfl rfl k_) ?_
  refine own_w (T' := T2) (g' := (mkF m 11 #[.val (.ref a), .val (.ref ar), .val (.int of), .val (.int le)] [(.int of), (.ref a)])) (fun _ k_ => XS.iloadN X2.here hx rfl (hb hby own_d2_10) rfl k_) ?_
  obtain ⟨T3, h3, X3, e3, W3, st3⟩ := putF X2 hx hZ hown (host := "") (Or.inl (hw _ (List.mem_of_getElem? (i := 24) rfl))) Via.refl e2 F2_1 E2 (Or.inr ⟨(hw _ (List.mem_of_getElem? (i := 25) rfl)), rfl, hnm⟩) (hw _ (List.mem_of_getElem? (i := 6) rfl)) (ty := .int) (by decide) rfl rfl (g := (mkF m 11 #[.val (.ref a), .val (.ref ar), .val (.int of), .val (.int le)] [(.int of), (.ref a)])) rfl rfl (hb hby own_d2_11)
  have N3 := Fr.snoc X3 N2 g_a
  refine own_w (T' := T3) (g' := (mkF m 14 #[.val (.ref a), .val (.ref ar), .val (.int of), .val (.int le)] [])) st3 ?_
  have F3_0 := F2_0.other W3 (Or.inr (slot_ne (Or.inr (hw _ (List.mem_of_getElem? (i := 23) rfl))) (Or.inr (hw _ (List.mem_of_getElem? (i := 25) rfl))) (by decide) (t := (.array .byte)) (t' := .int) (by decide) (by decide)))
  have F3_1 := F2_1.same W3
  have F3_2 := F2_2.other W3 (Or.inr (slot_ne (Or.inr (hw _ (List.mem_of_getElem? (i := 27) rfl))) (Or.inr (hw _ (List.mem_of_getElem? (i := 25) rfl))) (by decide) (t := .int) (t' := .int) (by decide) (by decide)))
  have E3 := E2.wr W3
  have K3 := K2.wr W3 (Or.inl (List.mem_singleton.mpr rfl))
  refine own_w (T' := T3) (g' := (mkF m 15 #[.val (.ref a), .val (.ref ar), .val (.int of), .val (.int le)] [(.ref a)])) (fun _ k_ => XS.aloadN X3.here hx rfl (hb hby own_d2_14) rfl rfl k_) ?_
  refine own_w (T' := T3) (g' := (mkF m 16 #[.val (.ref a), .val (.ref ar), .val (.int of), .val (.int le)] [(.int le), (.ref a)])) (fun _ k_ => XS.iloadN X3.here hx rfl (hb hby own_d2_15) rfl k_) ?_
  obtain ⟨T4, h4, X4, e4, W4, st4⟩ := putF X3 hx hZ hown (host := "") (Or.inl (hw _ (List.mem_of_getElem? (i := 26) rfl))) Via.refl e3 F3_2 E3 (Or.inr ⟨(hw _ (List.mem_of_getElem? (i := 27) rfl)), rfl, hnm⟩) (hw _ (List.mem_of_getElem? (i := 6) rfl)) (ty := .int) (by decide) rfl rfl (g := (mkF m 16 #[.val (.ref a), .val (.ref ar), .val (.int of), .val (.int le)] [(.int le), (.ref a)])) rfl rfl (hb hby own_d2_16)
  have N4 := Fr.snoc X4 N3 g_a
  refine own_w (T' := T4) (g' := (mkF m 19 #[.val (.ref a), .val (.ref ar), .val (.int of), .val (.int le)] [])) st4 ?_
  have F4_0 := F3_0.other W4 (Or.inr (slot_ne (Or.inr (hw _ (List.mem_of_getElem? (i := 23) rfl))) (Or.inr (hw _ (List.mem_of_getElem? (i := 27) rfl))) (by decide) (t := (.array .byte)) (t' := .int) (by decide) (by decide)))
  have F4_1 := F3_1.other W4 (Or.inr (slot_ne (Or.inr (hw _ (List.mem_of_getElem? (i := 25) rfl))) (Or.inr (hw _ (List.mem_of_getElem? (i := 27) rfl))) (by decide) (t := .int) (t' := .int) (by decide) (by decide)))
  have F4_2 := F3_2.same W4
  have E4 := E3.wr W4
  have K4 := K3.wr W4 (Or.inl (List.mem_singleton.mpr rfl))
  obtain ⟨fs, hr, hrun, hended, hW, hsame⟩ := X4.leave (v := none) (fun _ => rfl)
  exact ⟨_, _, X4.returnOut hx Bd.returns (hb hby own_d2_19) hr, hrun, hended, _, _, rfl, (by show own_Q2 Z a ar of le u0 u1 u2 h0 n0 _ T4.heap _; rw [e4]; exact ⟨rfl, N4, K4, F4_0, F4_1, F4_2⟩), ⟨_, rfl⟩, hW, hsame.mono (by decide) (by decide)⟩
theorem own_d4_0 : decode method_3_code 0 = .ok (.aload_n 0, 1) := by decide +kernel
theorem own_d4_1 : decode method_3_code 1 = .ok (.arraylength, 1) := by decide +kernel
theorem own_d4_2 : decode method_3_code 2 = .ok (.iload_n 2, 1) := by decide +kernel
theorem own_d4_3 : decode method_3_code 3 = .ok (.if_icmp .eq 5, 3) := by decide +kernel
theorem own_d4_8 : decode method_3_code 8 = .ok (.iload_n 2, 1) := by decide +kernel
theorem own_d4_9 : decode method_3_code 9 = .ok (.ifCond .le 14, 3) := by decide +kernel
theorem own_d4_23 : decode method_3_code 23 = .ok (.iload_n 2, 1) := by decide +kernel
theorem own_d4_24 : decode method_3_code 24 = .ok (.iconst 1, 1) := by decide +kernel
theorem own_d4_25 : decode method_3_code 25 = .ok (.if_icmp .le 14, 3) := by decide +kernel
theorem own_d4_39 : decode method_3_code 39 = .ok (.iload_n 2, 1) := by decide +kernel
theorem own_d4_40 : decode method_3_code 40 = .ok (.iconst 2, 1) := by decide +kernel
theorem own_d4_41 : decode method_3_code 41 = .ok (.if_icmp .le 14, 3) := by decide +kernel
theorem own_d4_55 : decode method_3_code 55 = .ok (.iconst 1, 1) := by decide +kernel
theorem own_d4_56 : decode method_3_code 56 = .ok (.ireturn, 1) := by decide +kernel
theorem own_pn_com_example_adjacency_adjacency_wire_PrefixedBytesCopyOfPinLaw : plainName "com/example/adjacency/adjacency/wire/PrefixedBytesCopyOfPinLaw" = true := by first | (simp [plainName, overriddenIn]; done) | decide +kernel
theorem own_rm4_0_ef (m : MethodId) (ax : Addr) (ay : Addr) : entryFrame m #[(.ref ax), (.ref ay), (.int (0 : Int32))] 3 = mkF m 0 #[.val (.ref ax), .val (.ref ay), .val (.int (0 : Int32))] [] := by first | (simp [entryFrame, mkF, argsToLocals, Value.category]; done) | rfl
def own_Q4_0 (Z : State) (ax : Addr) (ay : Addr) (h0 : Heap) (n0 : Nat) (v_ : Option Value) (h : Heap) (L_ : List Loc) : Prop := v_ = some (.int (if (([] : List Int32) = ([] : List Int32)) then (1 : Int32) else 0)) ∧ Fr n0 L_ ∧ (h = h0)
set_option maxRecDepth 65536 in
set_option maxHeartbeats 40000000 in
theorem own_rm4_0 (l : Launch) (Z : State) (a0 : Array Value) (hw : ∀ d ∈ tables_1, d.before a0 Z = true) (ws : List Jvm.Cond) (ax : Addr) (ay : Addr) (h0 : Heap) (n0 : Nat) (Z0 : n0 ≤ h0.size) (Vx : own_Ar Z h0 ax .byte ([] : List Int32)) (Vy : own_Ar Z h0 ay .byte ([] : List Int32)) :
    MetFree l (⟨"com/example/adjacency/adjacency/wire/PrefixedBytesCopyOfPinLaw", "same", "([B[BI)Z"⟩ : MethodName) (head1 (Jvm.Cond.code (⟨"com/example/adjacency/adjacency/wire/PrefixedBytesCopyOfPinLaw", "same", "([B[BI)Z"⟩ : MethodName) method_3_code 3 (some .boolean) :: ws) ({ frames := 0, cells := 0, slots := 0, locals := 0 } : Room)) (fun a_ U_ => a_ = #[(.ref ax), (.ref ay), (.int (0 : Int32))] ∧ Z.Warmed39 U_.vm ∧ U_.heap = h0) (fun _ _ _ _ _ => True) (fun _ U_ o_ V_ => ∃ v_ L_, o_ = .returned v_ ∧ own_Q4_0 Z ax ay h0 n0 v_ V_.heap L_ ∧ FrameEnd U_ o_ V_ L_ ({ frames := 0, cells := 0, slots := 0, locals := 0 } : Room).cells ({ frames := 0, cells := 0, slots := 0, locals := 0 } : Room).slots) := by
  refine MetFree.of_bodySF (plainFor_of_name own_pn_com_example_adjacency_adjacency_wire_PrefixedBytesCopyOfPinLaw) hisR ?_
  intro p e s m args below meth c s₁ Bd hml0 hP hK
  obtain ⟨rfl, hZ, hh⟩ := hP
  have hx := Bd.exec
  have hby := Bd.bytes
  have hml : c.maxLocals = 3 := hml0
  have hown : s.vm.findClass "com/example/adjacency/adjacency/wire/PrefixedBytesCopyOfPinLaw" = some m.cls := findClass_of_methodNamed Bd.named
  have hnm := (name_of_methodNamed Bd.named Bd.method).1
  have X0 : Stand p l e ({ frames := 0, cells := 0, slots := 0, locals := 0 } : Room) s m #[(.ref ax), (.ref ay), (.int (0 : Int32))] below meth c s₁ [] 0 0 := Stand.of_body Bd
  have e0 : s₁.heap = h0 := by rw [← hh, Bd.state]; rfl
  have N0 := Fr.nil n0
  show own_G p e below s (own_Q4_0 Z ax ay h0 n0) ({ frames := 0, cells := 0, slots := 0, locals := 0 } : Room).cells ({ frames := 0, cells := 0, slots := 0, locals := 0 } : Room).slots s₁ (entryFrame m #[(.ref ax), (.ref ay), (.int (0 : Int32))] 3)
  rw [own_rm4_0_ef]
  refine own_w (T' := s₁) (g' := (mkF m 1 #[.val (.ref ax), .val (.ref ay), .val (.int (0 : Int32))] [(.ref ax)])) (fun _ k_ => XS.aloadN X0.here hx rfl (hb hby own_d4_0) rfl rfl k_) ?_
  obtain ⟨cl1, Ar1, hs1⟩ := id Vx
  have hl1 : cl1.slots.size.toInt32 = (0 : Int32) := by rw [hs1]; rfl
  refine own_w (T' := s₁) (g' := (mkF m 2 #[.val (.ref ax), .val (.ref ay), .val (.int (0 : Int32))] [(.int (0 : Int32))])) (fun t_ k_ => X0.arraylength hx (by rw [e0]; exact Ar1.1) (State.isArrayOf_alike hZ.alike Ar1.2.1) (g := (mkF m 1 #[.val (.ref ax), .val (.ref ay), .val (.int (0 : Int32))] [(.ref ax)])) rfl rfl (hb hby own_d4_1) t_ (by rw [hl1]; exact k_)) ?_
  refine own_w (T' := s₁) (g' := (mkF m 3 #[.val (.ref ax), .val (.ref ay), .val (.int (0 : Int32))] [(.int (0 : Int32)), (.int (0 : Int32))])) (fun _ k_ => XS.iloadN X0.here hx rfl (hb hby own_d4_2) rfl k_) ?_
  refine own_w (T' := s₁) (g' := (mkF m 8 #[.val (.ref ax), .val (.ref ay), .val (.int (0 : Int32))] [])) (fun _ k_ => XS.icmpYes X0.here hx rfl (pc0 := 3) (pc' := 8) rfl (hb hby own_d4_3) rfl (teq (by decide)).1 (by decide) (by decide) k_) ?_
  refine own_w (T' := s₁) (g' := (mkF m 9 #[.val (.ref ax), .val (.ref ay), .val (.int (0 : Int32))] [(.int (0 : Int32))])) (fun _ k_ => XS.iloadN X0.here hx rfl (hb hby own_d4_8) rfl k_) ?_
  refine own_w (T' := s₁) (g' := (mkF m 23 #[.val (.ref ax), .val (.ref ay), .val (.int (0 : Int32))] [])) (fun _ k_ => XS.ifYes X0.here hx rfl (pc0 := 9) (pc' := 23) rfl (hb hby own_d4_9) rfl ((if0 _ _).trans (flt (by decide)).2.2.2) (by decide) (by decide) k_) ?_
  refine own_w (T' := s₁) (g' := (mkF m 24 #[.val (.ref ax), .val (.ref ay), .val (.int (0 : Int32))] [(.int (0 : Int32))])) (fun _ k_ => XS.iloadN X0.here hx rfl (hb hby own_d4_23) rfl k_) ?_
  refine own_w (T' := s₁) (g' := (mkF m 25 #[.val (.ref ax), .val (.ref ay), .val (.int (0 : Int32))] [(.int (1 : Int32)), (.int (0 : Int32))])) (fun _ k_ => XS.iconst X0.here hx rfl (hb hby own_d4_24) k_) ?_
  refine own_w (T' := s₁) (g' := (mkF m 39 #[.val (.ref ax), .val (.ref ay), .val (.int (0 : Int32))] [])) (fun _ k_ => XS.icmpYes X0.here hx rfl (pc0 := 25) (pc' := 39) rfl (hb hby own_d4_25) rfl (flt (by decide)).2.2.2 (by decide) (by decide) k_) ?_
  refine own_w (T' := s₁) (g' := (mkF m 40 #[.val (.ref ax), .val (.ref ay), .val (.int (0 : Int32))] [(.int (0 : Int32))])) (fun _ k_ => XS.iloadN X0.here hx rfl (hb hby own_d4_39) rfl k_) ?_
  refine own_w (T' := s₁) (g' := (mkF m 41 #[.val (.ref ax), .val (.ref ay), .val (.int (0 : Int32))] [(.int (2 : Int32)), (.int (0 : Int32))])) (fun _ k_ => XS.iconst X0.here hx rfl (hb hby own_d4_40) k_) ?_
  refine own_w (T' := s₁) (g' := (mkF m 55 #[.val (.ref ax), .val (.ref ay), .val (.int (0 : Int32))] [])) (fun _ k_ => XS.icmpYes X0.here hx rfl (pc0 := 41) (pc' := 55) rfl (hb hby own_d4_41) rfl (flt (by decide)).2.2.2 (by decide) (by decide) k_) ?_
  refine own_w (T' := s₁) (g' := (mkF m 56 #[.val (.ref ax), .val (.ref ay), .val (.int (0 : Int32))] [(.int (1 : Int32))])) (fun _ k_ => XS.iconst X0.here hx rfl (hb hby own_d4_55) k_) ?_
  obtain ⟨fs, hr, hrun, hended, hW, hsame⟩ := X0.leave (v := some (.int (1 : Int32))) (fun h => by rw [Bd.returns] at h; cases h)
  exact ⟨_, _, retOut X0 hx Bd.returns rfl (Or.inl ⟨rfl, Or.inr (Or.inl rfl), _, rfl⟩) (hb hby own_d4_56) hr, hrun, hended, _, _, rfl, (by show own_Q4_0 Z ax ay h0 n0 _ s₁.heap _; rw [e0]; exact ⟨(by simp []), N0, rfl⟩), ⟨_, rfl⟩, hW, hsame.mono (by decide) (by decide)⟩
theorem own_d12_0 : decode jdk_48_method_14_code 0 = .ok (.iconst 0, 1) := by decide +kernel
theorem own_d12_1 : decode jdk_48_method_14_code 1 = .ok (.istore 5, 2) := by decide +kernel
theorem own_d12_3 : decode jdk_48_method_14_code 3 = .ok (.iload 4, 2) := by decide +kernel
theorem own_d12_5 : decode jdk_48_method_14_code 5 = .ok (.bipush 7, 2) := by decide +kernel
theorem own_d12_7 : decode jdk_48_method_14_code 7 = .ok (.if_icmp .le 63, 3) := by decide +kernel
theorem own_d12_70 : decode jdk_48_method_14_code 70 = .ok (.iload 5, 2) := by decide +kernel
theorem own_d12_72 : decode jdk_48_method_14_code 72 = .ok (.iload 4, 2) := by decide +kernel
theorem own_d12_74 : decode jdk_48_method_14_code 74 = .ok (.if_icmp .ge 27, 3) := by decide +kernel
theorem own_d12_101 : decode jdk_48_method_14_code 101 = .ok (.iconst (-1), 1) := by decide +kernel
theorem own_d12_102 : decode jdk_48_method_14_code 102 = .ok (.ireturn, 1) := by decide +kernel
theorem own_pn_jdk_internal_util_ArraysSupport : plainName "jdk/internal/util/ArraysSupport" = true := by first | (simp [plainName, overriddenIn]; done) | decide +kernel
theorem own_rm12_0_ef (m : MethodId) (ax : Addr) (ay : Addr) : entryFrame m #[(.ref ax), (.int (0 : Int32)), (.ref ay), (.int (0 : Int32)), (.int (0 : Int32))] 8 = mkF m 0 #[.val (.ref ax), .val (.int (0 : Int32)), .val (.ref ay), .val (.int (0 : Int32)), .val (.int (0 : Int32)), .unset, .unset, .unset] [] := by first | (simp [entryFrame, mkF, argsToLocals, Value.category]; done) | rfl
def own_Q12_0 (Z : State) (ax : Addr) (ay : Addr) (h0 : Heap) (n0 : Nat) (v_ : Option Value) (h : Heap) (L_ : List Loc) : Prop := v_ = some (.int (-1 : Int32)) ∧ Fr n0 L_ ∧ (h = h0)
set_option maxRecDepth 65536 in
set_option maxHeartbeats 40000000 in
theorem own_rm12_0 (l : Launch) (Z : State) (a0 : Array Value) (hw : ∀ d ∈ tables_1, d.before a0 Z = true) (ws : List Jvm.Cond) (ax : Addr) (ay : Addr) (h0 : Heap) (n0 : Nat) (Z0 : n0 ≤ h0.size) (Vx : own_Ar Z h0 ax .byte ([] : List Int32)) (Vy : own_Ar Z h0 ay .byte ([] : List Int32)) :
    MetFree l (⟨"jdk/internal/util/ArraysSupport", "mismatch", "([BI[BII)I"⟩ : MethodName) (head1 (Jvm.Cond.code (⟨"jdk/internal/util/ArraysSupport", "mismatch", "([BI[BII)I"⟩ : MethodName) jdk_48_method_14_code 8 (some .int) :: ws) ({ frames := 0, cells := 0, slots := 0, locals := 0 } : Room)) (fun a_ U_ => a_ = #[(.ref ax), (.int (0 : Int32)), (.ref ay), (.int (0 : Int32)), (.int (0 : Int32))] ∧ Z.Warmed39 U_.vm ∧ U_.heap = h0) (fun _ _ _ _ _ => True) (fun _ U_ o_ V_ => ∃ v_ L_, o_ = .returned v_ ∧ own_Q12_0 Z ax ay h0 n0 v_ V_.heap L_ ∧ FrameEnd U_ o_ V_ L_ ({ frames := 0, cells := 0, slots := 0, locals := 0 } : Room).cells ({ frames := 0, cells := 0, slots := 0, locals := 0 } : Room).slots) := by
  refine MetFree.of_bodySF (plainFor_of_name own_pn_jdk_internal_util_ArraysSupport) hisR ?_
  intro p e s m args below meth c s₁ Bd hml0 hP hK
  obtain ⟨rfl, hZ, hh⟩ := hP
  have hx := Bd.exec
  have hby := Bd.bytes
  have hml : c.maxLocals = 8 := hml0
  have hown : s.vm.findClass "jdk/internal/util/ArraysSupport" = some m.cls := findClass_of_methodNamed Bd.named
  have hnm := (name_of_methodNamed Bd.named Bd.method).1
  have X0 : Stand p l e ({ frames := 0, cells := 0, slots := 0, locals := 0 } : Room) s m #[(.ref ax), (.int (0 : Int32)), (.ref ay), (.int (0 : Int32)), (.int (0 : Int32))] below meth c s₁ [] 0 0 := Stand.of_body Bd
  have e0 : s₁.heap = h0 := by rw [← hh, Bd.state]; rfl
  have N0 := Fr.nil n0
  show own_G p e below s (own_Q12_0 Z ax ay h0 n0) ({ frames := 0, cells := 0, slots := 0, locals := 0 } : Room).cells ({ frames := 0, cells := 0, slots := 0, locals := 0 } : Room).slots s₁ (entryFrame m #[(.ref ax), (.int (0 : Int32)), (.ref ay), (.int (0 : Int32)), (.int (0 : Int32))] 8)
  rw [own_rm12_0_ef]
  refine own_w (T' := s₁) (g' := (mkF m 1 #[.val (.ref ax), .val (.int (0 : Int32)), .val (.ref ay), .val (.int (0 : Int32)), .val (.int (0 : Int32)), .unset, .unset, .unset] [(.int (0 : Int32))])) (fun _ k_ => XS.iconst X0.here hx rfl (hb hby own_d12_0) k_) ?_
  refine own_w (T' := s₁) (g' := (mkF m 3 #[.val (.ref ax), .val (.int (0 : Int32)), .val (.ref ay), .val (.int (0 : Int32)), .val (.int (0 : Int32)), .val (.int (0 : Int32)), .unset, .unset] [])) (fun _ k_ => XS.istore X0.here hx rfl (hb hby own_d12_1) rfl (l' := #[.val (.ref ax), .val (.int (0 : Int32)), .val (.ref ay), .val (.int (0 : Int32)), .val (.int (0 : Int32)), .val (.int (0 : Int32)), .unset, .unset]) rfl k_) ?_
  refine own_w (T' := s₁) (g' := (mkF m 5 #[.val (.ref ax), .val (.int (0 : Int32)), .val (.ref ay), .val (.int (0 : Int32)), .val (.int (0 : Int32)), .val (.int (0 : Int32)), .unset, .unset] [(.int (0 : Int32))])) (fun _ k_ => XS.iload X0.here hx rfl (hb hby own_d12_3) rfl k_) ?_
  refine own_w (T' := s₁) (g' := (mkF m 7 #[.val (.ref ax), .val (.int (0 : Int32)), .val (.ref ay), .val (.int (0 : Int32)), .val (.int (0 : Int32)), .val (.int (0 : Int32)), .unset, .unset] [(.int (7 : Int32)), (.int (0 : Int32))])) (fun _ k_ => XS.bipush X0.here hx rfl (hb hby own_d12_5) k_) ?_
  refine own_w (T' := s₁) (g' := (mkF m 70 #[.val (.ref ax), .val (.int (0 : Int32)), .val (.ref ay), .val (.int (0 : Int32)), .val (.int (0 : Int32)), .val (.int (0 : Int32)), .unset, .unset] [])) (fun _ k_ => XS.icmpYes X0.here hx rfl (pc0 := 7) (pc' := 70) rfl (hb hby own_d12_7) rfl (flt (by decide)).2.2.2 (by decide) (by decide) k_) ?_
  refine own_w (T' := s₁) (g' := (mkF m 72 #[.val (.ref ax), .val (.int (0 : Int32)), .val (.ref ay), .val (.int (0 : Int32)), .val (.int (0 : Int32)), .val (.int (0 : Int32)), .unset, .unset] [(.int (0 : Int32))])) (fun _ k_ => XS.iload X0.here hx rfl (hb hby own_d12_70) rfl k_) ?_
  refine own_w (T' := s₁) (g' := (mkF m 74 #[.val (.ref ax), .val (.int (0 : Int32)), .val (.ref ay), .val (.int (0 : Int32)), .val (.int (0 : Int32)), .val (.int (0 : Int32)), .unset, .unset] [(.int (0 : Int32)), (.int (0 : Int32))])) (fun _ k_ => XS.iload X0.here hx rfl (hb hby own_d12_72) rfl k_) ?_
  refine own_w (T' := s₁) (g' := (mkF m 101 #[.val (.ref ax), .val (.int (0 : Int32)), .val (.ref ay), .val (.int (0 : Int32)), .val (.int (0 : Int32)), .val (.int (0 : Int32)), .unset, .unset] [])) (fun _ k_ => XS.icmpYes X0.here hx rfl (pc0 := 74) (pc' := 101) rfl (hb hby own_d12_74) rfl (flt (by decide)).2.1 (by decide) (by decide) k_) ?_
  refine own_w (T' := s₁) (g' := (mkF m 102 #[.val (.ref ax), .val (.int (0 : Int32)), .val (.ref ay), .val (.int (0 : Int32)), .val (.int (0 : Int32)), .val (.int (0 : Int32)), .unset, .unset] [(.int (-1 : Int32))])) (fun _ k_ => XS.iconst X0.here hx rfl (hb hby own_d12_101) k_) ?_
  obtain ⟨fs, hr, hrun, hended, hW, hsame⟩ := X0.leave (v := some (.int (-1 : Int32))) (fun h => by rw [Bd.returns] at h; cases h)
  exact ⟨_, _, retOut X0 hx Bd.returns rfl (Or.inl ⟨rfl, Or.inl rfl, _, rfl⟩) (hb hby own_d12_102) hr, hrun, hended, _, _, rfl, (by show own_Q12_0 Z ax ay h0 n0 _ s₁.heap _; rw [e0]; exact ⟨(by simp []), N0, rfl⟩), ⟨_, rfl⟩, hW, hsame.mono (by decide) (by decide)⟩
theorem own_mm0  : (-1 : Int32) < (0 : Int32) ↔ (([] : List Int32) = ([] : List Int32)) := by
  (repeat' split) <;> simp_all <;> decide
theorem own_d11_0 : decode jdk_65_method_30_code 0 = .ok (.iload_n 1, 1) := by decide +kernel
theorem own_d11_1 : decode jdk_65_method_30_code 1 = .ok (.iload_n 2, 1) := by decide +kernel
theorem own_d11_2 : decode jdk_65_method_30_code 2 = .ok (.if_icmp .le 44, 3) := by decide +kernel
theorem own_d11_46 : decode jdk_65_method_30_code 46 = .ok (.iload_n 1, 1) := by decide +kernel
theorem own_d11_47 : decode jdk_65_method_30_code 47 = .ok (.ifCond .ge 12, 3) := by decide +kernel
theorem own_d11_59 : decode jdk_65_method_30_code 59 = .ok (.iload_n 2, 1) := by decide +kernel
theorem own_d11_60 : decode jdk_65_method_30_code 60 = .ok (.iload_n 0, 1) := by decide +kernel
theorem own_d11_61 : decode jdk_65_method_30_code 61 = .ok (.if_icmp .le 12, 3) := by decide +kernel
theorem own_d11_73 : decode jdk_65_method_30_code 73 = .ok (.return_, 1) := by decide +kernel
theorem own_pn_java_util_Arrays : plainName "java/util/Arrays" = true := by first | (simp [plainName, overriddenIn]; done) | decide +kernel
theorem own_rm11_0_ef (m : MethodId)  : entryFrame m #[(.int (0 : Int32)), (.int (0 : Int32)), (.int (0 : Int32))] 3 = mkF m 0 #[.val (.int (0 : Int32)), .val (.int (0 : Int32)), .val (.int (0 : Int32))] [] := by first | (simp [entryFrame, mkF, argsToLocals, Value.category]; done) | rfl
def own_Q11_0 (Z : State)  (h0 : Heap) (n0 : Nat) (v_ : Option Value) (h : Heap) (L_ : List Loc) : Prop := v_ = none ∧ Fr n0 L_ ∧ (h = h0)
set_option maxRecDepth 65536 in
set_option maxHeartbeats 40000000 in
theorem own_rm11_0 (l : Launch) (Z : State) (a0 : Array Value) (hw : ∀ d ∈ tables_1, d.before a0 Z = true) (ws : List Jvm.Cond)  (h0 : Heap) (n0 : Nat) (Z0 : n0 ≤ h0.size)  :
    MetFree l (⟨"java/util/Arrays", "rangeCheck", "(III)V"⟩ : MethodName) (head1 (Jvm.Cond.code (⟨"java/util/Arrays", "rangeCheck", "(III)V"⟩ : MethodName) jdk_65_method_30_code 3 none :: ws) ({ frames := 0, cells := 0, slots := 0, locals := 0 } : Room)) (fun a_ U_ => a_ = #[(.int (0 : Int32)), (.int (0 : Int32)), (.int (0 : Int32))] ∧ Z.Warmed39 U_.vm ∧ U_.heap = h0) (fun _ _ _ _ _ => True) (fun _ U_ o_ V_ => ∃ v_ L_, o_ = .returned v_ ∧ own_Q11_0 Z  h0 n0 v_ V_.heap L_ ∧ FrameEnd U_ o_ V_ L_ ({ frames := 0, cells := 0, slots := 0, locals := 0 } : Room).cells ({ frames := 0, cells := 0, slots := 0, locals := 0 } : Room).slots) := by
  refine MetFree.of_bodySF (plainFor_of_name own_pn_java_util_Arrays) hisR ?_
  intro p e s m args below meth c s₁ Bd hml0 hP hK
  obtain ⟨rfl, hZ, hh⟩ := hP
  have hx := Bd.exec
  have hby := Bd.bytes
  have hml : c.maxLocals = 3 := hml0
  have hown : s.vm.findClass "java/util/Arrays" = some m.cls := findClass_of_methodNamed Bd.named
  have hnm := (name_of_methodNamed Bd.named Bd.method).1
  have X0 : Stand p l e ({ frames := 0, cells := 0, slots := 0, locals := 0 } : Room) s m #[(.int (0 : Int32)), (.int (0 : Int32)), (.int (0 : Int32))] below meth c s₁ [] 0 0 := Stand.of_body Bd
  have e0 : s₁.heap = h0 := by rw [← hh, Bd.state]; rfl
  have N0 := Fr.nil n0
  show own_G p e below s (own_Q11_0 Z  h0 n0) ({ frames := 0, cells := 0, slots := 0, locals := 0 } : Room).cells ({ frames := 0, cells := 0, slots := 0, locals := 0 } : Room).slots s₁ (entryFrame m #[(.int (0 : Int32)), (.int (0 : Int32)), (.int (0 : Int32))] 3)
  rw [own_rm11_0_ef]
  refine own_w (T' := s₁) (g' := (mkF m 1 #[.val (.int (0 : Int32)), .val (.int (0 : Int32)), .val (.int (0 : Int32))] [(.int (0 : Int32))])) (fun _ k_ => XS.iloadN X0.here hx rfl (hb hby own_d11_0) rfl k_) ?_
  refine own_w (T' := s₁) (g' := (mkF m 2 #[.val (.int (0 : Int32)), .val (.int (0 : Int32)), .val (.int (0 : Int32))] [(.int (0 : Int32)), (.int (0 : Int32))])) (fun _ k_ => XS.iloadN X0.here hx rfl (hb hby own_d11_1) rfl k_) ?_
  refine own_w (T' := s₁) (g' := (mkF m 46 #[.val (.int (0 : Int32)), .val (.int (0 : Int32)), .val (.int (0 : Int32))] [])) (fun _ k_ => XS.icmpYes X0.here hx rfl (pc0 := 2) (pc' := 46) rfl (hb hby own_d11_2) rfl (flt (by decide)).2.2.2 (by decide) (by decide) k_) ?_
  refine own_w (T' := s₁) (g' := (mkF m 47 #[.val (.int (0 : Int32)), .val (.int (0 : Int32)), .val (.int (0 : Int32))] [(.int (0 : Int32))])) (fun _ k_ => XS.iloadN X0.here hx rfl (hb hby own_d11_46) rfl k_) ?_
  refine own_w (T' := s₁) (g' := (mkF m 59 #[.val (.int (0 : Int32)), .val (.int (0 : Int32)), .val (.int (0 : Int32))] [])) (fun _ k_ => XS.ifYes X0.here hx rfl (pc0 := 47) (pc' := 59) rfl (hb hby own_d11_47) rfl ((if0 _ _).trans (flt (by decide)).2.1) (by decide) (by decide) k_) ?_
  refine own_w (T' := s₁) (g' := (mkF m 60 #[.val (.int (0 : Int32)), .val (.int (0 : Int32)), .val (.int (0 : Int32))] [(.int (0 : Int32))])) (fun _ k_ => XS.iloadN X0.here hx rfl (hb hby own_d11_59) rfl k_) ?_
  refine own_w (T' := s₁) (g' := (mkF m 61 #[.val (.int (0 : Int32)), .val (.int (0 : Int32)), .val (.int (0 : Int32))] [(.int (0 : Int32)), (.int (0 : Int32))])) (fun _ k_ => XS.iloadN X0.here hx rfl (hb hby own_d11_60) rfl k_) ?_
  refine own_w (T' := s₁) (g' := (mkF m 73 #[.val (.int (0 : Int32)), .val (.int (0 : Int32)), .val (.int (0 : Int32))] [])) (fun _ k_ => XS.icmpYes X0.here hx rfl (pc0 := 61) (pc' := 73) rfl (hb hby own_d11_61) rfl (flt (by decide)).2.2.2 (by decide) (by decide) k_) ?_
  obtain ⟨fs, hr, hrun, hended, hW, hsame⟩ := X0.leave (v := none) (fun _ => rfl)
  exact ⟨_, _, X0.returnOut hx Bd.returns (hb hby own_d11_73) hr, hrun, hended, _, _, rfl, (by show own_Q11_0 Z  h0 n0 _ s₁.heap _; rw [e0]; exact ⟨rfl, N0, rfl⟩), ⟨_, rfl⟩, hW, hsame.mono (by decide) (by decide)⟩
theorem own_d10_0 : decode jdk_65_method_90_code 0 = .ok (.aload_n 0, 1) := by decide +kernel
theorem own_d10_1 : decode jdk_65_method_90_code 1 = .ok (.arraylength, 1) := by decide +kernel
theorem own_d10_2 : decode jdk_65_method_90_code 2 = .ok (.iload_n 1, 1) := by decide +kernel
theorem own_d10_3 : decode jdk_65_method_90_code 3 = .ok (.iload_n 2, 1) := by decide +kernel
theorem own_d10_4 : decode jdk_65_method_90_code 4 = .ok (.invokestatic 13, 3) := by decide +kernel
theorem own_pd0 : parseMethodDescriptor "(III)V" = some ⟨[.int, .int, .int], none⟩ := by decide +kernel
theorem own_d10_7 : decode jdk_65_method_90_code 7 = .ok (.aload_n 3, 1) := by decide +kernel
theorem own_d10_8 : decode jdk_65_method_90_code 8 = .ok (.arraylength, 1) := by decide +kernel
theorem own_d10_9 : decode jdk_65_method_90_code 9 = .ok (.iload 4, 2) := by decide +kernel
theorem own_d10_11 : decode jdk_65_method_90_code 11 = .ok (.iload 5, 2) := by decide +kernel
theorem own_d10_13 : decode jdk_65_method_90_code 13 = .ok (.invokestatic 13, 3) := by decide +kernel
theorem own_d10_16 : decode jdk_65_method_90_code 16 = .ok (.iload_n 2, 1) := by decide +kernel
theorem own_d10_17 : decode jdk_65_method_90_code 17 = .ok (.iload_n 1, 1) := by decide +kernel
theorem own_d10_18 : decode jdk_65_method_90_code 18 = .ok (.isub, 1) := by decide +kernel
theorem own_d10_19 : decode jdk_65_method_90_code 19 = .ok (.istore 6, 2) := by decide +kernel
theorem own_d10_21 : decode jdk_65_method_90_code 21 = .ok (.iload 5, 2) := by decide +kernel
theorem own_d10_23 : decode jdk_65_method_90_code 23 = .ok (.iload 4, 2) := by decide +kernel
theorem own_d10_25 : decode jdk_65_method_90_code 25 = .ok (.isub, 1) := by decide +kernel
theorem own_d10_26 : decode jdk_65_method_90_code 26 = .ok (.istore 7, 2) := by decide +kernel
theorem own_d10_28 : decode jdk_65_method_90_code 28 = .ok (.iload 6, 2) := by decide +kernel
theorem own_d10_30 : decode jdk_65_method_90_code 30 = .ok (.iload 7, 2) := by decide +kernel
theorem own_d10_32 : decode jdk_65_method_90_code 32 = .ok (.if_icmp .eq 5, 3) := by decide +kernel
theorem own_d10_37 : decode jdk_65_method_90_code 37 = .ok (.aload_n 0, 1) := by decide +kernel
theorem own_d10_38 : decode jdk_65_method_90_code 38 = .ok (.iload_n 1, 1) := by decide +kernel
theorem own_d10_39 : decode jdk_65_method_90_code 39 = .ok (.aload_n 3, 1) := by decide +kernel
theorem own_d10_40 : decode jdk_65_method_90_code 40 = .ok (.iload 4, 2) := by decide +kernel
theorem own_d10_42 : decode jdk_65_method_90_code 42 = .ok (.iload 6, 2) := by decide +kernel
theorem own_d10_44 : decode jdk_65_method_90_code 44 = .ok (.invokestatic 275, 3) := by decide +kernel
theorem own_pd1 : parseMethodDescriptor "([BI[BII)I" = some ⟨[(.array .byte), .int, (.array .byte), .int, .int], some .int⟩ := by decide +kernel
theorem own_d10_47 : decode jdk_65_method_90_code 47 = .ok (.ifCond .ge 7, 3) := by decide +kernel
theorem own_d10_50 : decode jdk_65_method_90_code 50 = .ok (.iconst 1, 1) := by decide +kernel
theorem own_d10_51 : decode jdk_65_method_90_code 51 = .ok (.goto 4, 3) := by decide +kernel
theorem own_d10_55 : decode jdk_65_method_90_code 55 = .ok (.ireturn, 1) := by decide +kernel
theorem own_d10_54 : decode jdk_65_method_90_code 54 = .ok (.iconst 0, 1) := by decide +kernel
theorem own_rm10_0_ef (m : MethodId) (ax : Addr) (ay : Addr) : entryFrame m #[(.ref ax), (.int (0 : Int32)), (.int (0 : Int32)), (.ref ay), (.int (0 : Int32)), (.int (0 : Int32))] 8 = mkF m 0 #[.val (.ref ax), .val (.int (0 : Int32)), .val (.int (0 : Int32)), .val (.ref ay), .val (.int (0 : Int32)), .val (.int (0 : Int32)), .unset, .unset] [] := by first | (simp [entryFrame, mkF, argsToLocals, Value.category]; done) | rfl
def own_Q10_0 (Z : State) (ax : Addr) (ay : Addr) (h0 : Heap) (n0 : Nat) (v_ : Option Value) (h : Heap) (L_ : List Loc) : Prop := v_ = some (.int (if (([] : List Int32) = ([] : List Int32)) then (1 : Int32) else 0)) ∧ Fr n0 L_ ∧ (h = h0)
set_option maxRecDepth 65536 in
set_option maxHeartbeats 40000000 in
theorem own_rm10_0 (l : Launch) (Z : State) (a0 : Array Value) (hw : ∀ d ∈ tables_1, d.before a0 Z = true) (ws : List Jvm.Cond) (ax : Addr) (ay : Addr) (h0 : Heap) (n0 : Nat) (Z0 : n0 ≤ h0.size) (Vx : own_Ar Z h0 ax .byte ([] : List Int32)) (Vy : own_Ar Z h0 ay .byte ([] : List Int32)) :
    MetFree l (⟨"java/util/Arrays", "equals", "([BII[BII)Z"⟩ : MethodName) (head1 (Jvm.Cond.code (⟨"java/util/Arrays", "equals", "([BII[BII)Z"⟩ : MethodName) jdk_65_method_90_code 8 (some .boolean) :: ws) ({ frames := 1, cells := 0, slots := 0, locals := 19 } : Room)) (fun a_ U_ => a_ = #[(.ref ax), (.int (0 : Int32)), (.int (0 : Int32)), (.ref ay), (.int (0 : Int32)), (.int (0 : Int32))] ∧ Z.Warmed39 U_.vm ∧ U_.heap = h0) (fun _ _ _ _ _ => True) (fun _ U_ o_ V_ => ∃ v_ L_, o_ = .returned v_ ∧ own_Q10_0 Z ax ay h0 n0 v_ V_.heap L_ ∧ FrameEnd U_ o_ V_ L_ ({ frames := 1, cells := 0, slots := 0, locals := 19 } : Room).cells ({ frames := 1, cells := 0, slots := 0, locals := 19 } : Room).slots) := by
  refine MetFree.of_bodySF (plainFor_of_name own_pn_java_util_Arrays) hisR ?_
  intro p e s m args below meth c s₁ Bd hml0 hP hK
  obtain ⟨rfl, hZ, hh⟩ := hP
  have hx := Bd.exec
  have hby := Bd.bytes
  have hml : c.maxLocals = 8 := hml0
  have hown : s.vm.findClass "java/util/Arrays" = some m.cls := findClass_of_methodNamed Bd.named
  have hnm := (name_of_methodNamed Bd.named Bd.method).1
  have X0 : Stand p l e ({ frames := 1, cells := 0, slots := 0, locals := 19 } : Room) s m #[(.ref ax), (.int (0 : Int32)), (.int (0 : Int32)), (.ref ay), (.int (0 : Int32)), (.int (0 : Int32))] below meth c s₁ [] 0 0 := Stand.of_body Bd
  have e0 : s₁.heap = h0 := by rw [← hh, Bd.state]; rfl
  have N0 := Fr.nil n0
  show own_G p e below s (own_Q10_0 Z ax ay h0 n0) ({ frames := 1, cells := 0, slots := 0, locals := 19 } : Room).cells ({ frames := 1, cells := 0, slots := 0, locals := 19 } : Room).slots s₁ (entryFrame m #[(.ref ax), (.int (0 : Int32)), (.int (0 : Int32)), (.ref ay), (.int (0 : Int32)), (.int (0 : Int32))] 8)
  rw [own_rm10_0_ef]
  refine own_w (T' := s₁) (g' := (mkF m 1 #[.val (.ref ax), .val (.int (0 : Int32)), .val (.int (0 : Int32)), .val (.ref ay), .val (.int (0 : Int32)), .val (.int (0 : Int32)), .unset, .unset] [(.ref ax)])) (fun _ k_ => XS.aloadN X0.here hx rfl (hb hby own_d10_0) rfl rfl k_) ?_
  obtain ⟨cl1, Ar1, hs1⟩ := id Vx
  have hl1 : cl1.slots.size.toInt32 = (0 : Int32) := by rw [hs1]; rfl
  refine own_w (T' := s₁) (g' := (mkF m 2 #[.val (.ref ax), .val (.int (0 : Int32)), .val (.int (0 : Int32)), .val (.ref ay), .val (.int (0 : Int32)), .val (.int (0 : Int32)), .unset, .unset] [(.int (0 : Int32))])) (fun t_ k_ => X0.arraylength hx (by rw [e0]; exact Ar1.1) (State.isArrayOf_alike hZ.alike Ar1.2.1) (g := (mkF m 1 #[.val (.ref ax), .val (.int (0 : Int32)), .val (.int (0 : Int32)), .val (.ref ay), .val (.int (0 : Int32)), .val (.int (0 : Int32)), .unset, .unset] [(.ref ax)])) rfl rfl (hb hby own_d10_1) t_ (by rw [hl1]; exact k_)) ?_
  refine own_w (T' := s₁) (g' := (mkF m 3 #[.val (.ref ax), .val (.int (0 : Int32)), .val (.int (0 : Int32)), .val (.ref ay), .val (.int (0 : Int32)), .val (.int (0 : Int32)), .unset, .unset] [(.int (0 : Int32)), (.int (0 : Int32))])) (fun _ k_ => XS.iloadN X0.here hx rfl (hb hby own_d10_2) rfl k_) ?_
  refine own_w (T' := s₁) (g' := (mkF m 4 #[.val (.ref ax), .val (.int (0 : Int32)), .val (.int (0 : Int32)), .val (.ref ay), .val (.int (0 : Int32)), .val (.int (0 : Int32)), .unset, .unset] [(.int (0 : Int32)), (.int (0 : Int32)), (.int (0 : Int32))])) (fun _ k_ => XS.iloadN X0.here hx rfl (hb hby own_d10_3) rfl k_) ?_
  obtain ⟨_, _, ⟨T2, L2, k2, n2⟩, -, X2, ⟨Lc2, hQ2, l2, y2, z2⟩, st2⟩ := Jvm.LawKit.callS X0 hx (y := (⟨"java/util/Arrays", "rangeCheck", "(III)V"⟩ : MethodName)) hown (mvT hZ (hw _ (List.mem_of_getElem? (i := 61) rfl))) (mvT hZ (hw _ (List.mem_of_getElem? (i := 62) rfl))) (mvT hZ (hw _ (List.mem_of_getElem? (i := 49) rfl))) (mvT hZ (hw _ (List.mem_of_getElem? (i := 63) rfl))) (by decide) (backOf (W := 0) (own_rm11_0 l Z a0 hw []   h0 n0 Z0 ) hZ (hw _ (List.mem_of_getElem? (i := 63) rfl)) (hw _ (List.mem_of_getElem? (i := 49) rfl)) (by decide) (by decide)) (g := (mkF m 4 #[.val (.ref ax), .val (.int (0 : Int32)), .val (.int (0 : Int32)), .val (.ref ay), .val (.int (0 : Int32)), .val (.int (0 : Int32)), .unset, .unset] [(.int (0 : Int32)), (.int (0 : Int32)), (.int (0 : Int32))])) rfl (by rw [hml]; rfl) (argsL := [(.int (0 : Int32)), (.int (0 : Int32)), (.int (0 : Int32))]) (rest := []) (lenOf own_pd0 rfl) rfl (by show 2 * 0 + _ ≤ _; exact Nat.le_of_eq rfl) (hb hby own_d10_4) (fun _ _ => ⟨rfl, e0, (by decide : 0 + 0 ≤ _), (by decide : 0 + 0 ≤ _)⟩)
  dsimp only [Pt.U, Pt.locs, Pt.cells, Pt.slots] at X2 l2 y2 z2 st2 hQ2
  subst l2 y2 z2
  obtain ⟨rfl, N2q, e2⟩ := hQ2
  have N2 := Fr.app N0 N2q
  refine own_w (T' := T2) (g' := (mkF m 7 #[.val (.ref ax), .val (.int (0 : Int32)), .val (.int (0 : Int32)), .val (.ref ay), .val (.int (0 : Int32)), .val (.int (0 : Int32)), .unset, .unset] [])) st2 ?_
  refine own_w (T' := T2) (g' := (mkF m 8 #[.val (.ref ax), .val (.int (0 : Int32)), .val (.int (0 : Int32)), .val (.ref ay), .val (.int (0 : Int32)), .val (.int (0 : Int32)), .unset, .unset] [(.ref ay)])) (fun _ k_ => XS.aloadN X2.here hx rfl (hb hby own_d10_7) rfl rfl k_) ?_
  obtain ⟨cl3, Ar3, hs3⟩ := id Vy
  have hl3 : cl3.slots.size.toInt32 = (0 : Int32) := by rw [hs3]; rfl
  refine own_w (T' := T2) (g' := (mkF m 9 #[.val (.ref ax), .val (.int (0 : Int32)), .val (.int (0 : Int32)), .val (.ref ay), .val (.int (0 : Int32)), .val (.int (0 : Int32)), .unset, .unset] [(.int (0 : Int32))])) (fun t_ k_ => X2.arraylength hx (by rw [e2]; exact Ar3.1) (State.isArrayOf_alike hZ.alike Ar3.2.1) (g := (mkF m 8 #[.val (.ref ax), .val (.int (0 : Int32)), .val (.int (0 : Int32)), .val (.ref ay), .val (.int (0 : Int32)), .val (.int (0 : Int32)), .unset, .unset] [(.ref ay)])) rfl rfl (hb hby own_d10_8) t_ (by rw [hl3]; exact k_)) ?_
  refine own_w (T' := T2) (g' := (mkF m 11 #[.val (.ref ax), .val (.int (0 : Int32)), .val (.int (0 : Int32)), .val (.ref ay), .val (.int (0 : Int32)), .val (.int (0 : Int32)), .unset, .unset] [(.int (0 : Int32)), (.int (0 : Int32))])) (fun _ k_ => XS.iload X2.here hx rfl (hb hby own_d10_9) rfl k_) ?_
  refine own_w (T' := T2) (g' := (mkF m 13 #[.val (.ref ax), .val (.int (0 : Int32)), .val (.int (0 : Int32)), .val (.ref ay), .val (.int (0 : Int32)), .val (.int (0 : Int32)), .unset, .unset] [(.int (0 : Int32)), (.int (0 : Int32)), (.int (0 : Int32))])) (fun _ k_ => XS.iload X2.here hx rfl (hb hby own_d10_11) rfl k_) ?_
  obtain ⟨_, _, ⟨T4, L4, k4, n4⟩, -, X4, ⟨Lc4, hQ4, l4, y4, z4⟩, st4⟩ := Jvm.LawKit.callS X2 hx (y := (⟨"java/util/Arrays", "rangeCheck", "(III)V"⟩ : MethodName)) hown (mvT hZ (hw _ (List.mem_of_getElem? (i := 61) rfl))) (mvT hZ (hw _ (List.mem_of_getElem? (i := 62) rfl))) (mvT hZ (hw _ (List.mem_of_getElem? (i := 49) rfl))) (mvT hZ (hw _ (List.mem_of_getElem? (i := 63) rfl))) (by decide) (backOf (W := 0) (own_rm11_0 l Z a0 hw []   h0 n0 Z0 ) hZ (hw _ (List.mem_of_getElem? (i := 63) rfl)) (hw _ (List.mem_of_getElem? (i := 49) rfl)) (by decide) (by decide)) (g := (mkF m 13 #[.val (.ref ax), .val (.int (0 : Int32)), .val (.int (0 : Int32)), .val (.ref ay), .val (.int (0 : Int32)), .val (.int (0 : Int32)), .unset, .unset] [(.int (0 : Int32)), (.int (0 : Int32)), (.int (0 : Int32))])) rfl (by rw [hml]; rfl) (argsL := [(.int (0 : Int32)), (.int (0 : Int32)), (.int (0 : Int32))]) (rest := []) (lenOf own_pd0 rfl) rfl (by show 2 * 0 + _ ≤ _; exact Nat.le_of_eq rfl) (hb hby own_d10_13) (fun _ _ => ⟨rfl, e2, (by decide : 0 + 0 ≤ _), (by decide : 0 + 0 ≤ _)⟩)
  dsimp only [Pt.U, Pt.locs, Pt.cells, Pt.slots] at X4 l4 y4 z4 st4 hQ4
  subst l4 y4 z4
  obtain ⟨rfl, N4q, e4⟩ := hQ4
  have N4 := Fr.app N2 N4q
  refine own_w (T' := T4) (g' := (mkF m 16 #[.val (.ref ax), .val (.int (0 : Int32)), .val (.int (0 : Int32)), .val (.ref ay), .val (.int (0 : Int32)), .val (.int (0 : Int32)), .unset, .unset] [])) st4 ?_
  refine own_w (T' := T4) (g' := (mkF m 17 #[.val (.ref ax), .val (.int (0 : Int32)), .val (.int (0 : Int32)), .val (.ref ay), .val (.int (0 : Int32)), .val (.int (0 : Int32)), .unset, .unset] [(.int (0 : Int32))])) (fun _ k_ => XS.iloadN X4.here hx rfl (hb hby own_d10_16) rfl k_) ?_
  refine own_w (T' := T4) (g' := (mkF m 18 #[.val (.ref ax), .val (.int (0 : Int32)), .val (.int (0 : Int32)), .val (.ref ay), .val (.int (0 : Int32)), .val (.int (0 : Int32)), .unset, .unset] [(.int (0 : Int32)), (.int (0 : Int32))])) (fun _ k_ => XS.iloadN X4.here hx rfl (hb hby own_d10_17) rfl k_) ?_
  refine own_w (T' := T4) (g' := (mkF m 19 #[.val (.ref ax), .val (.int (0 : Int32)), .val (.int (0 : Int32)), .val (.ref ay), .val (.int (0 : Int32)), .val (.int (0 : Int32)), .unset, .unset] [(.int (0 : Int32))])) (fun _ k_ => XS.isub X4.here hx rfl (hb hby own_d10_18) rfl k_) ?_
  refine own_w (T' := T4) (g' := (mkF m 21 #[.val (.ref ax), .val (.int (0 : Int32)), .val (.int (0 : Int32)), .val (.ref ay), .val (.int (0 : Int32)), .val (.int (0 : Int32)), .val (.int (0 : Int32)), .unset] [])) (fun _ k_ => XS.istore X4.here hx rfl (hb hby own_d10_19) rfl (l' := #[.val (.ref ax), .val (.int (0 : Int32)), .val (.int (0 : Int32)), .val (.ref ay), .val (.int (0 : Int32)), .val (.int (0 : Int32)), .val (.int (0 : Int32)), .unset]) rfl k_) ?_
  refine own_w (T' := T4) (g' := (mkF m 23 #[.val (.ref ax), .val (.int (0 : Int32)), .val (.int (0 : Int32)), .val (.ref ay), .val (.int (0 : Int32)), .val (.int (0 : Int32)), .val (.int (0 : Int32)), .unset] [(.int (0 : Int32))])) (fun _ k_ => XS.iload X4.here hx rfl (hb hby own_d10_21) rfl k_) ?_
  refine own_w (T' := T4) (g' := (mkF m 25 #[.val (.ref ax), .val (.int (0 : Int32)), .val (.int (0 : Int32)), .val (.ref ay), .val (.int (0 : Int32)), .val (.int (0 : Int32)), .val (.int (0 : Int32)), .unset] [(.int (0 : Int32)), (.int (0 : Int32))])) (fun _ k_ => XS.iload X4.here hx rfl (hb hby own_d10_23) rfl k_) ?_
  refine own_w (T' := T4) (g' := (mkF m 26 #[.val (.ref ax), .val (.int (0 : Int32)), .val (.int (0 : Int32)), .val (.ref ay), .val (.int (0 : Int32)), .val (.int (0 : Int32)), .val (.int (0 : Int32)), .unset] [(.int (0 : Int32))])) (fun _ k_ => XS.isub X4.here hx rfl (hb hby own_d10_25) rfl k_) ?_
  refine own_w (T' := T4) (g' := (mkF m 28 #[.val (.ref ax), .val (.int (0 : Int32)), .val (.int (0 : Int32)), .val (.ref ay), .val (.int (0 : Int32)), .val (.int (0 : Int32)), .val (.int (0 : Int32)), .val (.int (0 : Int32))] [])) (fun _ k_ => XS.istore X4.here hx rfl (hb hby own_d10_26) rfl (l' := #[.val (.ref ax), .val (.int (0 : Int32)), .val (.int (0 : Int32)), .val (.ref ay), .val (.int (0 : Int32)), .val (.int (0 : Int32)), .val (.int (0 : Int32)), .val (.int (0 : Int32))]) rfl k_) ?_
  refine own_w (T' := T4) (g' := (mkF m 30 #[.val (.ref ax), .val (.int (0 : Int32)), .val (.int (0 : Int32)), .val (.ref ay), .val (.int (0 : Int32)), .val (.int (0 : Int32)), .val (.int (0 : Int32)), .val (.int (0 : Int32))] [(.int (0 : Int32))])) (fun _ k_ => XS.iload X4.here hx rfl (hb hby own_d10_28) rfl k_) ?_
  refine own_w (T' := T4) (g' := (mkF m 32 #[.val (.ref ax), .val (.int (0 : Int32)), .val (.int (0 : Int32)), .val (.ref ay), .val (.int (0 : Int32)), .val (.int (0 : Int32)), .val (.int (0 : Int32)), .val (.int (0 : Int32))] [(.int (0 : Int32)), (.int (0 : Int32))])) (fun _ k_ => XS.iload X4.here hx rfl (hb hby own_d10_30) rfl k_) ?_
  refine own_w (T' := T4) (g' := (mkF m 37 #[.val (.ref ax), .val (.int (0 : Int32)), .val (.int (0 : Int32)), .val (.ref ay), .val (.int (0 : Int32)), .val (.int (0 : Int32)), .val (.int (0 : Int32)), .val (.int (0 : Int32))] [])) (fun _ k_ => XS.icmpYes X4.here hx rfl (pc0 := 32) (pc' := 37) rfl (hb hby own_d10_32) rfl (teq rfl).1 (by decide) (by decide) k_) ?_
  refine own_w (T' := T4) (g' := (mkF m 38 #[.val (.ref ax), .val (.int (0 : Int32)), .val (.int (0 : Int32)), .val (.ref ay), .val (.int (0 : Int32)), .val (.int (0 : Int32)), .val (.int (0 : Int32)), .val (.int (0 : Int32))] [(.ref ax)])) (fun _ k_ => XS.aloadN X4.here hx rfl (hb hby own_d10_37) rfl rfl k_) ?_
  refine own_w (T' := T4) (g' := (mkF m 39 #[.val (.ref ax), .val (.int (0 : Int32)), .val (.int (0 : Int32)), .val (.ref ay), .val (.int (0 : Int32)), .val (.int (0 : Int32)), .val (.int (0 : Int32)), .val (.int (0 : Int32))] [(.int (0 : Int32)), (.ref ax)])) (fun _ k_ => XS.iloadN X4.here hx rfl (hb hby own_d10_38) rfl k_) ?_
  refine own_w (T' := T4) (g' := (mkF m 40 #[.val (.ref ax), .val (.int (0 : Int32)), .val (.int (0 : Int32)), .val (.ref ay), .val (.int (0 : Int32)), .val (.int (0 : Int32)), .val (.int (0 : Int32)), .val (.int (0 : Int32))] [(.ref ay), (.int (0 : Int32)), (.ref ax)])) (fun _ k_ => XS.aloadN X4.here hx rfl (hb hby own_d10_39) rfl rfl k_) ?_
  refine own_w (T' := T4) (g' := (mkF m 42 #[.val (.ref ax), .val (.int (0 : Int32)), .val (.int (0 : Int32)), .val (.ref ay), .val (.int (0 : Int32)), .val (.int (0 : Int32)), .val (.int (0 : Int32)), .val (.int (0 : Int32))] [(.int (0 : Int32)), (.ref ay), (.int (0 : Int32)), (.ref ax)])) (fun _ k_ => XS.iload X4.here hx rfl (hb hby own_d10_40) rfl k_) ?_
  refine own_w (T' := T4) (g' := (mkF m 44 #[.val (.ref ax), .val (.int (0 : Int32)), .val (.int (0 : Int32)), .val (.ref ay), .val (.int (0 : Int32)), .val (.int (0 : Int32)), .val (.int (0 : Int32)), .val (.int (0 : Int32))] [(.int (0 : Int32)), (.int (0 : Int32)), (.ref ay), (.int (0 : Int32)), (.ref ax)])) (fun _ k_ => XS.iload X4.here hx rfl (hb hby own_d10_42) rfl k_) ?_
  obtain ⟨_, _, ⟨T5, L5, k5, n5⟩, -, X5, ⟨Lc5, hQ5, l5, y5, z5⟩, st5⟩ := Jvm.LawKit.callS X4 hx (y := (⟨"jdk/internal/util/ArraysSupport", "mismatch", "([BI[BII)I"⟩ : MethodName)) hown (mvT hZ (hw _ (List.mem_of_getElem? (i := 64) rfl))) (mvT hZ (hw _ (List.mem_of_getElem? (i := 65) rfl))) (mvT hZ (hw _ (List.mem_of_getElem? (i := 66) rfl))) (mvT hZ (hw _ (List.mem_of_getElem? (i := 67) rfl))) (by decide) (backOf (W := 0) (own_rm12_0 l Z a0 hw [] ax ay   h0 n0 Z0 Vx Vy) hZ (hw _ (List.mem_of_getElem? (i := 67) rfl)) (hw _ (List.mem_of_getElem? (i := 66) rfl)) (by decide) (by decide)) (g := (mkF m 44 #[.val (.ref ax), .val (.int (0 : Int32)), .val (.int (0 : Int32)), .val (.ref ay), .val (.int (0 : Int32)), .val (.int (0 : Int32)), .val (.int (0 : Int32)), .val (.int (0 : Int32))] [(.int (0 : Int32)), (.int (0 : Int32)), (.ref ay), (.int (0 : Int32)), (.ref ax)])) rfl (by rw [hml]; rfl) (argsL := [(.ref ax), (.int (0 : Int32)), (.ref ay), (.int (0 : Int32)), (.int (0 : Int32))]) (rest := []) (lenOf own_pd1 rfl) rfl (by show 2 * 0 + _ ≤ _; exact Nat.le_of_eq rfl) (hb hby own_d10_44) (fun _ _ => ⟨rfl, e4, (by decide : 0 + 0 ≤ _), (by decide : 0 + 0 ≤ _)⟩)
  dsimp only [Pt.U, Pt.locs, Pt.cells, Pt.slots] at X5 l5 y5 z5 st5 hQ5
  subst l5 y5 z5
  obtain ⟨rfl, N5q, e5⟩ := hQ5
  have N5 := Fr.app N4 N5q
  refine own_w (T' := T5) (g' := (mkF m 47 #[.val (.ref ax), .val (.int (0 : Int32)), .val (.int (0 : Int32)), .val (.ref ay), .val (.int (0 : Int32)), .val (.int (0 : Int32)), .val (.int (0 : Int32)), .val (.int (0 : Int32))] [(.int (-1 : Int32))])) st5 ?_
  by_cases hc47 : (-1 : Int32) < (0 : Int32)
  · refine own_w (T' := T5) (g' := (mkF m 50 #[.val (.ref ax), .val (.int (0 : Int32)), .val (.int (0 : Int32)), .val (.ref ay), .val (.int (0 : Int32)), .val (.int (0 : Int32)), .val (.int (0 : Int32)), .val (.int (0 : Int32))] [])) (fun _ k_ => XS.ifNo X5.here hx rfl (hb hby own_d10_47) rfl ((if0 _ _).trans (tlt hc47).2.1) k_) ?_
    refine own_w (T' := T5) (g' := (mkF m 51 #[.val (.ref ax), .val (.int (0 : Int32)), .val (.int (0 : Int32)), .val (.ref ay), .val (.int (0 : Int32)), .val (.int (0 : Int32)), .val (.int (0 : Int32)), .val (.int (0 : Int32))] [(.int (1 : Int32))])) (fun _ k_ => XS.iconst X5.here hx rfl (hb hby own_d10_50) k_) ?_
    refine own_w (T' := T5) (g' := (mkF m 55 #[.val (.ref ax), .val (.int (0 : Int32)), .val (.int (0 : Int32)), .val (.ref ay), .val (.int (0 : Int32)), .val (.int (0 : Int32)), .val (.int (0 : Int32)), .val (.int (0 : Int32))] [(.int (1 : Int32))])) (fun _ k_ => XS.goto X5.here hx rfl (pc0 := 51) (pc' := 55) rfl (hb hby own_d10_51) (by decide) (by decide) k_) ?_
    obtain ⟨fs, hr, hrun, hended, hW, hsame⟩ := X5.leave (v := some (.int (1 : Int32))) (fun h => by rw [Bd.returns] at h; cases h)
    exact ⟨_, _, retOut X5 hx Bd.returns rfl (Or.inl ⟨rfl, Or.inr (Or.inl rfl), _, rfl⟩) (hb hby own_d10_55) hr, hrun, hended, _, _, rfl, (by show own_Q10_0 Z ax ay h0 n0 _ T5.heap _; rw [e5]; exact ⟨(by rw [if_pos ((own_mm0 ).mp hc47)]), N5, rfl⟩), ⟨_, rfl⟩, hW, hsame.mono (by decide) (by decide)⟩
  · refine own_w (T' := T5) (g' := (mkF m 54 #[.val (.ref ax), .val (.int (0 : Int32)), .val (.int (0 : Int32)), .val (.ref ay), .val (.int (0 : Int32)), .val (.int (0 : Int32)), .val (.int (0 : Int32)), .val (.int (0 : Int32))] [])) (fun _ k_ => XS.ifYes X5.here hx rfl (pc0 := 47) (pc' := 54) rfl (hb hby own_d10_47) rfl ((if0 _ _).trans (flt hc47).2.1) (by decide) (by decide) k_) ?_
    refine own_w (T' := T5) (g' := (mkF m 55 #[.val (.ref ax), .val (.int (0 : Int32)), .val (.int (0 : Int32)), .val (.ref ay), .val (.int (0 : Int32)), .val (.int (0 : Int32)), .val (.int (0 : Int32)), .val (.int (0 : Int32))] [(.int (0 : Int32))])) (fun _ k_ => XS.iconst X5.here hx rfl (hb hby own_d10_54) k_) ?_
    obtain ⟨fs, hr, hrun, hended, hW, hsame⟩ := X5.leave (v := some (.int (0 : Int32))) (fun h => by rw [Bd.returns] at h; cases h)
    exact ⟨_, _, retOut X5 hx Bd.returns rfl (Or.inl ⟨rfl, Or.inr (Or.inl rfl), _, rfl⟩) (hb hby own_d10_55) hr, hrun, hended, _, _, rfl, (by show own_Q10_0 Z ax ay h0 n0 _ T5.heap _; rw [e5]; exact ⟨(by rw [if_neg (mt (own_mm0 ).mpr hc47)]), N5, rfl⟩), ⟨_, rfl⟩, hW, hsame.mono (by decide) (by decide)⟩
theorem own_d9_0 : decode prog_31_method_8_code 0 = .ok (.aload_n 0, 1) := by decide +kernel
theorem own_d9_1 : decode prog_31_method_8_code 1 = .ok (.getfield 7, 3) := by decide +kernel
theorem own_d9_4 : decode prog_31_method_8_code 4 = .ok (.aload_n 0, 1) := by decide +kernel
theorem own_d9_5 : decode prog_31_method_8_code 5 = .ok (.getfield 13, 3) := by decide +kernel
theorem own_d9_8 : decode prog_31_method_8_code 8 = .ok (.aload_n 0, 1) := by decide +kernel
theorem own_d9_9 : decode prog_31_method_8_code 9 = .ok (.getfield 13, 3) := by decide +kernel
theorem own_d9_12 : decode prog_31_method_8_code 12 = .ok (.aload_n 0, 1) := by decide +kernel
theorem own_d9_13 : decode prog_31_method_8_code 13 = .ok (.getfield 17, 3) := by decide +kernel
theorem own_d9_16 : decode prog_31_method_8_code 16 = .ok (.iadd, 1) := by decide +kernel
theorem own_d9_17 : decode prog_31_method_8_code 17 = .ok (.aload_n 1, 1) := by decide +kernel
theorem own_d9_18 : decode prog_31_method_8_code 18 = .ok (.iconst 0, 1) := by decide +kernel
theorem own_d9_19 : decode prog_31_method_8_code 19 = .ok (.aload_n 1, 1) := by decide +kernel
theorem own_d9_20 : decode prog_31_method_8_code 20 = .ok (.arraylength, 1) := by decide +kernel
theorem own_d9_21 : decode prog_31_method_8_code 21 = .ok (.invokestatic 73, 3) := by decide +kernel
theorem own_pd2 : parseMethodDescriptor "([BII[BII)Z" = some ⟨[(.array .byte), .int, .int, (.array .byte), .int, .int], some .boolean⟩ := by decide +kernel
theorem own_d9_24 : decode prog_31_method_8_code 24 = .ok (.ireturn, 1) := by decide +kernel
theorem own_rm9_0_ef (m : MethodId) (pp : Addr) (ay : Addr) : entryFrame m #[(.ref pp), (.ref ay)] 2 = mkF m 0 #[.val (.ref pp), .val (.ref ay)] [] := by first | (simp [entryFrame, mkF, argsToLocals, Value.category]; done) | rfl
def own_Q9_0 (Z : State) (pp : Addr) (ay : Addr) (ax : Addr) (h0 : Heap) (n0 : Nat) (v_ : Option Value) (h : Heap) (L_ : List Loc) : Prop := v_ = some (.int (if (([] : List Int32) = ([] : List Int32)) then (1 : Int32) else 0)) ∧ Fr n0 L_ ∧ (h = h0)
set_option maxRecDepth 65536 in
set_option maxHeartbeats 40000000 in
theorem own_rm9_0 (l : Launch) (Z : State) (a0 : Array Value) (hw : ∀ d ∈ tables_1, d.before a0 Z = true) (ws : List Jvm.Cond) (pp : Addr) (ay : Addr) (ax : Addr) (h0 : Heap) (n0 : Nat) (Z0 : n0 ≤ h0.size) (F0 : Fld Z h0 pp "com/example/adjacency/adjacency/wire/PrefixedBytes" "array" "[B" (.ref ax)) (F1 : Fld Z h0 pp "com/example/adjacency/adjacency/wire/PrefixedBytes" "offset" "I" (.int (0 : Int32))) (F2 : Fld Z h0 pp "com/example/adjacency/adjacency/wire/PrefixedBytes" "length" "I" (.int (0 : Int32))) (Vx : own_Ar Z h0 ax .byte ([] : List Int32)) (Vy : own_Ar Z h0 ay .byte ([] : List Int32)) :
    MetFree l (⟨"com/example/adjacency/adjacency/wire/PrefixedBytes", "isSameAs", "([B)Z"⟩ : MethodName) (head1 (Jvm.Cond.code (⟨"com/example/adjacency/adjacency/wire/PrefixedBytes", "isSameAs", "([B)Z"⟩ : MethodName) prog_31_method_8_code 2 (some .boolean) :: ws) ({ frames := 2, cells := 0, slots := 0, locals := 38 } : Room)) (fun a_ U_ => a_ = #[(.ref pp), (.ref ay)] ∧ Z.Warmed39 U_.vm ∧ U_.heap = h0) (fun _ _ _ _ _ => True) (fun _ U_ o_ V_ => ∃ v_ L_, o_ = .returned v_ ∧ own_Q9_0 Z pp ay ax h0 n0 v_ V_.heap L_ ∧ FrameEnd U_ o_ V_ L_ ({ frames := 2, cells := 0, slots := 0, locals := 38 } : Room).cells ({ frames := 2, cells := 0, slots := 0, locals := 38 } : Room).slots) := by
  refine MetFree.of_bodySF (plainFor_of_name own_pn_com_example_adjacency_adjacency_wire_PrefixedBytes) hisR ?_
  intro p e s m args below meth c s₁ Bd hml0 hP hK
  obtain ⟨rfl, hZ, hh⟩ := hP
  have hx := Bd.exec
  have hby := Bd.bytes
  have hml : c.maxLocals = 2 := hml0
  have hown : s.vm.findClass "com/example/adjacency/adjacency/wire/PrefixedBytes" = some m.cls := findClass_of_methodNamed Bd.named
  have hnm := (name_of_methodNamed Bd.named Bd.method).1
  have X0 : Stand p l e ({ frames := 2, cells := 0, slots := 0, locals := 38 } : Room) s m #[(.ref pp), (.ref ay)] below meth c s₁ [] 0 0 := Stand.of_body Bd
  have e0 : s₁.heap = h0 := by rw [← hh, Bd.state]; rfl
  have N0 := Fr.nil n0
  show own_G p e below s (own_Q9_0 Z pp ay ax h0 n0) ({ frames := 2, cells := 0, slots := 0, locals := 38 } : Room).cells ({ frames := 2, cells := 0, slots := 0, locals := 38 } : Room).slots s₁ (entryFrame m #[(.ref pp), (.ref ay)] 2)
  rw [own_rm9_0_ef]
  refine own_w (T' := s₁) (g' := (mkF m 1 #[.val (.ref pp), .val (.ref ay)] [(.ref pp)])) (fun _ k_ => XS.aloadN X0.here hx rfl (hb hby own_d9_0) rfl rfl k_) ?_
  obtain ⟨T1, X1, e1, st1⟩ := getF X0 hx hZ hown (host := "") (Or.inl (hw _ (List.mem_of_getElem? (i := 22) rfl))) Via.refl e0 F0 (g := (mkF m 1 #[.val (.ref pp), .val (.ref ay)] [(.ref pp)])) rfl rfl (hb hby own_d9_1)
  refine own_w (T' := T1) (g' := (mkF m 4 #[.val (.ref pp), .val (.ref ay)] [(.ref ax)])) st1 ?_
  refine own_w (T' := T1) (g' := (mkF m 5 #[.val (.ref pp), .val (.ref ay)] [(.ref pp), (.ref ax)])) (fun _ k_ => XS.aloadN X1.here hx rfl (hb hby own_d9_4) rfl rfl k_) ?_
  obtain ⟨T2, X2, e2, st2⟩ := getF X1 hx hZ hown (host := "") (Or.inl (hw _ (List.mem_of_getElem? (i := 24) rfl))) Via.refl e1 F1 (g := (mkF m 5 #[.val (.ref pp), .val (.ref ay)] [(.ref pp), (.ref ax)])) rfl rfl (hb hby own_d9_5)
  refine own_w (T' := T2) (g' := (mkF m 8 #[.val (.ref pp), .val (.ref ay)] [(.int (0 : Int32)), (.ref ax)])) st2 ?_
  refine own_w (T' := T2) (g' := (mkF m 9 #[.val (.ref pp), .val (.ref ay)] [(.ref pp), (.int (0 : Int32)), (.ref ax)])) (fun _ k_ => XS.aloadN X2.here hx rfl (hb hby own_d9_8) rfl rfl k_) ?_
  obtain ⟨T3, X3, e3, st3⟩ := getF X2 hx hZ hown (host := "") (Or.inl (hw _ (List.mem_of_getElem? (i := 24) rfl))) Via.refl e2 F1 (g := (mkF m 9 #[.val (.ref pp), .val (.ref ay)] [(.ref pp), (.int (0 : Int32)), (.ref ax)])) rfl rfl (hb hby own_d9_9)
  refine own_w (T' := T3) (g' := (mkF m 12 #[.val (.ref pp), .val (.ref ay)] [(.int (0 : Int32)), (.int (0 : Int32)), (.ref ax)])) st3 ?_
  refine own_w (T' := T3) (g' := (mkF m 13 #[.val (.ref pp), .val (.ref ay)] [(.ref pp), (.int (0 : Int32)), (.int (0 : Int32)), (.ref ax)])) (fun _ k_ => XS.aloadN X3.here hx rfl (hb hby own_d9_12) rfl rfl k_) ?_
  obtain ⟨T4, X4, e4, st4⟩ := getF X3 hx hZ hown (host := "") (Or.inl (hw _ (List.mem_of_getElem? (i := 26) rfl))) Via.refl e3 F2 (g := (mkF m 13 #[.val (.ref pp), .val (.ref ay)] [(.ref pp), (.int (0 : Int32)), (.int (0 : Int32)), (.ref ax)])) rfl rfl (hb hby own_d9_13)
  refine own_w (T' := T4) (g' := (mkF m 16 #[.val (.ref pp), .val (.ref ay)] [(.int (0 : Int32)), (.int (0 : Int32)), (.int (0 : Int32)), (.ref ax)])) st4 ?_
  refine own_w (T' := T4) (g' := (mkF m 17 #[.val (.ref pp), .val (.ref ay)] [(.int (0 : Int32)), (.int (0 : Int32)), (.ref ax)])) (fun _ k_ => XS.iadd X4.here hx rfl (hb hby own_d9_16) rfl k_) ?_
  refine own_w (T' := T4) (g' := (mkF m 18 #[.val (.ref pp), .val (.ref ay)] [(.ref ay), (.int (0 : Int32)), (.int (0 : Int32)), (.ref ax)])) (fun _ k_ => XS.aloadN X4.here hx rfl (hb hby own_d9_17) rfl rfl k_) ?_
  refine own_w (T' := T4) (g' := (mkF m 19 #[.val (.ref pp), .val (.ref ay)] [(.int (0 : Int32)), (.ref ay), (.int (0 : Int32)), (.int (0 : Int32)), (.ref ax)])) (fun _ k_ => XS.iconst X4.here hx rfl (hb hby own_d9_18) k_) ?_
  refine own_w (T' := T4) (g' := (mkF m 20 #[.val (.ref pp), .val (.ref ay)] [(.ref ay), (.int (0 : Int32)), (.ref ay), (.int (0 : Int32)), (.int (0 : Int32)), (.ref ax)])) (fun _ k_ => XS.aloadN X4.here hx rfl (hb hby own_d9_19) rfl rfl k_) ?_
  obtain ⟨cl5, Ar5, hs5⟩ := id Vy
  have hl5 : cl5.slots.size.toInt32 = (0 : Int32) := by rw [hs5]; rfl
  refine own_w (T' := T4) (g' := (mkF m 21 #[.val (.ref pp), .val (.ref ay)] [(.int (0 : Int32)), (.int (0 : Int32)), (.ref ay), (.int (0 : Int32)), (.int (0 : Int32)), (.ref ax)])) (fun t_ k_ => X4.arraylength hx (by rw [e4]; exact Ar5.1) (State.isArrayOf_alike hZ.alike Ar5.2.1) (g := (mkF m 20 #[.val (.ref pp), .val (.ref ay)] [(.ref ay), (.int (0 : Int32)), (.ref ay), (.int (0 : Int32)), (.int (0 : Int32)), (.ref ax)])) rfl rfl (hb hby own_d9_20) t_ (by rw [hl5]; exact k_)) ?_
  obtain ⟨_, _, ⟨T6, L6, k6, n6⟩, -, X6, ⟨Lc6, hQ6, l6, y6, z6⟩, st6⟩ := Jvm.LawKit.callS X4 hx (y := (⟨"java/util/Arrays", "equals", "([BII[BII)Z"⟩ : MethodName)) hown (mvT hZ (hw _ (List.mem_of_getElem? (i := 58) rfl))) (mvT hZ (hw _ (List.mem_of_getElem? (i := 59) rfl))) (mvT hZ (hw _ (List.mem_of_getElem? (i := 49) rfl))) (mvT hZ (hw _ (List.mem_of_getElem? (i := 60) rfl))) (by decide) (backOf (W := 0) (own_rm10_0 l Z a0 hw [] ax ay   h0 n0 Z0 Vx Vy) hZ (hw _ (List.mem_of_getElem? (i := 60) rfl)) (hw _ (List.mem_of_getElem? (i := 49) rfl)) (by decide) (by decide)) (g := (mkF m 21 #[.val (.ref pp), .val (.ref ay)] [(.int (0 : Int32)), (.int (0 : Int32)), (.ref ay), (.int (0 : Int32)), (.int (0 : Int32)), (.ref ax)])) rfl (by rw [hml]; rfl) (argsL := [(.ref ax), (.int (0 : Int32)), (.int (0 : Int32)), (.ref ay), (.int (0 : Int32)), (.int (0 : Int32))]) (rest := []) (lenOf own_pd2 rfl) rfl (by show 2 * 0 + _ ≤ _; exact Nat.le_of_eq rfl) (hb hby own_d9_21) (fun _ _ => ⟨rfl, e4, (by decide : 0 + 0 ≤ _), (by decide : 0 + 0 ≤ _)⟩)
  dsimp only [Pt.U, Pt.locs, Pt.cells, Pt.slots] at X6 l6 y6 z6 st6 hQ6
  subst l6 y6 z6
  obtain ⟨rfl, N6q, e6⟩ := hQ6
  have N6 := Fr.app N0 N6q
  refine own_w (T' := T6) (g' := (mkF m 24 #[.val (.ref pp), .val (.ref ay)] [(.int (if (([] : List Int32) = ([] : List Int32)) then (1 : Int32) else 0))])) st6 ?_
  obtain ⟨fs, hr, hrun, hended, hW, hsame⟩ := X6.leave (v := some (.int (if (([] : List Int32) = ([] : List Int32)) then (1 : Int32) else 0))) (fun h => by rw [Bd.returns] at h; cases h)
  exact ⟨_, _, retOut X6 hx Bd.returns own_nb (Or.inl ⟨rfl, Or.inr (Or.inl rfl), _, rfl⟩) (hb hby own_d9_24) hr, hrun, hended, _, _, rfl, (by show own_Q9_0 Z pp ay ax h0 n0 _ T6.heap _; rw [e6]; exact ⟨rfl, N6, rfl⟩), ⟨_, rfl⟩, hW, hsame.mono (by decide) (by decide)⟩
theorem own_d5_0 : decode prog_31_method_4_code 0 = .ok (.aload_n 0, 1) := by decide +kernel
theorem own_d5_1 : decode prog_31_method_4_code 1 = .ok (.getfield 17, 3) := by decide +kernel
theorem own_d5_4 : decode prog_31_method_4_code 4 = .ok (.ireturn, 1) := by decide +kernel
theorem own_rm5_0_ef (m : MethodId) (pp : Addr) : entryFrame m #[(.ref pp)] 1 = mkF m 0 #[.val (.ref pp)] [] := by first | (simp [entryFrame, mkF, argsToLocals, Value.category]; done) | rfl
def own_Q5_0 (Z : State) (pp : Addr) (h0 : Heap) (n0 : Nat) (v_ : Option Value) (h : Heap) (L_ : List Loc) : Prop := v_ = some (.int (0 : Int32)) ∧ Fr n0 L_ ∧ (h = h0)
set_option maxRecDepth 65536 in
set_option maxHeartbeats 40000000 in
theorem own_rm5_0 (l : Launch) (Z : State) (a0 : Array Value) (hw : ∀ d ∈ tables_1, d.before a0 Z = true) (ws : List Jvm.Cond) (pp : Addr) (h0 : Heap) (n0 : Nat) (Z0 : n0 ≤ h0.size) (F2 : Fld Z h0 pp "com/example/adjacency/adjacency/wire/PrefixedBytes" "length" "I" (.int (0 : Int32))) :
    MetFree l (⟨"com/example/adjacency/adjacency/wire/PrefixedBytes", "length", "()I"⟩ : MethodName) (head1 (Jvm.Cond.code (⟨"com/example/adjacency/adjacency/wire/PrefixedBytes", "length", "()I"⟩ : MethodName) prog_31_method_4_code 1 (some .int) :: ws) ({ frames := 0, cells := 0, slots := 0, locals := 0 } : Room)) (fun a_ U_ => a_ = #[(.ref pp)] ∧ Z.Warmed39 U_.vm ∧ U_.heap = h0) (fun _ _ _ _ _ => True) (fun _ U_ o_ V_ => ∃ v_ L_, o_ = .returned v_ ∧ own_Q5_0 Z pp h0 n0 v_ V_.heap L_ ∧ FrameEnd U_ o_ V_ L_ ({ frames := 0, cells := 0, slots := 0, locals := 0 } : Room).cells ({ frames := 0, cells := 0, slots := 0, locals := 0 } : Room).slots) := by
  refine MetFree.of_bodySF (plainFor_of_name own_pn_com_example_adjacency_adjacency_wire_PrefixedBytes) hisR ?_
  intro p e s m args below meth c s₁ Bd hml0 hP hK
  obtain ⟨rfl, hZ, hh⟩ := hP
  have hx := Bd.exec
  have hby := Bd.bytes
  have hml : c.maxLocals = 1 := hml0
  have hown : s.vm.findClass "com/example/adjacency/adjacency/wire/PrefixedBytes" = some m.cls := findClass_of_methodNamed Bd.named
  have hnm := (name_of_methodNamed Bd.named Bd.method).1
  have X0 : Stand p l e ({ frames := 0, cells := 0, slots := 0, locals := 0 } : Room) s m #[(.ref pp)] below meth c s₁ [] 0 0 := Stand.of_body Bd
  have e0 : s₁.heap = h0 := by rw [← hh, Bd.state]; rfl
  have N0 := Fr.nil n0
  show own_G p e below s (own_Q5_0 Z pp h0 n0) ({ frames := 0, cells := 0, slots := 0, locals := 0 } : Room).cells ({ frames := 0, cells := 0, slots := 0, locals := 0 } : Room).slots s₁ (entryFrame m #[(.ref pp)] 1)
  rw [own_rm5_0_ef]
  refine own_w (T' := s₁) (g' := (mkF m 1 #[.val (.ref pp)] [(.ref pp)])) (fun _ k_ => XS.aloadN X0.here hx rfl (hb hby own_d5_0) rfl rfl k_) ?_
  obtain ⟨T1, X1, e1, st1⟩ := getF X0 hx hZ hown (host := "") (Or.inl (hw _ (List.mem_of_getElem? (i := 26) rfl))) Via.refl e0 F2 (g := (mkF m 1 #[.val (.ref pp)] [(.ref pp)])) rfl rfl (hb hby own_d5_1)
  refine own_w (T' := T1) (g' := (mkF m 4 #[.val (.ref pp)] [(.int (0 : Int32))])) st1 ?_
  obtain ⟨fs, hr, hrun, hended, hW, hsame⟩ := X1.leave (v := some (.int (0 : Int32))) (fun h => by rw [Bd.returns] at h; cases h)
  exact ⟨_, _, retOut X1 hx Bd.returns rfl (Or.inl ⟨rfl, Or.inl rfl, _, rfl⟩) (hb hby own_d5_4) hr, hrun, hended, _, _, rfl, (by show own_Q5_0 Z pp h0 n0 _ T1.heap _; rw [e1]; exact ⟨rfl, N0, rfl⟩), ⟨_, rfl⟩, hW, hsame.mono (by decide) (by decide)⟩
theorem own_d6_0 : decode prog_31_method_5_code 0 = .ok (.iconst 2, 1) := by decide +kernel
theorem own_d6_1 : decode prog_31_method_5_code 1 = .ok (.aload_n 0, 1) := by decide +kernel
theorem own_d6_2 : decode prog_31_method_5_code 2 = .ok (.getfield 17, 3) := by decide +kernel
theorem own_d6_5 : decode prog_31_method_5_code 5 = .ok (.iadd, 1) := by decide +kernel
theorem own_d6_6 : decode prog_31_method_5_code 6 = .ok (.ireturn, 1) := by decide +kernel
theorem own_rm6_0_ef (m : MethodId) (pp : Addr) : entryFrame m #[(.ref pp)] 1 = mkF m 0 #[.val (.ref pp)] [] := by first | (simp [entryFrame, mkF, argsToLocals, Value.category]; done) | rfl
def own_Q6_0 (Z : State) (pp : Addr) (h0 : Heap) (n0 : Nat) (v_ : Option Value) (h : Heap) (L_ : List Loc) : Prop := v_ = some (.int (2 : Int32)) ∧ Fr n0 L_ ∧ (h = h0)
set_option maxRecDepth 65536 in
set_option maxHeartbeats 40000000 in
theorem own_rm6_0 (l : Launch) (Z : State) (a0 : Array Value) (hw : ∀ d ∈ tables_1, d.before a0 Z = true) (ws : List Jvm.Cond) (pp : Addr) (h0 : Heap) (n0 : Nat) (Z0 : n0 ≤ h0.size) (F2 : Fld Z h0 pp "com/example/adjacency/adjacency/wire/PrefixedBytes" "length" "I" (.int (0 : Int32))) :
    MetFree l (⟨"com/example/adjacency/adjacency/wire/PrefixedBytes", "prefixedLength", "()I"⟩ : MethodName) (head1 (Jvm.Cond.code (⟨"com/example/adjacency/adjacency/wire/PrefixedBytes", "prefixedLength", "()I"⟩ : MethodName) prog_31_method_5_code 1 (some .int) :: ws) ({ frames := 0, cells := 0, slots := 0, locals := 0 } : Room)) (fun a_ U_ => a_ = #[(.ref pp)] ∧ Z.Warmed39 U_.vm ∧ U_.heap = h0) (fun _ _ _ _ _ => True) (fun _ U_ o_ V_ => ∃ v_ L_, o_ = .returned v_ ∧ own_Q6_0 Z pp h0 n0 v_ V_.heap L_ ∧ FrameEnd U_ o_ V_ L_ ({ frames := 0, cells := 0, slots := 0, locals := 0 } : Room).cells ({ frames := 0, cells := 0, slots := 0, locals := 0 } : Room).slots) := by
  refine MetFree.of_bodySF (plainFor_of_name own_pn_com_example_adjacency_adjacency_wire_PrefixedBytes) hisR ?_
  intro p e s m args below meth c s₁ Bd hml0 hP hK
  obtain ⟨rfl, hZ, hh⟩ := hP
  have hx := Bd.exec
  have hby := Bd.bytes
  have hml : c.maxLocals = 1 := hml0
  have hown : s.vm.findClass "com/example/adjacency/adjacency/wire/PrefixedBytes" = some m.cls := findClass_of_methodNamed Bd.named
  have hnm := (name_of_methodNamed Bd.named Bd.method).1
  have X0 : Stand p l e ({ frames := 0, cells := 0, slots := 0, locals := 0 } : Room) s m #[(.ref pp)] below meth c s₁ [] 0 0 := Stand.of_body Bd
  have e0 : s₁.heap = h0 := by rw [← hh, Bd.state]; rfl
  have N0 := Fr.nil n0
  show own_G p e below s (own_Q6_0 Z pp h0 n0) ({ frames := 0, cells := 0, slots := 0, locals := 0 } : Room).cells ({ frames := 0, cells := 0, slots := 0, locals := 0 } : Room).slots s₁ (entryFrame m #[(.ref pp)] 1)
  rw [own_rm6_0_ef]
  refine own_w (T' := s₁) (g' := (mkF m 1 #[.val (.ref pp)] [(.int (2 : Int32))])) (fun _ k_ => XS.iconst X0.here hx rfl (hb hby own_d6_0) k_) ?_
  refine own_w (T' := s₁) (g' := (mkF m 2 #[.val (.ref pp)] [(.ref pp), (.int (2 : Int32))])) (fun _ k_ => XS.aloadN X0.here hx rfl (hb hby own_d6_1) rfl rfl k_) ?_
  obtain ⟨T1, X1, e1, st1⟩ := getF X0 hx hZ hown (host := "") (Or.inl (hw _ (List.mem_of_getElem? (i := 26) rfl))) Via.refl e0 F2 (g := (mkF m 2 #[.val (.ref pp)] [(.ref pp), (.int (2 : Int32))])) rfl rfl (hb hby own_d6_2)
  refine own_w (T' := T1) (g' := (mkF m 5 #[.val (.ref pp)] [(.int (0 : Int32)), (.int (2 : Int32))])) st1 ?_
  refine own_w (T' := T1) (g' := (mkF m 6 #[.val (.ref pp)] [(.int (2 : Int32))])) (fun _ k_ => XS.iadd X1.here hx rfl (hb hby own_d6_5) rfl k_) ?_
  obtain ⟨fs, hr, hrun, hended, hW, hsame⟩ := X1.leave (v := some (.int (2 : Int32))) (fun h => by rw [Bd.returns] at h; cases h)
  exact ⟨_, _, retOut X1 hx Bd.returns rfl (Or.inl ⟨rfl, Or.inl rfl, _, rfl⟩) (hb hby own_d6_6) hr, hrun, hended, _, _, rfl, (by show own_Q6_0 Z pp h0 n0 _ T1.heap _; rw [e1]; exact ⟨rfl, N0, rfl⟩), ⟨_, rfl⟩, hW, hsame.mono (by decide) (by decide)⟩
theorem own_d8_0 : decode jdk_65_method_132_code 0 = .ok (.iload_n 1, 1) := by decide +kernel
theorem own_d8_1 : decode jdk_65_method_132_code 1 = .ok (.ifCond .ne 9, 3) := by decide +kernel
theorem own_d8_4 : decode jdk_65_method_132_code 4 = .ok (.iload_n 2, 1) := by decide +kernel
theorem own_d8_5 : decode jdk_65_method_132_code 5 = .ok (.aload_n 0, 1) := by decide +kernel
theorem own_d8_6 : decode jdk_65_method_132_code 6 = .ok (.arraylength, 1) := by decide +kernel
theorem own_d8_7 : decode jdk_65_method_132_code 7 = .ok (.if_icmp .eq 10, 3) := by decide +kernel
theorem own_d8_17 : decode jdk_65_method_132_code 17 = .ok (.aload_n 0, 1) := by decide +kernel
theorem own_d8_18 : decode jdk_65_method_132_code 18 = .ok (.invokevirtual 310, 3) := by decide +kernel
theorem own_d8_21 : decode jdk_65_method_132_code 21 = .ok (.checkcast 311, 3) := by decide +kernel
theorem own_d8_24 : decode jdk_65_method_132_code 24 = .ok (.areturn, 1) := by decide +kernel
theorem own_rm8_0_ef (m : MethodId) (ax : Addr) : entryFrame m #[(.ref ax), (.int (0 : Int32)), (.int (0 : Int32))] 3 = mkF m 0 #[.val (.ref ax), .val (.int (0 : Int32)), .val (.int (0 : Int32))] [] := by first | (simp [entryFrame, mkF, argsToLocals, Value.category]; done) | rfl
def own_Q8_0 (Z : State) (ax : Addr) (h0 : Heap) (n0 : Nat) (v_ : Option Value) (h : Heap) (L_ : List Loc) : Prop := v_ = some (.ref h0.size) ∧ Fr n0 L_ ∧ (Keep h0 h []) ∧ (own_Ar Z h h0.size .byte ([] : List Int32))
set_option maxRecDepth 65536 in
set_option maxHeartbeats 40000000 in
theorem own_rm8_0 (l : Launch) (Z : State) (a0 : Array Value) (hw : ∀ d ∈ tables_1, d.before a0 Z = true) (ws : List Jvm.Cond) (ax : Addr) (h0 : Heap) (n0 : Nat) (Z0 : n0 ≤ h0.size) (Vx : own_Ar Z h0 ax .byte ([] : List Int32)) (Ex : Exa Z h0 ax "[B") (hf : ∀ x ∈ ([] : List Int32), fits .byte (.int x) = true) :
    MetFree l (⟨"java/util/Arrays", "copyOfRange", "([BII)[B"⟩ : MethodName) (head1 (Jvm.Cond.code (⟨"java/util/Arrays", "copyOfRange", "([BII)[B"⟩ : MethodName) jdk_65_method_132_code 3 (some (.array .byte)) :: ws) ({ frames := 1, cells := 1, slots := 3, locals := 14 } : Room)) (fun a_ U_ => a_ = #[(.ref ax), (.int (0 : Int32)), (.int (0 : Int32))] ∧ Z.Warmed39 U_.vm ∧ U_.heap = h0) (fun _ _ _ _ _ => True) (fun _ U_ o_ V_ => ∃ v_ L_, o_ = .returned v_ ∧ own_Q8_0 Z ax h0 n0 v_ V_.heap L_ ∧ FrameEnd U_ o_ V_ L_ ({ frames := 1, cells := 1, slots := 3, locals := 14 } : Room).cells ({ frames := 1, cells := 1, slots := 3, locals := 14 } : Room).slots) := by
  refine MetFree.of_bodySF (plainFor_of_name own_pn_java_util_Arrays) hisR ?_
  intro p e s m args below meth c s₁ Bd hml0 hP hK
  obtain ⟨rfl, hZ, hh⟩ := hP
  have hx := Bd.exec
  have hby := Bd.bytes
  have hml : c.maxLocals = 3 := hml0
  have hown : s.vm.findClass "java/util/Arrays" = some m.cls := findClass_of_methodNamed Bd.named
  have hnm := (name_of_methodNamed Bd.named Bd.method).1
  have X0 : Stand p l e ({ frames := 1, cells := 1, slots := 3, locals := 14 } : Room) s m #[(.ref ax), (.int (0 : Int32)), (.int (0 : Int32))] below meth c s₁ [] 0 0 := Stand.of_body Bd
  have e0 : s₁.heap = h0 := by rw [← hh, Bd.state]; rfl
  have N0 := Fr.nil n0
  show own_G p e below s (own_Q8_0 Z ax h0 n0) ({ frames := 1, cells := 1, slots := 3, locals := 14 } : Room).cells ({ frames := 1, cells := 1, slots := 3, locals := 14 } : Room).slots s₁ (entryFrame m #[(.ref ax), (.int (0 : Int32)), (.int (0 : Int32))] 3)
  rw [own_rm8_0_ef]
  refine own_w (T' := s₁) (g' := (mkF m 1 #[.val (.ref ax), .val (.int (0 : Int32)), .val (.int (0 : Int32))] [(.int (0 : Int32))])) (fun _ k_ => XS.iloadN X0.here hx rfl (hb hby own_d8_0) rfl k_) ?_
  refine own_w (T' := s₁) (g' := (mkF m 4 #[.val (.ref ax), .val (.int (0 : Int32)), .val (.int (0 : Int32))] [])) (fun _ k_ => XS.ifNo X0.here hx rfl (hb hby own_d8_1) rfl ((if0 _ _).trans (teq rfl).2) k_) ?_
  refine own_w (T' := s₁) (g' := (mkF m 5 #[.val (.ref ax), .val (.int (0 : Int32)), .val (.int (0 : Int32))] [(.int (0 : Int32))])) (fun _ k_ => XS.iloadN X0.here hx rfl (hb hby own_d8_4) rfl k_) ?_
  refine own_w (T' := s₁) (g' := (mkF m 6 #[.val (.ref ax), .val (.int (0 : Int32)), .val (.int (0 : Int32))] [(.ref ax), (.int (0 : Int32))])) (fun _ k_ => XS.aloadN X0.here hx rfl (hb hby own_d8_5) rfl rfl k_) ?_
  obtain ⟨cl1, Ar1, hs1⟩ := id Vx
  have hl1 : cl1.slots.size.toInt32 = (0 : Int32) := by rw [hs1]; rfl
  refine own_w (T' := s₁) (g' := (mkF m 7 #[.val (.ref ax), .val (.int (0 : Int32)), .val (.int (0 : Int32))] [(.int (0 : Int32)), (.int (0 : Int32))])) (fun t_ k_ => X0.arraylength hx (by rw [e0]; exact Ar1.1) (State.isArrayOf_alike hZ.alike Ar1.2.1) (g := (mkF m 6 #[.val (.ref ax), .val (.int (0 : Int32)), .val (.int (0 : Int32))] [(.ref ax), (.int (0 : Int32))])) rfl rfl (hb hby own_d8_6) t_ (by rw [hl1]; exact k_)) ?_
  refine own_w (T' := s₁) (g' := (mkF m 17 #[.val (.ref ax), .val (.int (0 : Int32)), .val (.int (0 : Int32))] [])) (fun _ k_ => XS.icmpYes X0.here hx rfl (pc0 := 7) (pc' := 17) rfl (hb hby own_d8_7) rfl (teq rfl).1 (by decide) (by decide) k_) ?_
  refine own_w (T' := s₁) (g' := (mkF m 18 #[.val (.ref ax), .val (.int (0 : Int32)), .val (.int (0 : Int32))] [(.ref ax)])) (fun _ k_ => XS.aloadN X0.here hx rfl (hb hby own_d8_17) rfl rfl k_) ?_
  obtain ⟨cl2, Ar2, hs2⟩ := id Vx
  obtain ⟨T2, h2, X2, e2, E2, A2, Xa2, st2⟩ := cloneA X0 hx hZ hown (hw _ (List.mem_of_getElem? (i := 51) rfl)) (hw _ (List.mem_of_getElem? (i := 8) rfl)) (hw _ (List.mem_of_getElem? (i := 12) rfl)) (hw _ (List.mem_of_getElem? (i := 10) rfl)) (hw _ (List.mem_of_getElem? (i := 11) rfl)) (hw _ (List.mem_of_getElem? (i := 13) rfl)) e0 Ar2 Ex (own_fitc Ar2 hs2 hf) (g := (mkF m 18 #[.val (.ref ax), .val (.int (0 : Int32)), .val (.int (0 : Int32))] [(.ref ax)])) rfl (by rw [hml]; rfl) rfl (hb hby own_d8_18) (by decide) (W := 0) (cap := 3) (by show 2 * 0 + _ ≤ _; exact Nat.le_of_eq rfl) (by decide) (by rw [hs2]; simp) (by decide) (by decide)
  obtain ⟨b2, gq2⟩ : ∃ z, z = h0.size := ⟨_, rfl⟩
  rw [← gq2] at A2 Xa2 st2
  have V_b2 : own_Ar Z h2 b2 _ _ := ⟨_, A2, hs2⟩
  have X_b2 := Xa2
  have g_b2 : n0 ≤ b2 := Nat.le_trans Z0 (Nat.le_of_eq gq2.symm)
  have Z2 : n0 ≤ h2.size := Nat.le_trans Z0 E2.1
  refine own_w (T' := T2) (g' := (mkF m 21 #[.val (.ref ax), .val (.int (0 : Int32)), .val (.int (0 : Int32))] [(.ref b2)])) st2 ?_
  obtain ⟨T3, X3, e3, st3⟩ := castY X2 hx hZ hown (hw _ (List.mem_of_getElem? (i := 52) rfl)) e2 (Ins.self X_b2) (g := (mkF m 21 #[.val (.ref ax), .val (.int (0 : Int32)), .val (.int (0 : Int32))] [(.ref b2)])) rfl rfl (hb hby own_d8_21)
  refine own_w (T' := T3) (g' := (mkF m 24 #[.val (.ref ax), .val (.int (0 : Int32)), .val (.int (0 : Int32))] [(.ref b2)])) st3 ?_
  obtain ⟨fs, hr, hrun, hended, hW, hsame⟩ := X3.leave (v := some (.ref b2)) (fun h => by rw [Bd.returns] at h; cases h)
  exact ⟨_, _, retOut X3 hx Bd.returns rfl (Or.inr (Or.inr (Or.inr (Or.inr ⟨rfl, rfl, rfl⟩)))) (hb hby own_d8_24) hr, hrun, hended, _, _, rfl, (by show own_Q8_0 Z ax h0 n0 _ T3.heap _; rw [e3]; exact ⟨(by rw [gq2]), N0, (Keep.refl _ _).ext E2, gq2 ▸ V_b2⟩), ⟨_, rfl⟩, hW, hsame.mono (by decide) (by decide)⟩
theorem own_d7_0 : decode prog_31_method_7_code 0 = .ok (.aload_n 0, 1) := by decide +kernel
theorem own_d7_1 : decode prog_31_method_7_code 1 = .ok (.getfield 7, 3) := by decide +kernel
theorem own_d7_4 : decode prog_31_method_7_code 4 = .ok (.aload_n 0, 1) := by decide +kernel
theorem own_d7_5 : decode prog_31_method_7_code 5 = .ok (.getfield 13, 3) := by decide +kernel
theorem own_d7_8 : decode prog_31_method_7_code 8 = .ok (.aload_n 0, 1) := by decide +kernel
theorem own_d7_9 : decode prog_31_method_7_code 9 = .ok (.getfield 13, 3) := by decide +kernel
theorem own_d7_12 : decode prog_31_method_7_code 12 = .ok (.aload_n 0, 1) := by decide +kernel
theorem own_d7_13 : decode prog_31_method_7_code 13 = .ok (.getfield 17, 3) := by decide +kernel
theorem own_d7_16 : decode prog_31_method_7_code 16 = .ok (.iadd, 1) := by decide +kernel
theorem own_d7_17 : decode prog_31_method_7_code 17 = .ok (.invokestatic 67, 3) := by decide +kernel
theorem own_pd3 : parseMethodDescriptor "([BII)[B" = some ⟨[(.array .byte), .int, .int], some (.array .byte)⟩ := by decide +kernel
theorem own_d7_20 : decode prog_31_method_7_code 20 = .ok (.areturn, 1) := by decide +kernel
theorem own_rm7_0_ef (m : MethodId) (pp : Addr) : entryFrame m #[(.ref pp)] 1 = mkF m 0 #[.val (.ref pp)] [] := by first | (simp [entryFrame, mkF, argsToLocals, Value.category]; done) | rfl
def own_Q7_0 (Z : State) (pp : Addr) (ax : Addr) (h0 : Heap) (n0 : Nat) (v_ : Option Value) (h : Heap) (L_ : List Loc) : Prop := v_ = some (.ref h0.size) ∧ Fr n0 L_ ∧ (Keep h0 h []) ∧ (own_Ar Z h h0.size .byte ([] : List Int32))
set_option maxRecDepth 65536 in
set_option maxHeartbeats 40000000 in
theorem own_rm7_0 (l : Launch) (Z : State) (a0 : Array Value) (hw : ∀ d ∈ tables_1, d.before a0 Z = true) (ws : List Jvm.Cond) (pp : Addr) (ax : Addr) (h0 : Heap) (n0 : Nat) (Z0 : n0 ≤ h0.size) (F0 : Fld Z h0 pp "com/example/adjacency/adjacency/wire/PrefixedBytes" "array" "[B" (.ref ax)) (F1 : Fld Z h0 pp "com/example/adjacency/adjacency/wire/PrefixedBytes" "offset" "I" (.int (0 : Int32))) (F2 : Fld Z h0 pp "com/example/adjacency/adjacency/wire/PrefixedBytes" "length" "I" (.int (0 : Int32))) (Vx : own_Ar Z h0 ax .byte ([] : List Int32)) (Ex : Exa Z h0 ax "[B") (hf : ∀ x ∈ ([] : List Int32), fits .byte (.int x) = true) :
    MetFree l (⟨"com/example/adjacency/adjacency/wire/PrefixedBytes", "toArray", "()[B"⟩ : MethodName) (head1 (Jvm.Cond.code (⟨"com/example/adjacency/adjacency/wire/PrefixedBytes", "toArray", "()[B"⟩ : MethodName) prog_31_method_7_code 1 (some (.array .byte)) :: ws) ({ frames := 2, cells := 1, slots := 3, locals := 28 } : Room)) (fun a_ U_ => a_ = #[(.ref pp)] ∧ Z.Warmed39 U_.vm ∧ U_.heap = h0) (fun _ _ _ _ _ => True) (fun _ U_ o_ V_ => ∃ v_ L_, o_ = .returned v_ ∧ own_Q7_0 Z pp ax h0 n0 v_ V_.heap L_ ∧ FrameEnd U_ o_ V_ L_ ({ frames := 2, cells := 1, slots := 3, locals := 28 } : Room).cells ({ frames := 2, cells := 1, slots := 3, locals := 28 } : Room).slots) := by
  refine MetFree.of_bodySF (plainFor_of_name own_pn_com_example_adjacency_adjacency_wire_PrefixedBytes) hisR ?_
  intro p e s m args below meth c s₁ Bd hml0 hP hK
  obtain ⟨rfl, hZ, hh⟩ := hP
  have hx := Bd.exec
  have hby := Bd.bytes
  have hml : c.maxLocals = 1 := hml0
  have hown : s.vm.findClass "com/example/adjacency/adjacency/wire/PrefixedBytes" = some m.cls := findClass_of_methodNamed Bd.named
  have hnm := (name_of_methodNamed Bd.named Bd.method).1
  have X0 : Stand p l e ({ frames := 2, cells := 1, slots := 3, locals := 28 } : Room) s m #[(.ref pp)] below meth c s₁ [] 0 0 := Stand.of_body Bd
  have e0 : s₁.heap = h0 := by rw [← hh, Bd.state]; rfl
  have N0 := Fr.nil n0
  show own_G p e below s (own_Q7_0 Z pp ax h0 n0) ({ frames := 2, cells := 1, slots := 3, locals := 28 } : Room).cells ({ frames := 2, cells := 1, slots := 3, locals := 28 } : Room).slots s₁ (entryFrame m #[(.ref pp)] 1)
  rw [own_rm7_0_ef]
  refine own_w (T' := s₁) (g' := (mkF m 1 #[.val (.ref pp)] [(.ref pp)])) (fun _ k_ => XS.aloadN X0.here hx rfl (hb hby own_d7_0) rfl rfl k_) ?_
  obtain ⟨T1, X1, e1, st1⟩ := getF X0 hx hZ hown (host := "") (Or.inl (hw _ (List.mem_of_getElem? (i := 22) rfl))) Via.refl e0 F0 (g := (mkF m 1 #[.val (.ref pp)] [(.ref pp)])) rfl rfl (hb hby own_d7_1)
  refine own_w (T' := T1) (g' := (mkF m 4 #[.val (.ref pp)] [(.ref ax)])) st1 ?_
  refine own_w (T' := T1) (g' := (mkF m 5 #[.val (.ref pp)] [(.ref pp), (.ref ax)])) (fun _ k_ => XS.aloadN X1.here hx rfl (hb hby own_d7_4) rfl rfl k_) ?_
  obtain ⟨T2, X2, e2, st2⟩ := getF X1 hx hZ hown (host := "") (Or.inl (hw _ (List.mem_of_getElem? (i := 24) rfl))) Via.refl e1 F1 (g := (mkF m 5 #[.val (.ref pp)] [(.ref pp), (.ref ax)])) rfl rfl (hb hby own_d7_5)
  refine own_w (T' := T2) (g' := (mkF m 8 #[.val (.ref pp)] [(.int (0 : Int32)), (.ref ax)])) st2 ?_
  refine own_w (T' := T2) (g' := (mkF m 9 #[.val (.ref pp)] [(.ref pp), (.int (0 : Int32)), (.ref ax)])) (fun _ k_ => XS.aloadN X2.here hx rfl (hb hby own_d7_8) rfl rfl k_) ?_
  obtain ⟨T3, X3, e3, st3⟩ := getF X2 hx hZ hown (host := "") (Or.inl (hw _ (List.mem_of_getElem? (i := 24) rfl))) Via.refl e2 F1 (g := (mkF m 9 #[.val (.ref pp)] [(.ref pp), (.int (0 : Int32)), (.ref ax)])) rfl rfl (hb hby own_d7_9)
  refine own_w (T' := T3) (g' := (mkF m 12 #[.val (.ref pp)] [(.int (0 : Int32)), (.int (0 : Int32)), (.ref ax)])) st3 ?_
  refine own_w (T' := T3) (g' := (mkF m 13 #[.val (.ref pp)] [(.ref pp), (.int (0 : Int32)), (.int (0 : Int32)), (.ref ax)])) (fun _ k_ => XS.aloadN X3.here hx rfl (hb hby own_d7_12) rfl rfl k_) ?_
  obtain ⟨T4, X4, e4, st4⟩ := getF X3 hx hZ hown (host := "") (Or.inl (hw _ (List.mem_of_getElem? (i := 26) rfl))) Via.refl e3 F2 (g := (mkF m 13 #[.val (.ref pp)] [(.ref pp), (.int (0 : Int32)), (.int (0 : Int32)), (.ref ax)])) rfl rfl (hb hby own_d7_13)
  refine own_w (T' := T4) (g' := (mkF m 16 #[.val (.ref pp)] [(.int (0 : Int32)), (.int (0 : Int32)), (.int (0 : Int32)), (.ref ax)])) st4 ?_
  refine own_w (T' := T4) (g' := (mkF m 17 #[.val (.ref pp)] [(.int (0 : Int32)), (.int (0 : Int32)), (.ref ax)])) (fun _ k_ => XS.iadd X4.here hx rfl (hb hby own_d7_16) rfl k_) ?_
  obtain ⟨_, _, ⟨T5, L5, k5, n5⟩, -, X5, ⟨Lc5, hQ5, l5, y5, z5⟩, st5⟩ := Jvm.LawKit.callS X4 hx (y := (⟨"java/util/Arrays", "copyOfRange", "([BII)[B"⟩ : MethodName)) hown (mvT hZ (hw _ (List.mem_of_getElem? (i := 47) rfl))) (mvT hZ (hw _ (List.mem_of_getElem? (i := 48) rfl))) (mvT hZ (hw _ (List.mem_of_getElem? (i := 49) rfl))) (mvT hZ (hw _ (List.mem_of_getElem? (i := 50) rfl))) (by decide) (backOf (W := 0) (own_rm8_0 l Z a0 hw [] ax  h0 n0 Z0 Vx Ex hf) hZ (hw _ (List.mem_of_getElem? (i := 50) rfl)) (hw _ (List.mem_of_getElem? (i := 49) rfl)) (by decide) (by decide)) (g := (mkF m 17 #[.val (.ref pp)] [(.int (0 : Int32)), (.int (0 : Int32)), (.ref ax)])) rfl (by rw [hml]; rfl) (argsL := [(.ref ax), (.int (0 : Int32)), (.int (0 : Int32))]) (rest := []) (lenOf own_pd3 rfl) rfl (by show 2 * 0 + _ ≤ _; exact Nat.le_of_eq rfl) (hb hby own_d7_17) (fun _ _ => ⟨rfl, e4, (by decide : 0 + 1 ≤ _), (by decide : 0 + 3 ≤ _)⟩)
  dsimp only [Pt.U, Pt.locs, Pt.cells, Pt.slots] at X5 l5 y5 z5 st5 hQ5
  subst l5 y5 z5
  obtain ⟨h5, e5⟩ : ∃ h, T5.heap = h := ⟨_, rfl⟩
  rw [e5] at hQ5
  obtain ⟨rfl, N5q, K5, V5⟩ := hQ5
  have N5 := Fr.app N0 N5q
  refine own_w (T' := T5) (g' := (mkF m 20 #[.val (.ref pp)] [(.ref h0.size)])) st5 ?_
  obtain ⟨fs, hr, hrun, hended, hW, hsame⟩ := X5.leave (v := some (.ref h0.size)) (fun h => by rw [Bd.returns] at h; cases h)
  exact ⟨_, _, retOut X5 hx Bd.returns rfl (Or.inr (Or.inr (Or.inr (Or.inr ⟨rfl, rfl, rfl⟩)))) (hb hby own_d7_20) hr, hrun, hended, _, _, rfl, (by show own_Q7_0 Z pp ax h0 n0 _ T5.heap _; rw [e5]; exact ⟨rfl, N5, K5, V5⟩), ⟨_, rfl⟩, hW, hsame.mono (by decide) (by decide)⟩
theorem own_d1_0 : decode prog_31_method_2_code 0 = .ok (.new 8, 3) := by decide +kernel
theorem own_d1_3 : decode prog_31_method_2_code 3 = .ok (.dup, 1) := by decide +kernel
theorem own_d1_4 : decode prog_31_method_2_code 4 = .ok (.aload_n 0, 1) := by decide +kernel
theorem own_d1_5 : decode prog_31_method_2_code 5 = .ok (.invokevirtual 20, 3) := by decide +kernel
theorem own_d1_8 : decode prog_31_method_2_code 8 = .ok (.checkcast 21, 3) := by decide +kernel
theorem own_d1_11 : decode prog_31_method_2_code 11 = .ok (.iconst 0, 1) := by decide +kernel
theorem own_d1_12 : decode prog_31_method_2_code 12 = .ok (.aload_n 0, 1) := by decide +kernel
theorem own_d1_13 : decode prog_31_method_2_code 13 = .ok (.arraylength, 1) := by decide +kernel
theorem own_d1_14 : decode prog_31_method_2_code 14 = .ok (.invokespecial 25, 3) := by decide +kernel
theorem own_pd4 : parseMethodDescriptor "([BII)V" = some ⟨[(.array .byte), .int, .int], none⟩ := by decide +kernel
theorem own_d1_17 : decode prog_31_method_2_code 17 = .ok (.areturn, 1) := by decide +kernel
theorem own_rm1_0_ef (m : MethodId) (ax : Addr) : entryFrame m #[(.ref ax)] 1 = mkF m 0 #[.val (.ref ax)] [] := by first | (simp [entryFrame, mkF, argsToLocals, Value.category]; done) | rfl
def own_Q1_0 (Z : State) (ax : Addr) (h0 : Heap) (n0 : Nat) (v_ : Option Value) (h : Heap) (L_ : List Loc) : Prop := v_ = some (.ref h0.size) ∧ Fr n0 L_ ∧ (Keep h0 h []) ∧ (Exa Z h h0.size "com/example/adjacency/adjacency/wire/PrefixedBytes") ∧ (∃ ar, h0.size < ar ∧ Fld Z h h0.size "com/example/adjacency/adjacency/wire/PrefixedBytes" "array" "[B" (.ref ar) ∧ Fld Z h h0.size "com/example/adjacency/adjacency/wire/PrefixedBytes" "offset" "I" (.int (0 : Int32)) ∧ Fld Z h h0.size "com/example/adjacency/adjacency/wire/PrefixedBytes" "length" "I" (.int (0 : Int32)) ∧ own_Ar Z h ar .byte ([] : List Int32) ∧ Exa Z h ar "[B")
set_option maxRecDepth 65536 in
set_option maxHeartbeats 40000000 in
theorem own_rm1_0 (l : Launch) (Z : State) (a0 : Array Value) (hw : ∀ d ∈ tables_1, d.before a0 Z = true) (ws : List Jvm.Cond) (ax : Addr) (h0 : Heap) (n0 : Nat) (Z0 : n0 ≤ h0.size) (Vx : own_Ar Z h0 ax .byte ([] : List Int32)) (Ex : Exa Z h0 ax "[B") (hf : ∀ x ∈ ([] : List Int32), fits .byte (.int x) = true) :
    MetFree l (⟨"com/example/adjacency/adjacency/wire/PrefixedBytes", "copyOf", "([B)Lcom/example/adjacency/adjacency/wire/PrefixedBytes;"⟩ : MethodName) (head1 (Jvm.Cond.code (⟨"com/example/adjacency/adjacency/wire/PrefixedBytes", "copyOf", "([B)Lcom/example/adjacency/adjacency/wire/PrefixedBytes;"⟩ : MethodName) prog_31_method_2_code 1 (some (.object "com/example/adjacency/adjacency/wire/PrefixedBytes")) :: ws) ({ frames := 2, cells := 2, slots := 6, locals := 28 } : Room)) (fun a_ U_ => a_ = #[(.ref ax)] ∧ Z.Warmed39 U_.vm ∧ U_.heap = h0) (fun _ _ _ _ _ => True) (fun _ U_ o_ V_ => ∃ v_ L_, o_ = .returned v_ ∧ own_Q1_0 Z ax h0 n0 v_ V_.heap L_ ∧ FrameEnd U_ o_ V_ L_ ({ frames := 2, cells := 2, slots := 6, locals := 28 } : Room).cells ({ frames := 2, cells := 2, slots := 6, locals := 28 } : Room).slots) := by
  refine MetFree.of_bodySF (plainFor_of_name own_pn_com_example_adjacency_adjacency_wire_PrefixedBytes) hisR ?_
  intro p e s m args below meth c s₁ Bd hml0 hP hK
  obtain ⟨rfl, hZ, hh⟩ := hP
  have hx := Bd.exec
  have hby := Bd.bytes
  have hml : c.maxLocals = 1 := hml0
  have hown : s.vm.findClass "com/example/adjacency/adjacency/wire/PrefixedBytes" = some m.cls := findClass_of_methodNamed Bd.named
  have hnm := (name_of_methodNamed Bd.named Bd.method).1
  have X0 : Stand p l e ({ frames := 2, cells := 2, slots := 6, locals := 28 } : Room) s m #[(.ref ax)] below meth c s₁ [] 0 0 := Stand.of_body Bd
  have e0 : s₁.heap = h0 := by rw [← hh, Bd.state]; rfl
  have N0 := Fr.nil n0
  show own_G p e below s (own_Q1_0 Z ax h0 n0) ({ frames := 2, cells := 2, slots := 6, locals := 28 } : Room).cells ({ frames := 2, cells := 2, slots := 6, locals := 28 } : Room).slots s₁ (entryFrame m #[(.ref ax)] 1)
  rw [own_rm1_0_ef]
  obtain ⟨T1, h1, X1, e1, E1, A1, D1, -, st1⟩ := newO X0 hx hZ hown (hw _ (List.mem_of_getElem? (i := 5) rfl)) (hw _ (List.mem_of_getElem? (i := 6) rfl)) (hw _ (List.mem_of_getElem? (i := 3) rfl)) e0 (g := (mkF m 0 #[.val (.ref ax)] [])) rfl (hb hby own_d1_0) (by decide) (by decide)
  obtain ⟨b1, gq1⟩ : ∃ z, z = h0.size := ⟨_, rfl⟩
  rw [← gq1] at A1 D1 st1
  have g_b1 : n0 ≤ b1 := Nat.le_trans Z0 (Nat.le_of_eq gq1.symm)
  have Z1 : n0 ≤ h1.size := Nat.le_trans Z0 E1.1
  refine own_w (T' := T1) (g' := (mkF m 3 #[.val (.ref ax)] [(.ref b1)])) st1 ?_
  refine own_w (T' := T1) (g' := (mkF m 4 #[.val (.ref ax)] [(.ref b1), (.ref b1)])) (fun _ k_ => XS.dup X1.here hx rfl (hb hby own_d1_3) rfl rfl k_) ?_
  refine own_w (T' := T1) (g' := (mkF m 5 #[.val (.ref ax)] [(.ref ax), (.ref b1), (.ref b1)])) (fun _ k_ => XS.aloadN X1.here hx rfl (hb hby own_d1_4) rfl rfl k_) ?_
  obtain ⟨cl2, Ar2, hs2⟩ := id (own_Ar_ext Vx E1)
  obtain ⟨T2, h2, X2, e2, E2, A2, Xa2, st2⟩ := cloneA X1 hx hZ hown (hw _ (List.mem_of_getElem? (i := 7) rfl)) (hw _ (List.mem_of_getElem? (i := 8) rfl)) (hw _ (List.mem_of_getElem? (i := 12) rfl)) (hw _ (List.mem_of_getElem? (i := 10) rfl)) (hw _ (List.mem_of_getElem? (i := 11) rfl)) (hw _ (List.mem_of_getElem? (i := 13) rfl)) e1 Ar2 (Ex.ext E1) (own_fitc Ar2 hs2 hf) (g := (mkF m 5 #[.val (.ref ax)] [(.ref ax), (.ref b1), (.ref b1)])) rfl (by rw [hml]; rfl) rfl (hb hby own_d1_5) (by decide) (W := 2) (cap := 3) (by show 2 * 0 + _ ≤ _; exact Nat.le_of_eq rfl) (by decide) (by rw [hs2]; simp) (by decide) (by decide)
  obtain ⟨b2, gq2⟩ : ∃ z, z = h1.size := ⟨_, rfl⟩
  rw [← gq2] at A2 Xa2 st2
  have V_b2 : own_Ar Z h2 b2 _ _ := ⟨_, A2, hs2⟩
  have X_b2 := Xa2
  have g_b2 : n0 ≤ b2 := Nat.le_trans Z1 (Nat.le_of_eq gq2.symm)
  have Z2 : n0 ≤ h2.size := Nat.le_trans Z1 E2.1
  refine own_w (T' := T2) (g' := (mkF m 8 #[.val (.ref ax)] [(.ref b2), (.ref b1), (.ref b1)])) st2 ?_
  obtain ⟨T3, X3, e3, st3⟩ := castY X2 hx hZ hown (hw _ (List.mem_of_getElem? (i := 14) rfl)) e2 (Ins.self X_b2) (g := (mkF m 8 #[.val (.ref ax)] [(.ref b2), (.ref b1), (.ref b1)])) rfl rfl (hb hby own_d1_8)
  refine own_w (T' := T3) (g' := (mkF m 11 #[.val (.ref ax)] [(.ref b2), (.ref b1), (.ref b1)])) st3 ?_
  refine own_w (T' := T3) (g' := (mkF m 12 #[.val (.ref ax)] [(.int (0 : Int32)), (.ref b2), (.ref b1), (.ref b1)])) (fun _ k_ => XS.iconst X3.here hx rfl (hb hby own_d1_11) k_) ?_
  refine own_w (T' := T3) (g' := (mkF m 13 #[.val (.ref ax)] [(.ref ax), (.int (0 : Int32)), (.ref b2), (.ref b1), (.ref b1)])) (fun _ k_ => XS.aloadN X3.here hx rfl (hb hby own_d1_12) rfl rfl k_) ?_
  obtain ⟨cl4, Ar4, hs4⟩ := id (own_Ar_ext (own_Ar_ext Vx E1) E2)
  have hl4 : cl4.slots.size.toInt32 = (0 : Int32) := by rw [hs4]; rfl
  refine own_w (T' := T3) (g' := (mkF m 14 #[.val (.ref ax)] [(.int (0 : Int32)), (.int (0 : Int32)), (.ref b2), (.ref b1), (.ref b1)])) (fun t_ k_ => X3.arraylength hx (by rw [e3]; exact Ar4.1) (State.isArrayOf_alike hZ.alike Ar4.2.1) (g := (mkF m 13 #[.val (.ref ax)] [(.ref ax), (.int (0 : Int32)), (.ref b2), (.ref b1), (.ref b1)])) rfl rfl (hb hby own_d1_13) t_ (by rw [hl4]; exact k_)) ?_
  obtain ⟨_, _, ⟨T5, L5, k5, n5⟩, -, X5, ⟨Lc5, hQ5, l5, y5, z5⟩, st5⟩ := X3.specialBack hx (y := (⟨"com/example/adjacency/adjacency/wire/PrefixedBytes", "<init>", "([BII)V"⟩ : MethodName)) rfl hown (mvT hZ (hw _ (List.mem_of_getElem? (i := 16) rfl))) (mvT hZ (hw _ (List.mem_of_getElem? (i := 17) rfl))) (mvT hZ (hw _ (List.mem_of_getElem? (i := 18) rfl))) (by decide) (backOf (W := 1) (own_rm2 l Z a0 hw [] b1 b2 (0 : Int32) (0 : Int32) _ _ _ h2 n0 Z2 ((D1 (Or.inr (hw _ (List.mem_of_getElem? (i := 23) rfl))) (ty := (.array .byte)) (by decide)).ext E2) ((D1 (Or.inr (hw _ (List.mem_of_getElem? (i := 25) rfl))) (ty := .int) (by decide)).ext E2) ((D1 (Or.inr (hw _ (List.mem_of_getElem? (i := 27) rfl))) (ty := .int) (by decide)).ext E2) (A1.ext E2) g_b1) hZ (hw _ (List.mem_of_getElem? (i := 18) rfl)) (hw _ (List.mem_of_getElem? (i := 3) rfl)) (by decide) (by decide)) (g := (mkF m 14 #[.val (.ref ax)] [(.int (0 : Int32)), (.int (0 : Int32)), (.ref b2), (.ref b1), (.ref b1)])) rfl (by rw [hml]; rfl) (Steps.refl _) (a := b1) (argsL := [(.ref b2), (.int (0 : Int32)), (.int (0 : Int32))]) (rest := [(.ref b1)]) (lenOf own_pd4 rfl) rfl (by show 2 * 0 + _ ≤ _; exact Nat.le_of_eq rfl) (hb hby own_d1_14) (fun _ _ => ⟨rfl, e3, (by decide : 2 + 0 ≤ _), (by decide : 6 + 0 ≤ _)⟩)
  dsimp only [Pt.U, Pt.locs, Pt.cells, Pt.slots] at X5 l5 y5 z5 st5 hQ5
  subst l5 y5 z5
  obtain ⟨h5, e5⟩ : ∃ h, T5.heap = h := ⟨_, rfl⟩
  rw [e5] at hQ5
  obtain ⟨rfl, N5q, K5, P50, P51, P52⟩ := hQ5
  have N5 := Fr.app N0 N5q
  refine own_t (T' := T5) (g' := (mkF m 17 #[.val (.ref ax)] [(.ref b1)])) st5 ?_
  have lt : b1 < b2 := Nat.lt_of_lt_of_le A1.lt (Nat.le_of_eq gq2.symm)
  have KA : Keep h0 h5 [] := (((Keep.refl h0 []).ext E1).ext E2).trans K5 (fun x hx => Or.inr (by have q := List.mem_singleton.mp hx; rw [q]; exact Nat.le_of_eq gq1.symm))
  have VA := own_Ar_keep V_b2 K5 (by simpa using Nat.ne_of_gt lt)
  have XA := X_b2.keep K5
  have EA := (A1.ext E2).keep K5
  obtain ⟨fs, hr, hrun, hended, hW, hsame⟩ := X5.leave (v := some (.ref b1)) (fun h => by rw [Bd.returns] at h; cases h)
  exact ⟨_, _, retOut X5 hx Bd.returns rfl (Or.inr (Or.inr (Or.inr (Or.inr ⟨rfl, rfl, rfl⟩)))) (hb hby own_d1_17) hr, hrun, hended, _, _, rfl, (by show own_Q1_0 Z ax h0 n0 _ T5.heap _; rw [e5]; exact ⟨(by rw [gq1]), N5, KA, gq1 ▸ EA, ⟨b2, gq1 ▸ lt, gq1 ▸ P50, gq1 ▸ P51, gq1 ▸ P52, VA, XA⟩⟩), ⟨_, rfl⟩, hW, hsame.mono (by decide) (by decide)⟩
theorem own_d4_12 : decode method_3_code 12 = .ok (.aload_n 0, 1) := by decide +kernel
theorem own_d4_13 : decode method_3_code 13 = .ok (.iconst 0, 1) := by decide +kernel
theorem own_d4_14 : decode method_3_code 14 = .ok (.baload, 1) := by decide +kernel
theorem own_d4_15 : decode method_3_code 15 = .ok (.aload_n 1, 1) := by decide +kernel
theorem own_d4_16 : decode method_3_code 16 = .ok (.iconst 0, 1) := by decide +kernel
theorem own_d4_17 : decode method_3_code 17 = .ok (.baload, 1) := by decide +kernel
theorem own_d4_18 : decode method_3_code 18 = .ok (.if_icmp .eq 5, 3) := by decide +kernel
theorem own_d4_21 : decode method_3_code 21 = .ok (.iconst 0, 1) := by decide +kernel
theorem own_d4_22 : decode method_3_code 22 = .ok (.ireturn, 1) := by decide +kernel
theorem own_rm4_1_ef (m : MethodId) (ax : Addr) (ay : Addr) : entryFrame m #[(.ref ax), (.ref ay), (.int (1 : Int32))] 3 = mkF m 0 #[.val (.ref ax), .val (.ref ay), .val (.int (1 : Int32))] [] := by first | (simp [entryFrame, mkF, argsToLocals, Value.category]; done) | rfl
def own_Q4_1 (Z : State) (ax : Addr) (ay : Addr) (x0 : Int32) (y0 : Int32) (h0 : Heap) (n0 : Nat) (v_ : Option Value) (h : Heap) (L_ : List Loc) : Prop := v_ = some (.int (if ([x0] = [y0]) then (1 : Int32) else 0)) ∧ Fr n0 L_ ∧ (h = h0)
set_option maxRecDepth 65536 in
set_option maxHeartbeats 40000000 in
theorem own_rm4_1 (l : Launch) (Z : State) (a0 : Array Value) (hw : ∀ d ∈ tables_1, d.before a0 Z = true) (ws : List Jvm.Cond) (ax : Addr) (ay : Addr) (x0 : Int32) (y0 : Int32) (h0 : Heap) (n0 : Nat) (Z0 : n0 ≤ h0.size) (Vx : own_Ar Z h0 ax .byte [x0]) (Vy : own_Ar Z h0 ay .byte [y0]) :
    MetFree l (⟨"com/example/adjacency/adjacency/wire/PrefixedBytesCopyOfPinLaw", "same", "([B[BI)Z"⟩ : MethodName) (head1 (Jvm.Cond.code (⟨"com/example/adjacency/adjacency/wire/PrefixedBytesCopyOfPinLaw", "same", "([B[BI)Z"⟩ : MethodName) method_3_code 3 (some .boolean) :: ws) ({ frames := 0, cells := 0, slots := 0, locals := 0 } : Room)) (fun a_ U_ => a_ = #[(.ref ax), (.ref ay), (.int (1 : Int32))] ∧ Z.Warmed39 U_.vm ∧ U_.heap = h0) (fun _ _ _ _ _ => True) (fun _ U_ o_ V_ => ∃ v_ L_, o_ = .returned v_ ∧ own_Q4_1 Z ax ay x0 y0 h0 n0 v_ V_.heap L_ ∧ FrameEnd U_ o_ V_ L_ ({ frames := 0, cells := 0, slots := 0, locals := 0 } : Room).cells ({ frames := 0, cells := 0, slots := 0, locals := 0 } : Room).slots) := by
  refine MetFree.of_bodySF (plainFor_of_name own_pn_com_example_adjacency_adjacency_wire_PrefixedBytesCopyOfPinLaw) hisR ?_
  intro p e s m args below meth c s₁ Bd hml0 hP hK
  obtain ⟨rfl, hZ, hh⟩ := hP
  have hx := Bd.exec
  have hby := Bd.bytes
  have hml : c.maxLocals = 3 := hml0
  have hown : s.vm.findClass "com/example/adjacency/adjacency/wire/PrefixedBytesCopyOfPinLaw" = some m.cls := findClass_of_methodNamed Bd.named
  have hnm := (name_of_methodNamed Bd.named Bd.method).1
  have X0 : Stand p l e ({ frames := 0, cells := 0, slots := 0, locals := 0 } : Room) s m #[(.ref ax), (.ref ay), (.int (1 : Int32))] below meth c s₁ [] 0 0 := Stand.of_body Bd
  have e0 : s₁.heap = h0 := by rw [← hh, Bd.state]; rfl
  have N0 := Fr.nil n0
  show own_G p e below s (own_Q4_1 Z ax ay x0 y0 h0 n0) ({ frames := 0, cells := 0, slots := 0, locals := 0 } : Room).cells ({ frames := 0, cells := 0, slots := 0, locals := 0 } : Room).slots s₁ (entryFrame m #[(.ref ax), (.ref ay), (.int (1 : Int32))] 3)
  rw [own_rm4_1_ef]
  refine own_w (T' := s₁) (g' := (mkF m 1 #[.val (.ref ax), .val (.ref ay), .val (.int (1 : Int32))] [(.ref ax)])) (fun _ k_ => XS.aloadN X0.here hx rfl (hb hby own_d4_0) rfl rfl k_) ?_
  obtain ⟨cl1, Ar1, hs1⟩ := id Vx
  have hl1 : cl1.slots.size.toInt32 = (1 : Int32) := by rw [hs1]; rfl
  refine own_w (T' := s₁) (g' := (mkF m 2 #[.val (.ref ax), .val (.ref ay), .val (.int (1 : Int32))] [(.int (1 : Int32))])) (fun t_ k_ => X0.arraylength hx (by rw [e0]; exact Ar1.1) (State.isArrayOf_alike hZ.alike Ar1.2.1) (g := (mkF m 1 #[.val (.ref ax), .val (.ref ay), .val (.int (1 : Int32))] [(.ref ax)])) rfl rfl (hb hby own_d4_1) t_ (by rw [hl1]; exact k_)) ?_
  refine own_w (T' := s₁) (g' := (mkF m 3 #[.val (.ref ax), .val (.ref ay), .val (.int (1 : Int32))] [(.int (1 : Int32)), (.int (1 : Int32))])) (fun _ k_ => XS.iloadN X0.here hx rfl (hb hby own_d4_2) rfl k_) ?_
  refine own_w (T' := s₁) (g' := (mkF m 8 #[.val (.ref ax), .val (.ref ay), .val (.int (1 : Int32))] [])) (fun _ k_ => XS.icmpYes X0.here hx rfl (pc0 := 3) (pc' := 8) rfl (hb hby own_d4_3) rfl (teq (by decide)).1 (by decide) (by decide) k_) ?_
  refine own_w (T' := s₁) (g' := (mkF m 9 #[.val (.ref ax), .val (.ref ay), .val (.int (1 : Int32))] [(.int (1 : Int32))])) (fun _ k_ => XS.iloadN X0.here hx rfl (hb hby own_d4_8) rfl k_) ?_
  refine own_w (T' := s₁) (g' := (mkF m 12 #[.val (.ref ax), .val (.ref ay), .val (.int (1 : Int32))] [])) (fun _ k_ => XS.ifNo X0.here hx rfl (hb hby own_d4_9) rfl ((if0 _ _).trans (tlt (by decide)).2.2.2) k_) ?_
  refine own_w (T' := s₁) (g' := (mkF m 13 #[.val (.ref ax), .val (.ref ay), .val (.int (1 : Int32))] [(.ref ax)])) (fun _ k_ => XS.aloadN X0.here hx rfl (hb hby own_d4_12) rfl rfl k_) ?_
  refine own_w (T' := s₁) (g' := (mkF m 14 #[.val (.ref ax), .val (.ref ay), .val (.int (1 : Int32))] [(.int (0 : Int32)), (.ref ax)])) (fun _ k_ => XS.iconst X0.here hx rfl (hb hby own_d4_13) k_) ?_
  obtain ⟨cl2, Ar2, hs2⟩ := id Vx
  refine own_w (T' := s₁) (g' := (mkF m 15 #[.val (.ref ax), .val (.ref ay), .val (.int (1 : Int32))] [(.int x0)])) (fun t_ k_ => X0.baloadBytes hx (j := (0 : Int32)) (v := .int x0) (by rw [e0]; exact Ar2.1) (State.isArrayOf_alike hZ.alike Ar2.2.1) Ar2.2.2 (own_Ar_in (i := 0) hs2 (by decide) (own_get_lt (show _ = some x0 from rfl))) (own_Ar_at (i := 0) hs2 (by decide) (show _ = some x0 from rfl)) (g := (mkF m 14 #[.val (.ref ax), .val (.ref ay), .val (.int (1 : Int32))] [(.int (0 : Int32)), (.ref ax)])) rfl rfl (hb hby own_d4_14) t_ k_) ?_
  refine own_w (T' := s₁) (g' := (mkF m 16 #[.val (.ref ax), .val (.ref ay), .val (.int (1 : Int32))] [(.ref ay), (.int x0)])) (fun _ k_ => XS.aloadN X0.here hx rfl (hb hby own_d4_15) rfl rfl k_) ?_
  refine own_w (T' := s₁) (g' := (mkF m 17 #[.val (.ref ax), .val (.ref ay), .val (.int (1 : Int32))] [(.int (0 : Int32)), (.ref ay), (.int x0)])) (fun _ k_ => XS.iconst X0.here hx rfl (hb hby own_d4_16) k_) ?_
  obtain ⟨cl3, Ar3, hs3⟩ := id Vy
  refine own_w (T' := s₁) (g' := (mkF m 18 #[.val (.ref ax), .val (.ref ay), .val (.int (1 : Int32))] [(.int y0), (.int x0)])) (fun t_ k_ => X0.baloadBytes hx (j := (0 : Int32)) (v := .int y0) (by rw [e0]; exact Ar3.1) (State.isArrayOf_alike hZ.alike Ar3.2.1) Ar3.2.2 (own_Ar_in (i := 0) hs3 (by decide) (own_get_lt (show _ = some y0 from rfl))) (own_Ar_at (i := 0) hs3 (by decide) (show _ = some y0 from rfl)) (g := (mkF m 17 #[.val (.ref ax), .val (.ref ay), .val (.int (1 : Int32))] [(.int (0 : Int32)), (.ref ay), (.int x0)])) rfl rfl (hb hby own_d4_17) t_ k_) ?_
  by_cases hc18 : x0 = y0
  · refine own_w (T' := s₁) (g' := (mkF m 23 #[.val (.ref ax), .val (.ref ay), .val (.int (1 : Int32))] [])) (fun _ k_ => XS.icmpYes X0.here hx rfl (pc0 := 18) (pc' := 23) rfl (hb hby own_d4_18) rfl (teq hc18).1 (by decide) (by decide) k_) ?_
    refine own_w (T' := s₁) (g' := (mkF m 24 #[.val (.ref ax), .val (.ref ay), .val (.int (1 : Int32))] [(.int (1 : Int32))])) (fun _ k_ => XS.iloadN X0.here hx rfl (hb hby own_d4_23) rfl k_) ?_
    refine own_w (T' := s₁) (g' := (mkF m 25 #[.val (.ref ax), .val (.ref ay), .val (.int (1 : Int32))] [(.int (1 : Int32)), (.int (1 : Int32))])) (fun _ k_ => XS.iconst X0.here hx rfl (hb hby own_d4_24) k_) ?_
    refine own_w (T' := s₁) (g' := (mkF m 39 #[.val (.ref ax), .val (.ref ay), .val (.int (1 : Int32))] [])) (fun _ k_ => XS.icmpYes X0.here hx rfl (pc0 := 25) (pc' := 39) rfl (hb hby own_d4_25) rfl (flt (by decide)).2.2.2 (by decide) (by decide) k_) ?_
    refine own_w (T' := s₁) (g' := (mkF m 40 #[.val (.ref ax), .val (.ref ay), .val (.int (1 : Int32))] [(.int (1 : Int32))])) (fun _ k_ => XS.iloadN X0.here hx rfl (hb hby own_d4_39) rfl k_) ?_
    refine own_w (T' := s₁) (g' := (mkF m 41 #[.val (.ref ax), .val (.ref ay), .val (.int (1 : Int32))] [(.int (2 : Int32)), (.int (1 : Int32))])) (fun _ k_ => XS.iconst X0.here hx rfl (hb hby own_d4_40) k_) ?_
    refine own_w (T' := s₁) (g' := (mkF m 55 #[.val (.ref ax), .val (.ref ay), .val (.int (1 : Int32))] [])) (fun _ k_ => XS.icmpYes X0.here hx rfl (pc0 := 41) (pc' := 55) rfl (hb hby own_d4_41) rfl (flt (by decide)).2.2.2 (by decide) (by decide) k_) ?_
    refine own_w (T' := s₁) (g' := (mkF m 56 #[.val (.ref ax), .val (.ref ay), .val (.int (1 : Int32))] [(.int (1 : Int32))])) (fun _ k_ => XS.iconst X0.here hx rfl (hb hby own_d4_55) k_) ?_
    obtain ⟨fs, hr, hrun, hended, hW, hsame⟩ := X0.leave (v := some (.int (1 : Int32))) (fun h => by rw [Bd.returns] at h; cases h)
    exact ⟨_, _, retOut X0 hx Bd.returns rfl (Or.inl ⟨rfl, Or.inr (Or.inl rfl), _, rfl⟩) (hb hby own_d4_56) hr, hrun, hended, _, _, rfl, (by show own_Q4_1 Z ax ay x0 y0 h0 n0 _ s₁.heap _; rw [e0]; exact ⟨(by simp [hc18]), N0, rfl⟩), ⟨_, rfl⟩, hW, hsame.mono (by decide) (by decide)⟩
  · refine own_w (T' := s₁) (g' := (mkF m 21 #[.val (.ref ax), .val (.ref ay), .val (.int (1 : Int32))] [])) (fun _ k_ => XS.icmpNo X0.here hx rfl (hb hby own_d4_18) rfl (feq hc18).1 k_) ?_
    refine own_w (T' := s₁) (g' := (mkF m 22 #[.val (.ref ax), .val (.ref ay), .val (.int (1 : Int32))] [(.int (0 : Int32))])) (fun _ k_ => XS.iconst X0.here hx rfl (hb hby own_d4_21) k_) ?_
    obtain ⟨fs, hr, hrun, hended, hW, hsame⟩ := X0.leave (v := some (.int (0 : Int32))) (fun h => by rw [Bd.returns] at h; cases h)
    exact ⟨_, _, retOut X0 hx Bd.returns rfl (Or.inl ⟨rfl, Or.inr (Or.inl rfl), _, rfl⟩) (hb hby own_d4_22) hr, hrun, hended, _, _, rfl, (by show own_Q4_1 Z ax ay x0 y0 h0 n0 _ s₁.heap _; rw [e0]; exact ⟨(by simp [hc18]), N0, rfl⟩), ⟨_, rfl⟩, hW, hsame.mono (by decide) (by decide)⟩
theorem own_d12_77 : decode jdk_48_method_14_code 77 = .ok (.aload_n 0, 1) := by decide +kernel
theorem own_d12_78 : decode jdk_48_method_14_code 78 = .ok (.iload_n 1, 1) := by decide +kernel
theorem own_d12_79 : decode jdk_48_method_14_code 79 = .ok (.iload 5, 2) := by decide +kernel
theorem own_d12_81 : decode jdk_48_method_14_code 81 = .ok (.iadd, 1) := by decide +kernel
theorem own_d12_82 : decode jdk_48_method_14_code 82 = .ok (.baload, 1) := by decide +kernel
theorem own_d12_83 : decode jdk_48_method_14_code 83 = .ok (.aload_n 2, 1) := by decide +kernel
theorem own_d12_84 : decode jdk_48_method_14_code 84 = .ok (.iload_n 3, 1) := by decide +kernel
theorem own_d12_85 : decode jdk_48_method_14_code 85 = .ok (.iload 5, 2) := by decide +kernel
theorem own_d12_87 : decode jdk_48_method_14_code 87 = .ok (.iadd, 1) := by decide +kernel
theorem own_d12_88 : decode jdk_48_method_14_code 88 = .ok (.baload, 1) := by decide +kernel
theorem own_d12_89 : decode jdk_48_method_14_code 89 = .ok (.if_icmp .eq 6, 3) := by decide +kernel
theorem own_d12_95 : decode jdk_48_method_14_code 95 = .ok (.iinc 5 1, 3) := by decide +kernel
theorem own_d12_98 : decode jdk_48_method_14_code 98 = .ok (.goto (-28), 3) := by decide +kernel
theorem own_d12_92 : decode jdk_48_method_14_code 92 = .ok (.iload 5, 2) := by decide +kernel
theorem own_d12_94 : decode jdk_48_method_14_code 94 = .ok (.ireturn, 1) := by decide +kernel
theorem own_rm12_1_ef (m : MethodId) (ax : Addr) (ay : Addr) : entryFrame m #[(.ref ax), (.int (0 : Int32)), (.ref ay), (.int (0 : Int32)), (.int (1 : Int32))] 8 = mkF m 0 #[.val (.ref ax), .val (.int (0 : Int32)), .val (.ref ay), .val (.int (0 : Int32)), .val (.int (1 : Int32)), .unset, .unset, .unset] [] := by first | (simp [entryFrame, mkF, argsToLocals, Value.category]; done) | rfl
def own_Q12_1 (Z : State) (ax : Addr) (ay : Addr) (x0 : Int32) (y0 : Int32) (h0 : Heap) (n0 : Nat) (v_ : Option Value) (h : Heap) (L_ : List Loc) : Prop := v_ = some (.int (if x0 = y0 then (-1 : Int32) else (0 : Int32))) ∧ Fr n0 L_ ∧ (h = h0)
set_option maxRecDepth 65536 in
set_option maxHeartbeats 40000000 in
theorem own_rm12_1 (l : Launch) (Z : State) (a0 : Array Value) (hw : ∀ d ∈ tables_1, d.before a0 Z = true) (ws : List Jvm.Cond) (ax : Addr) (ay : Addr) (x0 : Int32) (y0 : Int32) (h0 : Heap) (n0 : Nat) (Z0 : n0 ≤ h0.size) (Vx : own_Ar Z h0 ax .byte [x0]) (Vy : own_Ar Z h0 ay .byte [y0]) :
    MetFree l (⟨"jdk/internal/util/ArraysSupport", "mismatch", "([BI[BII)I"⟩ : MethodName) (head1 (Jvm.Cond.code (⟨"jdk/internal/util/ArraysSupport", "mismatch", "([BI[BII)I"⟩ : MethodName) jdk_48_method_14_code 8 (some .int) :: ws) ({ frames := 0, cells := 0, slots := 0, locals := 0 } : Room)) (fun a_ U_ => a_ = #[(.ref ax), (.int (0 : Int32)), (.ref ay), (.int (0 : Int32)), (.int (1 : Int32))] ∧ Z.Warmed39 U_.vm ∧ U_.heap = h0) (fun _ _ _ _ _ => True) (fun _ U_ o_ V_ => ∃ v_ L_, o_ = .returned v_ ∧ own_Q12_1 Z ax ay x0 y0 h0 n0 v_ V_.heap L_ ∧ FrameEnd U_ o_ V_ L_ ({ frames := 0, cells := 0, slots := 0, locals := 0 } : Room).cells ({ frames := 0, cells := 0, slots := 0, locals := 0 } : Room).slots) := by
  refine MetFree.of_bodySF (plainFor_of_name own_pn_jdk_internal_util_ArraysSupport) hisR ?_
  intro p e s m args below meth c s₁ Bd hml0 hP hK
  obtain ⟨rfl, hZ, hh⟩ := hP
  have hx := Bd.exec
  have hby := Bd.bytes
  have hml : c.maxLocals = 8 := hml0
  have hown : s.vm.findClass "jdk/internal/util/ArraysSupport" = some m.cls := findClass_of_methodNamed Bd.named
  have hnm := (name_of_methodNamed Bd.named Bd.method).1
  have X0 : Stand p l e ({ frames := 0, cells := 0, slots := 0, locals := 0 } : Room) s m #[(.ref ax), (.int (0 : Int32)), (.ref ay), (.int (0 : Int32)), (.int (1 : Int32))] below meth c s₁ [] 0 0 := Stand.of_body Bd
  have e0 : s₁.heap = h0 := by rw [← hh, Bd.state]; rfl
  have N0 := Fr.nil n0
  show own_G p e below s (own_Q12_1 Z ax ay x0 y0 h0 n0) ({ frames := 0, cells := 0, slots := 0, locals := 0 } : Room).cells ({ frames := 0, cells := 0, slots := 0, locals := 0 } : Room).slots s₁ (entryFrame m #[(.ref ax), (.int (0 : Int32)), (.ref ay), (.int (0 : Int32)), (.int (1 : Int32))] 8)
  rw [own_rm12_1_ef]
  refine own_w (T' := s₁) (g' := (mkF m 1 #[.val (.ref ax), .val (.int (0 : Int32)), .val (.ref ay), .val (.int (0 : Int32)), .val (.int (1 : Int32)), .unset, .unset, .unset] [(.int (0 : Int32))])) (fun _ k_ => XS.iconst X0.here hx rfl (hb hby own_d12_0) k_) ?_
  refine own_w (T' := s₁) (g' := (mkF m 3 #[.val (.ref ax), .val (.int (0 : Int32)), .val (.ref ay), .val (.int (0 : Int32)), .val (.int (1 : Int32)), .val (.int (0 : Int32)), .unset, .unset] [])) (fun _ k_ => XS.istore X0.here hx rfl (hb hby own_d12_1) rfl (l' := #[.val (.ref ax), .val (.int (0 : Int32)), .val (.ref ay), .val (.int (0 : Int32)), .val (.int (1 : Int32)), .val (.int (0 : Int32)), .unset, .unset]) rfl k_) ?_
  refine own_w (T' := s₁) (g' := (mkF m 5 #[.val (.ref ax), .val (.int (0 : Int32)), .val (.ref ay), .val (.int (0 : Int32)), .val (.int (1 : Int32)), .val (.int (0 : Int32)), .unset, .unset] [(.int (1 : Int32))])) (fun _ k_ => XS.iload X0.here hx rfl (hb hby own_d12_3) rfl k_) ?_
  refine own_w (T' := s₁) (g' := (mkF m 7 #[.val (.ref ax), .val (.int (0 : Int32)), .val (.ref ay), .val (.int (0 : Int32)), .val (.int (1 : Int32)), .val (.int (0 : Int32)), .unset, .unset] [(.int (7 : Int32)), (.int (1 : Int32))])) (fun _ k_ => XS.bipush X0.here hx rfl (hb hby own_d12_5) k_) ?_
  refine own_w (T' := s₁) (g' := (mkF m 70 #[.val (.ref ax), .val (.int (0 : Int32)), .val (.ref ay), .val (.int (0 : Int32)), .val (.int (1 : Int32)), .val (.int (0 : Int32)), .unset, .unset] [])) (fun _ k_ => XS.icmpYes X0.here hx rfl (pc0 := 7) (pc' := 70) rfl (hb hby own_d12_7) rfl (flt (by decide)).2.2.2 (by decide) (by decide) k_) ?_
  refine own_w (T' := s₁) (g' := (mkF m 72 #[.val (.ref ax), .val (.int (0 : Int32)), .val (.ref ay), .val (.int (0 : Int32)), .val (.int (1 : Int32)), .val (.int (0 : Int32)), .unset, .unset] [(.int (0 : Int32))])) (fun _ k_ => XS.iload X0.here hx rfl (hb hby own_d12_70) rfl k_) ?_
  refine own_w (T' := s₁) (g' := (mkF m 74 #[.val (.ref ax), .val (.int (0 : Int32)), .val (.ref ay), .val (.int (0 : Int32)), .val (.int (1 : Int32)), .val (.int (0 : Int32)), .unset, .unset] [(.int (1 : Int32)), (.int (0 : Int32))])) (fun _ k_ => XS.iload X0.here hx rfl (hb hby own_d12_72) rfl k_) ?_
  refine own_w (T' := s₁) (g' := (mkF m 77 #[.val (.ref ax), .val (.int (0 : Int32)), .val (.ref ay), .val (.int (0 : Int32)), .val (.int (1 : Int32)), .val (.int (0 : Int32)), .unset, .unset] [])) (fun _ k_ => XS.icmpNo X0.here hx rfl (hb hby own_d12_74) rfl (tlt (by decide)).2.1 k_) ?_
  refine own_w (T' := s₁) (g' := (mkF m 78 #[.val (.ref ax), .val (.int (0 : Int32)), .val (.ref ay), .val (.int (0 : Int32)), .val (.int (1 : Int32)), .val (.int (0 : Int32)), .unset, .unset] [(.ref ax)])) (fun _ k_ => XS.aloadN X0.here hx rfl (hb hby own_d12_77) rfl rfl k_) ?_
  refine own_w (T' := s₁) (g' := (mkF m 79 #[.val (.ref ax), .val (.int (0 : Int32)), .val (.ref ay), .val (.int (0 : Int32)), .val (.int (1 : Int32)), .val (.int (0 : Int32)), .unset, .unset] [(.int (0 : Int32)), (.ref ax)])) (fun _ k_ => XS.iloadN X0.here hx rfl (hb hby own_d12_78) rfl k_) ?_
  refine own_w (T' := s₁) (g' := (mkF m 81 #[.val (.ref ax), .val (.int (0 : Int32)), .val (.ref ay), .val (.int (0 : Int32)), .val (.int (1 : Int32)), .val (.int (0 : Int32)), .unset, .unset] [(.int (0 : Int32)), (.int (0 : Int32)), (.ref ax)])) (fun _ k_ => XS.iload X0.here hx rfl (hb hby own_d12_79) rfl k_) ?_
  refine own_w (T' := s₁) (g' := (mkF m 82 #[.val (.ref ax), .val (.int (0 : Int32)), .val (.ref ay), .val (.int (0 : Int32)), .val (.int (1 : Int32)), .val (.int (0 : Int32)), .unset, .unset] [(.int (0 : Int32)), (.ref ax)])) (fun _ k_ => XS.iadd X0.here hx rfl (hb hby own_d12_81) rfl k_) ?_
  obtain ⟨cl1, Ar1, hs1⟩ := id Vx
  refine own_w (T' := s₁) (g' := (mkF m 83 #[.val (.ref ax), .val (.int (0 : Int32)), .val (.ref ay), .val (.int (0 : Int32)), .val (.int (1 : Int32)), .val (.int (0 : Int32)), .unset, .unset] [(.int x0)])) (fun t_ k_ => X0.baloadBytes hx (j := (0 : Int32)) (v := .int x0) (by rw [e0]; exact Ar1.1) (State.isArrayOf_alike hZ.alike Ar1.2.1) Ar1.2.2 (own_Ar_in (i := 0) hs1 (by decide) (own_get_lt (show _ = some x0 from rfl))) (own_Ar_at (i := 0) hs1 (by decide) (show _ = some x0 from rfl)) (g := (mkF m 82 #[.val (.ref ax), .val (.int (0 : Int32)), .val (.ref ay), .val (.int (0 : Int32)), .val (.int (1 : Int32)), .val (.int (0 : Int32)), .unset, .unset] [(.int (0 : Int32)), (.ref ax)])) rfl rfl (hb hby own_d12_82) t_ k_) ?_
  refine own_w (T' := s₁) (g' := (mkF m 84 #[.val (.ref ax), .val (.int (0 : Int32)), .val (.ref ay), .val (.int (0 : Int32)), .val (.int (1 : Int32)), .val (.int (0 : Int32)), .unset, .unset] [(.ref ay), (.int x0)])) (fun _ k_ => XS.aloadN X0.here hx rfl (hb hby own_d12_83) rfl rfl k_) ?_
  refine own_w (T' := s₁) (g' := (mkF m 85 #[.val (.ref ax), .val (.int (0 : Int32)), .val (.ref ay), .val (.int (0 : Int32)), .val (.int (1 : Int32)), .val (.int (0 : Int32)), .unset, .unset] [(.int (0 : Int32)), (.ref ay), (.int x0)])) (fun _ k_ => XS.iloadN X0.here hx rfl (hb hby own_d12_84) rfl k_) ?_
  refine own_w (T' := s₁) (g' := (mkF m 87 #[.val (.ref ax), .val (.int (0 : Int32)), .val (.ref ay), .val (.int (0 : Int32)), .val (.int (1 : Int32)), .val (.int (0 : Int32)), .unset, .unset] [(.int (0 : Int32)), (.int (0 : Int32)), (.ref ay), (.int x0)])) (fun _ k_ => XS.iload X0.here hx rfl (hb hby own_d12_85) rfl k_) ?_
  refine own_w (T' := s₁) (g' := (mkF m 88 #[.val (.ref ax), .val (.int (0 : Int32)), .val (.ref ay), .val (.int (0 : Int32)), .val (.int (1 : Int32)), .val (.int (0 : Int32)), .unset, .unset] [(.int (0 : Int32)), (.ref ay), (.int x0)])) (fun _ k_ => XS.iadd X0.here hx rfl (hb hby own_d12_87) rfl k_) ?_
  obtain ⟨cl2, Ar2, hs2⟩ := id Vy
  refine own_w (T' := s₁) (g' := (mkF m 89 #[.val (.ref ax), .val (.int (0 : Int32)), .val (.ref ay), .val (.int (0 : Int32)), .val (.int (1 : Int32)), .val (.int (0 : Int32)), .unset, .unset] [(.int y0), (.int x0)])) (fun t_ k_ => X0.baloadBytes hx (j := (0 : Int32)) (v := .int y0) (by rw [e0]; exact Ar2.1) (State.isArrayOf_alike hZ.alike Ar2.2.1) Ar2.2.2 (own_Ar_in (i := 0) hs2 (by decide) (own_get_lt (show _ = some y0 from rfl))) (own_Ar_at (i := 0) hs2 (by decide) (show _ = some y0 from rfl)) (g := (mkF m 88 #[.val (.ref ax), .val (.int (0 : Int32)), .val (.ref ay), .val (.int (0 : Int32)), .val (.int (1 : Int32)), .val (.int (0 : Int32)), .unset, .unset] [(.int (0 : Int32)), (.ref ay), (.int x0)])) rfl rfl (hb hby own_d12_88) t_ k_) ?_
  by_cases hc89 : x0 = y0
  · refine own_w (T' := s₁) (g' := (mkF m 95 #[.val (.ref ax), .val (.int (0 : Int32)), .val (.ref ay), .val (.int (0 : Int32)), .val (.int (1 : Int32)), .val (.int (0 : Int32)), .unset, .unset] [])) (fun _ k_ => XS.icmpYes X0.here hx rfl (pc0 := 89) (pc' := 95) rfl (hb hby own_d12_89) rfl (teq hc89).1 (by decide) (by decide) k_) ?_
    refine own_w (T' := s₁) (g' := (mkF m 98 #[.val (.ref ax), .val (.int (0 : Int32)), .val (.ref ay), .val (.int (0 : Int32)), .val (.int (1 : Int32)), .val (.int (1 : Int32)), .unset, .unset] [])) (fun _ k_ => XS.iinc X0.here hx rfl (hb hby own_d12_95) rfl (l' := #[.val (.ref ax), .val (.int (0 : Int32)), .val (.ref ay), .val (.int (0 : Int32)), .val (.int (1 : Int32)), .val (.int (1 : Int32)), .unset, .unset]) rfl k_) ?_
    refine own_w (T' := s₁) (g' := (mkF m 70 #[.val (.ref ax), .val (.int (0 : Int32)), .val (.ref ay), .val (.int (0 : Int32)), .val (.int (1 : Int32)), .val (.int (1 : Int32)), .unset, .unset] [])) (fun _ k_ => XS.goto X0.here hx rfl (pc0 := 98) (pc' := 70) rfl (hb hby own_d12_98) (by decide) (by decide) k_) ?_
    refine own_w (T' := s₁) (g' := (mkF m 72 #[.val (.ref ax), .val (.int (0 : Int32)), .val (.ref ay), .val (.int (0 : Int32)), .val (.int (1 : Int32)), .val (.int (1 : Int32)), .unset, .unset] [(.int (1 : Int32))])) (fun _ k_ => XS.iload X0.here hx rfl (hb hby own_d12_70) rfl k_) ?_
    refine own_w (T' := s₁) (g' := (mkF m 74 #[.val (.ref ax), .val (.int (0 : Int32)), .val (.ref ay), .val (.int (0 : Int32)), .val (.int (1 : Int32)), .val (.int (1 : Int32)), .unset, .unset] [(.int (1 : Int32)), (.int (1 : Int32))])) (fun _ k_ => XS.iload X0.here hx rfl (hb hby own_d12_72) rfl k_) ?_
    refine own_w (T' := s₁) (g' := (mkF m 101 #[.val (.ref ax), .val (.int (0 : Int32)), .val (.ref ay), .val (.int (0 : Int32)), .val (.int (1 : Int32)), .val (.int (1 : Int32)), .unset, .unset] [])) (fun _ k_ => XS.icmpYes X0.here hx rfl (pc0 := 74) (pc' := 101) rfl (hb hby own_d12_74) rfl (flt (by decide)).2.1 (by decide) (by decide) k_) ?_
    refine own_w (T' := s₁) (g' := (mkF m 102 #[.val (.ref ax), .val (.int (0 : Int32)), .val (.ref ay), .val (.int (0 : Int32)), .val (.int (1 : Int32)), .val (.int (1 : Int32)), .unset, .unset] [(.int (-1 : Int32))])) (fun _ k_ => XS.iconst X0.here hx rfl (hb hby own_d12_101) k_) ?_
    obtain ⟨fs, hr, hrun, hended, hW, hsame⟩ := X0.leave (v := some (.int (-1 : Int32))) (fun h => by rw [Bd.returns] at h; cases h)
    exact ⟨_, _, retOut X0 hx Bd.returns rfl (Or.inl ⟨rfl, Or.inl rfl, _, rfl⟩) (hb hby own_d12_102) hr, hrun, hended, _, _, rfl, (by show own_Q12_1 Z ax ay x0 y0 h0 n0 _ s₁.heap _; rw [e0]; exact ⟨(by simp [hc89]), N0, rfl⟩), ⟨_, rfl⟩, hW, hsame.mono (by decide) (by decide)⟩
  · refine own_w (T' := s₁) (g' := (mkF m 92 #[.val (.ref ax), .val (.int (0 : Int32)), .val (.ref ay), .val (.int (0 : Int32)), .val (.int (1 : Int32)), .val (.int (0 : Int32)), .unset, .unset] [])) (fun _ k_ => XS.icmpNo X0.here hx rfl (hb hby own_d12_89) rfl (feq hc89).1 k_) ?_
    refine own_w (T' := s₁) (g' := (mkF m 94 #[.val (.ref ax), .val (.int (0 : Int32)), .val (.ref ay), .val (.int (0 : Int32)), .val (.int (1 : Int32)), .val (.int (0 : Int32)), .unset, .unset] [(.int (0 : Int32))])) (fun _ k_ => XS.iload X0.here hx rfl (hb hby own_d12_92) rfl k_) ?_
    obtain ⟨fs, hr, hrun, hended, hW, hsame⟩ := X0.leave (v := some (.int (0 : Int32))) (fun h => by rw [Bd.returns] at h; cases h)
    exact ⟨_, _, retOut X0 hx Bd.returns rfl (Or.inl ⟨rfl, Or.inl rfl, _, rfl⟩) (hb hby own_d12_94) hr, hrun, hended, _, _, rfl, (by show own_Q12_1 Z ax ay x0 y0 h0 n0 _ s₁.heap _; rw [e0]; exact ⟨(by simp [hc89]), N0, rfl⟩), ⟨_, rfl⟩, hW, hsame.mono (by decide) (by decide)⟩
theorem own_mm1 (x0 y0 : Int32) : (if x0 = y0 then (-1 : Int32) else (0 : Int32)) < (0 : Int32) ↔ ([x0] = [y0]) := by
  (repeat' split) <;> simp_all <;> decide
theorem own_rm11_1_ef (m : MethodId)  : entryFrame m #[(.int (1 : Int32)), (.int (0 : Int32)), (.int (1 : Int32))] 3 = mkF m 0 #[.val (.int (1 : Int32)), .val (.int (0 : Int32)), .val (.int (1 : Int32))] [] := by first | (simp [entryFrame, mkF, argsToLocals, Value.category]; done) | rfl
def own_Q11_1 (Z : State)  (h0 : Heap) (n0 : Nat) (v_ : Option Value) (h : Heap) (L_ : List Loc) : Prop := v_ = none ∧ Fr n0 L_ ∧ (h = h0)
set_option maxRecDepth 65536 in
set_option maxHeartbeats 40000000 in
theorem own_rm11_1 (l : Launch) (Z : State) (a0 : Array Value) (hw : ∀ d ∈ tables_1, d.before a0 Z = true) (ws : List Jvm.Cond)  (h0 : Heap) (n0 : Nat) (Z0 : n0 ≤ h0.size)  :
    MetFree l (⟨"java/util/Arrays", "rangeCheck", "(III)V"⟩ : MethodName) (head1 (Jvm.Cond.code (⟨"java/util/Arrays", "rangeCheck", "(III)V"⟩ : MethodName) jdk_65_method_30_code 3 none :: ws) ({ frames := 0, cells := 0, slots := 0, locals := 0 } : Room)) (fun a_ U_ => a_ = #[(.int (1 : Int32)), (.int (0 : Int32)), (.int (1 : Int32))] ∧ Z.Warmed39 U_.vm ∧ U_.heap = h0) (fun _ _ _ _ _ => True) (fun _ U_ o_ V_ => ∃ v_ L_, o_ = .returned v_ ∧ own_Q11_1 Z  h0 n0 v_ V_.heap L_ ∧ FrameEnd U_ o_ V_ L_ ({ frames := 0, cells := 0, slots := 0, locals := 0 } : Room).cells ({ frames := 0, cells := 0, slots := 0, locals := 0 } : Room).slots) := by
  refine MetFree.of_bodySF (plainFor_of_name own_pn_java_util_Arrays) hisR ?_
  intro p e s m args below meth c s₁ Bd hml0 hP hK
  obtain ⟨rfl, hZ, hh⟩ := hP
  have hx := Bd.exec
  have hby := Bd.bytes
  have hml : c.maxLocals = 3 := hml0
  have hown : s.vm.findClass "java/util/Arrays" = some m.cls := findClass_of_methodNamed Bd.named
  have hnm := (name_of_methodNamed Bd.named Bd.method).1
  have X0 : Stand p l e ({ frames := 0, cells := 0, slots := 0, locals := 0 } : Room) s m #[(.int (1 : Int32)), (.int (0 : Int32)), (.int (1 : Int32))] below meth c s₁ [] 0 0 := Stand.of_body Bd
  have e0 : s₁.heap = h0 := by rw [← hh, Bd.state]; rfl
  have N0 := Fr.nil n0
  show own_G p e below s (own_Q11_1 Z  h0 n0) ({ frames := 0, cells := 0, slots := 0, locals := 0 } : Room).cells ({ frames := 0, cells := 0, slots := 0, locals := 0 } : Room).slots s₁ (entryFrame m #[(.int (1 : Int32)), (.int (0 : Int32)), (.int (1 : Int32))] 3)
  rw [own_rm11_1_ef]
  refine own_w (T' := s₁) (g' := (mkF m 1 #[.val (.int (1 : Int32)), .val (.int (0 : Int32)), .val (.int (1 : Int32))] [(.int (0 : Int32))])) (fun _ k_ => XS.iloadN X0.here hx rfl (hb hby own_d11_0) rfl k_) ?_
  refine own_w (T' := s₁) (g' := (mkF m 2 #[.val (.int (1 : Int32)), .val (.int (0 : Int32)), .val (.int (1 : Int32))] [(.int (1 : Int32)), (.int (0 : Int32))])) (fun _ k_ => XS.iloadN X0.here hx rfl (hb hby own_d11_1) rfl k_) ?_
  refine own_w (T' := s₁) (g' := (mkF m 46 #[.val (.int (1 : Int32)), .val (.int (0 : Int32)), .val (.int (1 : Int32))] [])) (fun _ k_ => XS.icmpYes X0.here hx rfl (pc0 := 2) (pc' := 46) rfl (hb hby own_d11_2) rfl (flt (by decide)).2.2.2 (by decide) (by decide) k_) ?_
  refine own_w (T' := s₁) (g' := (mkF m 47 #[.val (.int (1 : Int32)), .val (.int (0 : Int32)), .val (.int (1 : Int32))] [(.int (0 : Int32))])) (fun _ k_ => XS.iloadN X0.here hx rfl (hb hby own_d11_46) rfl k_) ?_
  refine own_w (T' := s₁) (g' := (mkF m 59 #[.val (.int (1 : Int32)), .val (.int (0 : Int32)), .val (.int (1 : Int32))] [])) (fun _ k_ => XS.ifYes X0.here hx rfl (pc0 := 47) (pc' := 59) rfl (hb hby own_d11_47) rfl ((if0 _ _).trans (flt (by decide)).2.1) (by decide) (by decide) k_) ?_
  refine own_w (T' := s₁) (g' := (mkF m 60 #[.val (.int (1 : Int32)), .val (.int (0 : Int32)), .val (.int (1 : Int32))] [(.int (1 : Int32))])) (fun _ k_ => XS.iloadN X0.here hx rfl (hb hby own_d11_59) rfl k_) ?_
  refine own_w (T' := s₁) (g' := (mkF m 61 #[.val (.int (1 : Int32)), .val (.int (0 : Int32)), .val (.int (1 : Int32))] [(.int (1 : Int32)), (.int (1 : Int32))])) (fun _ k_ => XS.iloadN X0.here hx rfl (hb hby own_d11_60) rfl k_) ?_
  refine own_w (T' := s₁) (g' := (mkF m 73 #[.val (.int (1 : Int32)), .val (.int (0 : Int32)), .val (.int (1 : Int32))] [])) (fun _ k_ => XS.icmpYes X0.here hx rfl (pc0 := 61) (pc' := 73) rfl (hb hby own_d11_61) rfl (flt (by decide)).2.2.2 (by decide) (by decide) k_) ?_
  obtain ⟨fs, hr, hrun, hended, hW, hsame⟩ := X0.leave (v := none) (fun _ => rfl)
  exact ⟨_, _, X0.returnOut hx Bd.returns (hb hby own_d11_73) hr, hrun, hended, _, _, rfl, (by show own_Q11_1 Z  h0 n0 _ s₁.heap _; rw [e0]; exact ⟨rfl, N0, rfl⟩), ⟨_, rfl⟩, hW, hsame.mono (by decide) (by decide)⟩
theorem own_rm10_1_ef (m : MethodId) (ax : Addr) (ay : Addr) : entryFrame m #[(.ref ax), (.int (0 : Int32)), (.int (1 : Int32)), (.ref ay), (.int (0 : Int32)), (.int (1 : Int32))] 8 = mkF m 0 #[.val (.ref ax), .val (.int (0 : Int32)), .val (.int (1 : Int32)), .val (.ref ay), .val (.int (0 : Int32)), .val (.int (1 : Int32)), .unset, .unset] [] := by first | (simp [entryFrame, mkF, argsToLocals, Value.category]; done) | rfl
def own_Q10_1 (Z : State) (ax : Addr) (ay : Addr) (x0 : Int32) (y0 : Int32) (h0 : Heap) (n0 : Nat) (v_ : Option Value) (h : Heap) (L_ : List Loc) : Prop := v_ = some (.int (if ([x0] = [y0]) then (1 : Int32) else 0)) ∧ Fr n0 L_ ∧ (h = h0)
set_option maxRecDepth 65536 in
set_option maxHeartbeats 40000000 in
theorem own_rm10_1 (l : Launch) (Z : State) (a0 : Array Value) (hw : ∀ d ∈ tables_1, d.before a0 Z = true) (ws : List Jvm.Cond) (ax : Addr) (ay : Addr) (x0 : Int32) (y0 : Int32) (h0 : Heap) (n0 : Nat) (Z0 : n0 ≤ h0.size) (Vx : own_Ar Z h0 ax .byte [x0]) (Vy : own_Ar Z h0 ay .byte [y0]) :
    MetFree l (⟨"java/util/Arrays", "equals", "([BII[BII)Z"⟩ : MethodName) (head1 (Jvm.Cond.code (⟨"java/util/Arrays", "equals", "([BII[BII)Z"⟩ : MethodName) jdk_65_method_90_code 8 (some .boolean) :: ws) ({ frames := 1, cells := 0, slots := 0, locals := 19 } : Room)) (fun a_ U_ => a_ = #[(.ref ax), (.int (0 : Int32)), (.int (1 : Int32)), (.ref ay), (.int (0 : Int32)), (.int (1 : Int32))] ∧ Z.Warmed39 U_.vm ∧ U_.heap = h0) (fun _ _ _ _ _ => True) (fun _ U_ o_ V_ => ∃ v_ L_, o_ = .returned v_ ∧ own_Q10_1 Z ax ay x0 y0 h0 n0 v_ V_.heap L_ ∧ FrameEnd U_ o_ V_ L_ ({ frames := 1, cells := 0, slots := 0, locals := 19 } : Room).cells ({ frames := 1, cells := 0, slots := 0, locals := 19 } : Room).slots) := by
  refine MetFree.of_bodySF (plainFor_of_name own_pn_java_util_Arrays) hisR ?_
  intro p e s m args below meth c s₁ Bd hml0 hP hK
  obtain ⟨rfl, hZ, hh⟩ := hP
  have hx := Bd.exec
  have hby := Bd.bytes
  have hml : c.maxLocals = 8 := hml0
  have hown : s.vm.findClass "java/util/Arrays" = some m.cls := findClass_of_methodNamed Bd.named
  have hnm := (name_of_methodNamed Bd.named Bd.method).1
  have X0 : Stand p l e ({ frames := 1, cells := 0, slots := 0, locals := 19 } : Room) s m #[(.ref ax), (.int (0 : Int32)), (.int (1 : Int32)), (.ref ay), (.int (0 : Int32)), (.int (1 : Int32))] below meth c s₁ [] 0 0 := Stand.of_body Bd
  have e0 : s₁.heap = h0 := by rw [← hh, Bd.state]; rfl
  have N0 := Fr.nil n0
  show own_G p e below s (own_Q10_1 Z ax ay x0 y0 h0 n0) ({ frames := 1, cells := 0, slots := 0, locals := 19 } : Room).cells ({ frames := 1, cells := 0, slots := 0, locals := 19 } : Room).slots s₁ (entryFrame m #[(.ref ax), (.int (0 : Int32)), (.int (1 : Int32)), (.ref ay), (.int (0 : Int32)), (.int (1 : Int32))] 8)
  rw [own_rm10_1_ef]
  refine own_w (T' := s₁) (g' := (mkF m 1 #[.val (.ref ax), .val (.int (0 : Int32)), .val (.int (1 : Int32)), .val (.ref ay), .val (.int (0 : Int32)), .val (.int (1 : Int32)), .unset, .unset] [(.ref ax)])) (fun _ k_ => XS.aloadN X0.here hx rfl (hb hby own_d10_0) rfl rfl k_) ?_
  obtain ⟨cl1, Ar1, hs1⟩ := id Vx
  have hl1 : cl1.slots.size.toInt32 = (1 : Int32) := by rw [hs1]; rfl
  refine own_w (T' := s₁) (g' := (mkF m 2 #[.val (.ref ax), .val (.int (0 : Int32)), .val (.int (1 : Int32)), .val (.ref ay), .val (.int (0 : Int32)), .val (.int (1 : Int32)), .unset, .unset] [(.int (1 : Int32))])) (fun t_ k_ => X0.arraylength hx (by rw [e0]; exact Ar1.1) (State.isArrayOf_alike hZ.alike Ar1.2.1) (g := (mkF m 1 #[.val (.ref ax), .val (.int (0 : Int32)), .val (.int (1 : Int32)), .val (.ref ay), .val (.int (0 : Int32)), .val (.int (1 : Int32)), .unset, .unset] [(.ref ax)])) rfl rfl (hb hby own_d10_1) t_ (by rw [hl1]; exact k_)) ?_
  refine own_w (T' := s₁) (g' := (mkF m 3 #[.val (.ref ax), .val (.int (0 : Int32)), .val (.int (1 : Int32)), .val (.ref ay), .val (.int (0 : Int32)), .val (.int (1 : Int32)), .unset, .unset] [(.int (0 : Int32)), (.int (1 : Int32))])) (fun _ k_ => XS.iloadN X0.here hx rfl (hb hby own_d10_2) rfl k_) ?_
  refine own_w (T' := s₁) (g' := (mkF m 4 #[.val (.ref ax), .val (.int (0 : Int32)), .val (.int (1 : Int32)), .val (.ref ay), .val (.int (0 : Int32)), .val (.int (1 : Int32)), .unset, .unset] [(.int (1 : Int32)), (.int (0 : Int32)), (.int (1 : Int32))])) (fun _ k_ => XS.iloadN X0.here hx rfl (hb hby own_d10_3) rfl k_) ?_
  obtain ⟨_, _, ⟨T2, L2, k2, n2⟩, -, X2, ⟨Lc2, hQ2, l2, y2, z2⟩, st2⟩ := Jvm.LawKit.callS X0 hx (y := (⟨"java/util/Arrays", "rangeCheck", "(III)V"⟩ : MethodName)) hown (mvT hZ (hw _ (List.mem_of_getElem? (i := 61) rfl))) (mvT hZ (hw _ (List.mem_of_getElem? (i := 62) rfl))) (mvT hZ (hw _ (List.mem_of_getElem? (i := 49) rfl))) (mvT hZ (hw _ (List.mem_of_getElem? (i := 63) rfl))) (by decide) (backOf (W := 0) (own_rm11_1 l Z a0 hw []   h0 n0 Z0 ) hZ (hw _ (List.mem_of_getElem? (i := 63) rfl)) (hw _ (List.mem_of_getElem? (i := 49) rfl)) (by decide) (by decide)) (g := (mkF m 4 #[.val (.ref ax), .val (.int (0 : Int32)), .val (.int (1 : Int32)), .val (.ref ay), .val (.int (0 : Int32)), .val (.int (1 : Int32)), .unset, .unset] [(.int (1 : Int32)), (.int (0 : Int32)), (.int (1 : Int32))])) rfl (by rw [hml]; rfl) (argsL := [(.int (1 : Int32)), (.int (0 : Int32)), (.int (1 : Int32))]) (rest := []) (lenOf own_pd0 rfl) rfl (by show 2 * 0 + _ ≤ _; exact Nat.le_of_eq rfl) (hb hby own_d10_4) (fun _ _ => ⟨rfl, e0, (by decide : 0 + 0 ≤ _), (by decide : 0 + 0 ≤ _)⟩)
  dsimp only [Pt.U, Pt.locs, Pt.cells, Pt.slots] at X2 l2 y2 z2 st2 hQ2
  subst l2 y2 z2
  obtain ⟨rfl, N2q, e2⟩ := hQ2
  have N2 := Fr.app N0 N2q
  refine own_w (T' := T2) (g' := (mkF m 7 #[.val (.ref ax), .val (.int (0 : Int32)), .val (.int (1 : Int32)), .val (.ref ay), .val (.int (0 : Int32)), .val (.int (1 : Int32)), .unset, .unset] [])) st2 ?_
  refine own_w (T' := T2) (g' := (mkF m 8 #[.val (.ref ax), .val (.int (0 : Int32)), .val (.int (1 : Int32)), .val (.ref ay), .val (.int (0 : Int32)), .val (.int (1 : Int32)), .unset, .unset] [(.ref ay)])) (fun _ k_ => XS.aloadN X2.here hx rfl (hb hby own_d10_7) rfl rfl k_) ?_
  obtain ⟨cl3, Ar3, hs3⟩ := id Vy
  have hl3 : cl3.slots.size.toInt32 = (1 : Int32) := by rw [hs3]; rfl
  refine own_w (T' := T2) (g' := (mkF m 9 #[.val (.ref ax), .val (.int (0 : Int32)), .val (.int (1 : Int32)), .val (.ref ay), .val (.int (0 : Int32)), .val (.int (1 : Int32)), .unset, .unset] [(.int (1 : Int32))])) (fun t_ k_ => X2.arraylength hx (by rw [e2]; exact Ar3.1) (State.isArrayOf_alike hZ.alike Ar3.2.1) (g := (mkF m 8 #[.val (.ref ax), .val (.int (0 : Int32)), .val (.int (1 : Int32)), .val (.ref ay), .val (.int (0 : Int32)), .val (.int (1 : Int32)), .unset, .unset] [(.ref ay)])) rfl rfl (hb hby own_d10_8) t_ (by rw [hl3]; exact k_)) ?_
  refine own_w (T' := T2) (g' := (mkF m 11 #[.val (.ref ax), .val (.int (0 : Int32)), .val (.int (1 : Int32)), .val (.ref ay), .val (.int (0 : Int32)), .val (.int (1 : Int32)), .unset, .unset] [(.int (0 : Int32)), (.int (1 : Int32))])) (fun _ k_ => XS.iload X2.here hx rfl (hb hby own_d10_9) rfl k_) ?_
  refine own_w (T' := T2) (g' := (mkF m 13 #[.val (.ref ax), .val (.int (0 : Int32)), .val (.int (1 : Int32)), .val (.ref ay), .val (.int (0 : Int32)), .val (.int (1 : Int32)), .unset, .unset] [(.int (1 : Int32)), (.int (0 : Int32)), (.int (1 : Int32))])) (fun _ k_ => XS.iload X2.here hx rfl (hb hby own_d10_11) rfl k_) ?_
  obtain ⟨_, _, ⟨T4, L4, k4, n4⟩, -, X4, ⟨Lc4, hQ4, l4, y4, z4⟩, st4⟩ := Jvm.LawKit.callS X2 hx (y := (⟨"java/util/Arrays", "rangeCheck", "(III)V"⟩ : MethodName)) hown (mvT hZ (hw _ (List.mem_of_getElem? (i := 61) rfl))) (mvT hZ (hw _ (List.mem_of_getElem? (i := 62) rfl))) (mvT hZ (hw _ (List.mem_of_getElem? (i := 49) rfl))) (mvT hZ (hw _ (List.mem_of_getElem? (i := 63) rfl))) (by decide) (backOf (W := 0) (own_rm11_1 l Z a0 hw []   h0 n0 Z0 ) hZ (hw _ (List.mem_of_getElem? (i := 63) rfl)) (hw _ (List.mem_of_getElem? (i := 49) rfl)) (by decide) (by decide)) (g := (mkF m 13 #[.val (.ref ax), .val (.int (0 : Int32)), .val (.int (1 : Int32)), .val (.ref ay), .val (.int (0 : Int32)), .val (.int (1 : Int32)), .unset, .unset] [(.int (1 : Int32)), (.int (0 : Int32)), (.int (1 : Int32))])) rfl (by rw [hml]; rfl) (argsL := [(.int (1 : Int32)), (.int (0 : Int32)), (.int (1 : Int32))]) (rest := []) (lenOf own_pd0 rfl) rfl (by show 2 * 0 + _ ≤ _; exact Nat.le_of_eq rfl) (hb hby own_d10_13) (fun _ _ => ⟨rfl, e2, (by decide : 0 + 0 ≤ _), (by decide : 0 + 0 ≤ _)⟩)
  dsimp only [Pt.U, Pt.locs, Pt.cells, Pt.slots] at X4 l4 y4 z4 st4 hQ4
  subst l4 y4 z4
  obtain ⟨rfl, N4q, e4⟩ := hQ4
  have N4 := Fr.app N2 N4q
  refine own_w (T' := T4) (g' := (mkF m 16 #[.val (.ref ax), .val (.int (0 : Int32)), .val (.int (1 : Int32)), .val (.ref ay), .val (.int (0 : Int32)), .val (.int (1 : Int32)), .unset, .unset] [])) st4 ?_
  refine own_w (T' := T4) (g' := (mkF m 17 #[.val (.ref ax), .val (.int (0 : Int32)), .val (.int (1 : Int32)), .val (.ref ay), .val (.int (0 : Int32)), .val (.int (1 : Int32)), .unset, .unset] [(.int (1 : Int32))])) (fun _ k_ => XS.iloadN X4.here hx rfl (hb hby own_d10_16) rfl k_) ?_
  refine own_w (T' := T4) (g' := (mkF m 18 #[.val (.ref ax), .val (.int (0 : Int32)), .val (.int (1 : Int32)), .val (.ref ay), .val (.int (0 : Int32)), .val (.int (1 : Int32)), .unset, .unset] [(.int (0 : Int32)), (.int (1 : Int32))])) (fun _ k_ => XS.iloadN X4.here hx rfl (hb hby own_d10_17) rfl k_) ?_
  refine own_w (T' := T4) (g' := (mkF m 19 #[.val (.ref ax), .val (.int (0 : Int32)), .val (.int (1 : Int32)), .val (.ref ay), .val (.int (0 : Int32)), .val (.int (1 : Int32)), .unset, .unset] [(.int (1 : Int32))])) (fun _ k_ => XS.isub X4.here hx rfl (hb hby own_d10_18) rfl k_) ?_
  refine own_w (T' := T4) (g' := (mkF m 21 #[.val (.ref ax), .val (.int (0 : Int32)), .val (.int (1 : Int32)), .val (.ref ay), .val (.int (0 : Int32)), .val (.int (1 : Int32)), .val (.int (1 : Int32)), .unset] [])) (fun _ k_ => XS.istore X4.here hx rfl (hb hby own_d10_19) rfl (l' := #[.val (.ref ax), .val (.int (0 : Int32)), .val (.int (1 : Int32)), .val (.ref ay), .val (.int (0 : Int32)), .val (.int (1 : Int32)), .val (.int (1 : Int32)), .unset]) rfl k_) ?_
  refine own_w (T' := T4) (g' := (mkF m 23 #[.val (.ref ax), .val (.int (0 : Int32)), .val (.int (1 : Int32)), .val (.ref ay), .val (.int (0 : Int32)), .val (.int (1 : Int32)), .val (.int (1 : Int32)), .unset] [(.int (1 : Int32))])) (fun _ k_ => XS.iload X4.here hx rfl (hb hby own_d10_21) rfl k_) ?_
  refine own_w (T' := T4) (g' := (mkF m 25 #[.val (.ref ax), .val (.int (0 : Int32)), .val (.int (1 : Int32)), .val (.ref ay), .val (.int (0 : Int32)), .val (.int (1 : Int32)), .val (.int (1 : Int32)), .unset] [(.int (0 : Int32)), (.int (1 : Int32))])) (fun _ k_ => XS.iload X4.here hx rfl (hb hby own_d10_23) rfl k_) ?_
  refine own_w (T' := T4) (g' := (mkF m 26 #[.val (.ref ax), .val (.int (0 : Int32)), .val (.int (1 : Int32)), .val (.ref ay), .val (.int (0 : Int32)), .val (.int (1 : Int32)), .val (.int (1 : Int32)), .unset] [(.int (1 : Int32))])) (fun _ k_ => XS.isub X4.here hx rfl (hb hby own_d10_25) rfl k_) ?_
  refine own_w (T' := T4) (g' := (mkF m 28 #[.val (.ref ax), .val (.int (0 : Int32)), .val (.int (1 : Int32)), .val (.ref ay), .val (.int (0 : Int32)), .val (.int (1 : Int32)), .val (.int (1 : Int32)), .val (.int (1 : Int32))] [])) (fun _ k_ => XS.istore X4.here hx rfl (hb hby own_d10_26) rfl (l' := #[.val (.ref ax), .val (.int (0 : Int32)), .val (.int (1 : Int32)), .val (.ref ay), .val (.int (0 : Int32)), .val (.int (1 : Int32)), .val (.int (1 : Int32)), .val (.int (1 : Int32))]) rfl k_) ?_
  refine own_w (T' := T4) (g' := (mkF m 30 #[.val (.ref ax), .val (.int (0 : Int32)), .val (.int (1 : Int32)), .val (.ref ay), .val (.int (0 : Int32)), .val (.int (1 : Int32)), .val (.int (1 : Int32)), .val (.int (1 : Int32))] [(.int (1 : Int32))])) (fun _ k_ => XS.iload X4.here hx rfl (hb hby own_d10_28) rfl k_) ?_
  refine own_w (T' := T4) (g' := (mkF m 32 #[.val (.ref ax), .val (.int (0 : Int32)), .val (.int (1 : Int32)), .val (.ref ay), .val (.int (0 : Int32)), .val (.int (1 : Int32)), .val (.int (1 : Int32)), .val (.int (1 : Int32))] [(.int (1 : Int32)), (.int (1 : Int32))])) (fun _ k_ => XS.iload X4.here hx rfl (hb hby own_d10_30) rfl k_) ?_
  refine own_w (T' := T4) (g' := (mkF m 37 #[.val (.ref ax), .val (.int (0 : Int32)), .val (.int (1 : Int32)), .val (.ref ay), .val (.int (0 : Int32)), .val (.int (1 : Int32)), .val (.int (1 : Int32)), .val (.int (1 : Int32))] [])) (fun _ k_ => XS.icmpYes X4.here hx rfl (pc0 := 32) (pc' := 37) rfl (hb hby own_d10_32) rfl (teq rfl).1 (by decide) (by decide) k_) ?_
  refine own_w (T' := T4) (g' := (mkF m 38 #[.val (.ref ax), .val (.int (0 : Int32)), .val (.int (1 : Int32)), .val (.ref ay), .val (.int (0 : Int32)), .val (.int (1 : Int32)), .val (.int (1 : Int32)), .val (.int (1 : Int32))] [(.ref ax)])) (fun _ k_ => XS.aloadN X4.here hx rfl (hb hby own_d10_37) rfl rfl k_) ?_
  refine own_w (T' := T4) (g' := (mkF m 39 #[.val (.ref ax), .val (.int (0 : Int32)), .val (.int (1 : Int32)), .val (.ref ay), .val (.int (0 : Int32)), .val (.int (1 : Int32)), .val (.int (1 : Int32)), .val (.int (1 : Int32))] [(.int (0 : Int32)), (.ref ax)])) (fun _ k_ => XS.iloadN X4.here hx rfl (hb hby own_d10_38) rfl k_) ?_
  refine own_w (T' := T4) (g' := (mkF m 40 #[.val (.ref ax), .val (.int (0 : Int32)), .val (.int (1 : Int32)), .val (.ref ay), .val (.int (0 : Int32)), .val (.int (1 : Int32)), .val (.int (1 : Int32)), .val (.int (1 : Int32))] [(.ref ay), (.int (0 : Int32)), (.ref ax)])) (fun _ k_ => XS.aloadN X4.here hx rfl (hb hby own_d10_39) rfl rfl k_) ?_
  refine own_w (T' := T4) (g' := (mkF m 42 #[.val (.ref ax), .val (.int (0 : Int32)), .val (.int (1 : Int32)), .val (.ref ay), .val (.int (0 : Int32)), .val (.int (1 : Int32)), .val (.int (1 : Int32)), .val (.int (1 : Int32))] [(.int (0 : Int32)), (.ref ay), (.int (0 : Int32)), (.ref ax)])) (fun _ k_ => XS.iload X4.here hx rfl (hb hby own_d10_40) rfl k_) ?_
  refine own_w (T' := T4) (g' := (mkF m 44 #[.val (.ref ax), .val (.int (0 : Int32)), .val (.int (1 : Int32)), .val (.ref ay), .val (.int (0 : Int32)), .val (.int (1 : Int32)), .val (.int (1 : Int32)), .val (.int (1 : Int32))] [(.int (1 : Int32)), (.int (0 : Int32)), (.ref ay), (.int (0 : Int32)), (.ref ax)])) (fun _ k_ => XS.iload X4.here hx rfl (hb hby own_d10_42) rfl k_) ?_
  obtain ⟨_, _, ⟨T5, L5, k5, n5⟩, -, X5, ⟨Lc5, hQ5, l5, y5, z5⟩, st5⟩ := Jvm.LawKit.callS X4 hx (y := (⟨"jdk/internal/util/ArraysSupport", "mismatch", "([BI[BII)I"⟩ : MethodName)) hown (mvT hZ (hw _ (List.mem_of_getElem? (i := 64) rfl))) (mvT hZ (hw _ (List.mem_of_getElem? (i := 65) rfl))) (mvT hZ (hw _ (List.mem_of_getElem? (i := 66) rfl))) (mvT hZ (hw _ (List.mem_of_getElem? (i := 67) rfl))) (by decide) (backOf (W := 0) (own_rm12_1 l Z a0 hw [] ax ay x0 y0 h0 n0 Z0 Vx Vy) hZ (hw _ (List.mem_of_getElem? (i := 67) rfl)) (hw _ (List.mem_of_getElem? (i := 66) rfl)) (by decide) (by decide)) (g := (mkF m 44 #[.val (.ref ax), .val (.int (0 : Int32)), .val (.int (1 : Int32)), .val (.ref ay), .val (.int (0 : Int32)), .val (.int (1 : Int32)), .val (.int (1 : Int32)), .val (.int (1 : Int32))] [(.int (1 : Int32)), (.int (0 : Int32)), (.ref ay), (.int (0 : Int32)), (.ref ax)])) rfl (by rw [hml]; rfl) (argsL := [(.ref ax), (.int (0 : Int32)), (.ref ay), (.int (0 : Int32)), (.int (1 : Int32))]) (rest := []) (lenOf own_pd1 rfl) rfl (by show 2 * 0 + _ ≤ _; exact Nat.le_of_eq rfl) (hb hby own_d10_44) (fun _ _ => ⟨rfl, e4, (by decide : 0 + 0 ≤ _), (by decide : 0 + 0 ≤ _)⟩)
  dsimp only [Pt.U, Pt.locs, Pt.cells, Pt.slots] at X5 l5 y5 z5 st5 hQ5
  subst l5 y5 z5
  obtain ⟨rfl, N5q, e5⟩ := hQ5
  have N5 := Fr.app N4 N5q
  refine own_w (T' := T5) (g' := (mkF m 47 #[.val (.ref ax), .val (.int (0 : Int32)), .val (.int (1 : Int32)), .val (.ref ay), .val (.int (0 : Int32)), .val (.int (1 : Int32)), .val (.int (1 : Int32)), .val (.int (1 : Int32))] [(.int (if x0 = y0 then (-1 : Int32) else (0 : Int32)))])) st5 ?_
  by_cases hc47 : (if x0 = y0 then (-1 : Int32) else (0 : Int32)) < (0 : Int32)
  · refine own_w (T' := T5) (g' := (mkF m 50 #[.val (.ref ax), .val (.int (0 : Int32)), .val (.int (1 : Int32)), .val (.ref ay), .val (.int (0 : Int32)), .val (.int (1 : Int32)), .val (.int (1 : Int32)), .val (.int (1 : Int32))] [])) (fun _ k_ => XS.ifNo X5.here hx rfl (hb hby own_d10_47) rfl ((if0 _ _).trans (tlt hc47).2.1) k_) ?_
    refine own_w (T' := T5) (g' := (mkF m 51 #[.val (.ref ax), .val (.int (0 : Int32)), .val (.int (1 : Int32)), .val (.ref ay), .val (.int (0 : Int32)), .val (.int (1 : Int32)), .val (.int (1 : Int32)), .val (.int (1 : Int32))] [(.int (1 : Int32))])) (fun _ k_ => XS.iconst X5.here hx rfl (hb hby own_d10_50) k_) ?_
    refine own_w (T' := T5) (g' := (mkF m 55 #[.val (.ref ax), .val (.int (0 : Int32)), .val (.int (1 : Int32)), .val (.ref ay), .val (.int (0 : Int32)), .val (.int (1 : Int32)), .val (.int (1 : Int32)), .val (.int (1 : Int32))] [(.int (1 : Int32))])) (fun _ k_ => XS.goto X5.here hx rfl (pc0 := 51) (pc' := 55) rfl (hb hby own_d10_51) (by decide) (by decide) k_) ?_
    obtain ⟨fs, hr, hrun, hended, hW, hsame⟩ := X5.leave (v := some (.int (1 : Int32))) (fun h => by rw [Bd.returns] at h; cases h)
    exact ⟨_, _, retOut X5 hx Bd.returns rfl (Or.inl ⟨rfl, Or.inr (Or.inl rfl), _, rfl⟩) (hb hby own_d10_55) hr, hrun, hended, _, _, rfl, (by show own_Q10_1 Z ax ay x0 y0 h0 n0 _ T5.heap _; rw [e5]; exact ⟨(by rw [if_pos ((own_mm1 x0 y0).mp hc47)]), N5, rfl⟩), ⟨_, rfl⟩, hW, hsame.mono (by decide) (by decide)⟩
  · refine own_w (T' := T5) (g' := (mkF m 54 #[.val (.ref ax), .val (.int (0 : Int32)), .val (.int (1 : Int32)), .val (.ref ay), .val (.int (0 : Int32)), .val (.int (1 : Int32)), .val (.int (1 : Int32)), .val (.int (1 : Int32))] [])) (fun _ k_ => XS.ifYes X5.here hx rfl (pc0 := 47) (pc' := 54) rfl (hb hby own_d10_47) rfl ((if0 _ _).trans (flt hc47).2.1) (by decide) (by decide) k_) ?_
    refine own_w (T' := T5) (g' := (mkF m 55 #[.val (.ref ax), .val (.int (0 : Int32)), .val (.int (1 : Int32)), .val (.ref ay), .val (.int (0 : Int32)), .val (.int (1 : Int32)), .val (.int (1 : Int32)), .val (.int (1 : Int32))] [(.int (0 : Int32))])) (fun _ k_ => XS.iconst X5.here hx rfl (hb hby own_d10_54) k_) ?_
    obtain ⟨fs, hr, hrun, hended, hW, hsame⟩ := X5.leave (v := some (.int (0 : Int32))) (fun h => by rw [Bd.returns] at h; cases h)
    exact ⟨_, _, retOut X5 hx Bd.returns rfl (Or.inl ⟨rfl, Or.inr (Or.inl rfl), _, rfl⟩) (hb hby own_d10_55) hr, hrun, hended, _, _, rfl, (by show own_Q10_1 Z ax ay x0 y0 h0 n0 _ T5.heap _; rw [e5]; exact ⟨(by rw [if_neg (mt (own_mm1 x0 y0).mpr hc47)]), N5, rfl⟩), ⟨_, rfl⟩, hW, hsame.mono (by decide) (by decide)⟩
theorem own_rm9_1_ef (m : MethodId) (pp : Addr) (ay : Addr) : entryFrame m #[(.ref pp), (.ref ay)] 2 = mkF m 0 #[.val (.ref pp), .val (.ref ay)] [] := by first | (simp [entryFrame, mkF, argsToLocals, Value.category]; done) | rfl
def own_Q9_1 (Z : State) (pp : Addr) (ay : Addr) (ax : Addr) (x0 : Int32) (y0 : Int32) (h0 : Heap) (n0 : Nat) (v_ : Option Value) (h : Heap) (L_ : List Loc) : Prop := v_ = some (.int (if ([x0] = [y0]) then (1 : Int32) else 0)) ∧ Fr n0 L_ ∧ (h = h0)
set_option maxRecDepth 65536 in
set_option maxHeartbeats 40000000 in
theorem own_rm9_1 (l : Launch) (Z : State) (a0 : Array Value) (hw : ∀ d ∈ tables_1, d.before a0 Z = true) (ws : List Jvm.Cond) (pp : Addr) (ay : Addr) (ax : Addr) (x0 : Int32) (y0 : Int32) (h0 : Heap) (n0 : Nat) (Z0 : n0 ≤ h0.size) (F0 : Fld Z h0 pp "com/example/adjacency/adjacency/wire/PrefixedBytes" "array" "[B" (.ref ax)) (F1 : Fld Z h0 pp "com/example/adjacency/adjacency/wire/PrefixedBytes" "offset" "I" (.int (0 : Int32))) (F2 : Fld Z h0 pp "com/example/adjacency/adjacency/wire/PrefixedBytes" "length" "I" (.int (1 : Int32))) (Vx : own_Ar Z h0 ax .byte [x0]) (Vy : own_Ar Z h0 ay .byte [y0]) :
    MetFree l (⟨"com/example/adjacency/adjacency/wire/PrefixedBytes", "isSameAs", "([B)Z"⟩ : MethodName) (head1 (Jvm.Cond.code (⟨"com/example/adjacency/adjacency/wire/PrefixedBytes", "isSameAs", "([B)Z"⟩ : MethodName) prog_31_method_8_code 2 (some .boolean) :: ws) ({ frames := 2, cells := 0, slots := 0, locals := 38 } : Room)) (fun a_ U_ => a_ = #[(.ref pp), (.ref ay)] ∧ Z.Warmed39 U_.vm ∧ U_.heap = h0) (fun _ _ _ _ _ => True) (fun _ U_ o_ V_ => ∃ v_ L_, o_ = .returned v_ ∧ own_Q9_1 Z pp ay ax x0 y0 h0 n0 v_ V_.heap L_ ∧ FrameEnd U_ o_ V_ L_ ({ frames := 2, cells := 0, slots := 0, locals := 38 } : Room).cells ({ frames := 2, cells := 0, slots := 0, locals := 38 } : Room).slots) := by
  refine MetFree.of_bodySF (plainFor_of_name own_pn_com_example_adjacency_adjacency_wire_PrefixedBytes) hisR ?_
  intro p e s m args below meth c s₁ Bd hml0 hP hK
  obtain ⟨rfl, hZ, hh⟩ := hP
  have hx := Bd.exec
  have hby := Bd.bytes
  have hml : c.maxLocals = 2 := hml0
  have hown : s.vm.findClass "com/example/adjacency/adjacency/wire/PrefixedBytes" = some m.cls := findClass_of_methodNamed Bd.named
  have hnm := (name_of_methodNamed Bd.named Bd.method).1
  have X0 : Stand p l e ({ frames := 2, cells := 0, slots := 0, locals := 38 } : Room) s m #[(.ref pp), (.ref ay)] below meth c s₁ [] 0 0 := Stand.of_body Bd
  have e0 : s₁.heap = h0 := by rw [← hh, Bd.state]; rfl
  have N0 := Fr.nil n0
  show own_G p e below s (own_Q9_1 Z pp ay ax x0 y0 h0 n0) ({ frames := 2, cells := 0, slots := 0, locals := 38 } : Room).cells ({ frames := 2, cells := 0, slots := 0, locals := 38 } : Room).slots s₁ (entryFrame m #[(.ref pp), (.ref ay)] 2)
  rw [own_rm9_1_ef]
  refine own_w (T' := s₁) (g' := (mkF m 1 #[.val (.ref pp), .val (.ref ay)] [(.ref pp)])) (fun _ k_ => XS.aloadN X0.here hx rfl (hb hby own_d9_0) rfl rfl k_) ?_
  obtain ⟨T1, X1, e1, st1⟩ := getF X0 hx hZ hown (host := "") (Or.inl (hw _ (List.mem_of_getElem? (i := 22) rfl))) Via.refl e0 F0 (g := (mkF m 1 #[.val (.ref pp), .val (.ref ay)] [(.ref pp)])) rfl rfl (hb hby own_d9_1)
  refine own_w (T' := T1) (g' := (mkF m 4 #[.val (.ref pp), .val (.ref ay)] [(.ref ax)])) st1 ?_
  refine own_w (T' := T1) (g' := (mkF m 5 #[.val (.ref pp), .val (.ref ay)] [(.ref pp), (.ref ax)])) (fun _ k_ => XS.aloadN X1.here hx rfl (hb hby own_d9_4) rfl rfl k_) ?_
  obtain ⟨T2, X2, e2, st2⟩ := getF X1 hx hZ hown (host := "") (Or.inl (hw _ (List.mem_of_getElem? (i := 24) rfl))) Via.refl e1 F1 (g := (mkF m 5 #[.val (.ref pp), .val (.ref ay)] [(.ref pp), (.ref ax)])) rfl rfl (hb hby own_d9_5)
  refine own_w (T' := T2) (g' := (mkF m 8 #[.val (.ref pp), .val (.ref ay)] [(.int (0 : Int32)), (.ref ax)])) st2 ?_
  refine own_w (T' := T2) (g' := (mkF m 9 #[.val (.ref pp), .val (.ref ay)] [(.ref pp), (.int (0 : Int32)), (.ref ax)])) (fun _ k_ => XS.aloadN X2.here hx rfl (hb hby own_d9_8) rfl rfl k_) ?_
  obtain ⟨T3, X3, e3, st3⟩ := getF X2 hx hZ hown (host := "") (Or.inl (hw _ (List.mem_of_getElem? (i := 24) rfl))) Via.refl e2 F1 (g := (mkF m 9 #[.val (.ref pp), .val (.ref ay)] [(.ref pp), (.int (0 : Int32)), (.ref ax)])) rfl rfl (hb hby own_d9_9)
  refine own_w (T' := T3) (g' := (mkF m 12 #[.val (.ref pp), .val (.ref ay)] [(.int (0 : Int32)), (.int (0 : Int32)), (.ref ax)])) st3 ?_
  refine own_w (T' := T3) (g' := (mkF m 13 #[.val (.ref pp), .val (.ref ay)] [(.ref pp), (.int (0 : Int32)), (.int (0 : Int32)), (.ref ax)])) (fun _ k_ => XS.aloadN X3.here hx rfl (hb hby own_d9_12) rfl rfl k_) ?_
  obtain ⟨T4, X4, e4, st4⟩ := getF X3 hx hZ hown (host := "") (Or.inl (hw _ (List.mem_of_getElem? (i := 26) rfl))) Via.refl e3 F2 (g := (mkF m 13 #[.val (.ref pp), .val (.ref ay)] [(.ref pp), (.int (0 : Int32)), (.int (0 : Int32)), (.ref ax)])) rfl rfl (hb hby own_d9_13)
  refine own_w (T' := T4) (g' := (mkF m 16 #[.val (.ref pp), .val (.ref ay)] [(.int (1 : Int32)), (.int (0 : Int32)), (.int (0 : Int32)), (.ref ax)])) st4 ?_
  refine own_w (T' := T4) (g' := (mkF m 17 #[.val (.ref pp), .val (.ref ay)] [(.int (1 : Int32)), (.int (0 : Int32)), (.ref ax)])) (fun _ k_ => XS.iadd X4.here hx rfl (hb hby own_d9_16) rfl k_) ?_
  refine own_w (T' := T4) (g' := (mkF m 18 #[.val (.ref pp), .val (.ref ay)] [(.ref ay), (.int (1 : Int32)), (.int (0 : Int32)), (.ref ax)])) (fun _ k_ => XS.aloadN X4.here hx rfl (hb hby own_d9_17) rfl rfl k_) ?_
  refine own_w (T' := T4) (g' := (mkF m 19 #[.val (.ref pp), .val (.ref ay)] [(.int (0 : Int32)), (.ref ay), (.int (1 : Int32)), (.int (0 : Int32)), (.ref ax)])) (fun _ k_ => XS.iconst X4.here hx rfl (hb hby own_d9_18) k_) ?_
  refine own_w (T' := T4) (g' := (mkF m 20 #[.val (.ref pp), .val (.ref ay)] [(.ref ay), (.int (0 : Int32)), (.ref ay), (.int (1 : Int32)), (.int (0 : Int32)), (.ref ax)])) (fun _ k_ => XS.aloadN X4.here hx rfl (hb hby own_d9_19) rfl rfl k_) ?_
  obtain ⟨cl5, Ar5, hs5⟩ := id Vy
  have hl5 : cl5.slots.size.toInt32 = (1 : Int32) := by rw [hs5]; rfl
  refine own_w (T' := T4) (g' := (mkF m 21 #[.val (.ref pp), .val (.ref ay)] [(.int (1 : Int32)), (.int (0 : Int32)), (.ref ay), (.int (1 : Int32)), (.int (0 : Int32)), (.ref ax)])) (fun t_ k_ => X4.arraylength hx (by rw [e4]; exact Ar5.1) (State.isArrayOf_alike hZ.alike Ar5.2.1) (g := (mkF m 20 #[.val (.ref pp), .val (.ref ay)] [(.ref ay), (.int (0 : Int32)), (.ref ay), (.int (1 : Int32)), (.int (0 : Int32)), (.ref ax)])) rfl rfl (hb hby own_d9_20) t_ (by rw [hl5]; exact k_)) ?_
  obtain ⟨_, _, ⟨T6, L6, k6, n6⟩, -, X6, ⟨Lc6, hQ6, l6, y6, z6⟩, st6⟩ := Jvm.LawKit.callS X4 hx (y := (⟨"java/util/Arrays", "equals", "([BII[BII)Z"⟩ : MethodName)) hown (mvT hZ (hw _ (List.mem_of_getElem? (i := 58) rfl))) (mvT hZ (hw _ (List.mem_of_getElem? (i := 59) rfl))) (mvT hZ (hw _ (List.mem_of_getElem? (i := 49) rfl))) (mvT hZ (hw _ (List.mem_of_getElem? (i := 60) rfl))) (by decide) (backOf (W := 0) (own_rm10_1 l Z a0 hw [] ax ay x0 y0 h0 n0 Z0 Vx Vy) hZ (hw _ (List.mem_of_getElem? (i := 60) rfl)) (hw _ (List.mem_of_getElem? (i := 49) rfl)) (by decide) (by decide)) (g := (mkF m 21 #[.val (.ref pp), .val (.ref ay)] [(.int (1 : Int32)), (.int (0 : Int32)), (.ref ay), (.int (1 : Int32)), (.int (0 : Int32)), (.ref ax)])) rfl (by rw [hml]; rfl) (argsL := [(.ref ax), (.int (0 : Int32)), (.int (1 : Int32)), (.ref ay), (.int (0 : Int32)), (.int (1 : Int32))]) (rest := []) (lenOf own_pd2 rfl) rfl (by show 2 * 0 + _ ≤ _; exact Nat.le_of_eq rfl) (hb hby own_d9_21) (fun _ _ => ⟨rfl, e4, (by decide : 0 + 0 ≤ _), (by decide : 0 + 0 ≤ _)⟩)
  dsimp only [Pt.U, Pt.locs, Pt.cells, Pt.slots] at X6 l6 y6 z6 st6 hQ6
  subst l6 y6 z6
  obtain ⟨rfl, N6q, e6⟩ := hQ6
  have N6 := Fr.app N0 N6q
  refine own_w (T' := T6) (g' := (mkF m 24 #[.val (.ref pp), .val (.ref ay)] [(.int (if ([x0] = [y0]) then (1 : Int32) else 0))])) st6 ?_
  obtain ⟨fs, hr, hrun, hended, hW, hsame⟩ := X6.leave (v := some (.int (if ([x0] = [y0]) then (1 : Int32) else 0))) (fun h => by rw [Bd.returns] at h; cases h)
  exact ⟨_, _, retOut X6 hx Bd.returns own_nb (Or.inl ⟨rfl, Or.inr (Or.inl rfl), _, rfl⟩) (hb hby own_d9_24) hr, hrun, hended, _, _, rfl, (by show own_Q9_1 Z pp ay ax x0 y0 h0 n0 _ T6.heap _; rw [e6]; exact ⟨rfl, N6, rfl⟩), ⟨_, rfl⟩, hW, hsame.mono (by decide) (by decide)⟩
theorem own_rm5_1_ef (m : MethodId) (pp : Addr) : entryFrame m #[(.ref pp)] 1 = mkF m 0 #[.val (.ref pp)] [] := by first | (simp [entryFrame, mkF, argsToLocals, Value.category]; done) | rfl
def own_Q5_1 (Z : State) (pp : Addr) (h0 : Heap) (n0 : Nat) (v_ : Option Value) (h : Heap) (L_ : List Loc) : Prop := v_ = some (.int (1 : Int32)) ∧ Fr n0 L_ ∧ (h = h0)
set_option maxRecDepth 65536 in
set_option maxHeartbeats 40000000 in
theorem own_rm5_1 (l : Launch) (Z : State) (a0 : Array Value) (hw : ∀ d ∈ tables_1, d.before a0 Z = true) (ws : List Jvm.Cond) (pp : Addr) (h0 : Heap) (n0 : Nat) (Z0 : n0 ≤ h0.size) (F2 : Fld Z h0 pp "com/example/adjacency/adjacency/wire/PrefixedBytes" "length" "I" (.int (1 : Int32))) :
    MetFree l (⟨"com/example/adjacency/adjacency/wire/PrefixedBytes", "length", "()I"⟩ : MethodName) (head1 (Jvm.Cond.code (⟨"com/example/adjacency/adjacency/wire/PrefixedBytes", "length", "()I"⟩ : MethodName) prog_31_method_4_code 1 (some .int) :: ws) ({ frames := 0, cells := 0, slots := 0, locals := 0 } : Room)) (fun a_ U_ => a_ = #[(.ref pp)] ∧ Z.Warmed39 U_.vm ∧ U_.heap = h0) (fun _ _ _ _ _ => True) (fun _ U_ o_ V_ => ∃ v_ L_, o_ = .returned v_ ∧ own_Q5_1 Z pp h0 n0 v_ V_.heap L_ ∧ FrameEnd U_ o_ V_ L_ ({ frames := 0, cells := 0, slots := 0, locals := 0 } : Room).cells ({ frames := 0, cells := 0, slots := 0, locals := 0 } : Room).slots) := by
  refine MetFree.of_bodySF (plainFor_of_name own_pn_com_example_adjacency_adjacency_wire_PrefixedBytes) hisR ?_
  intro p e s m args below meth c s₁ Bd hml0 hP hK
  obtain ⟨rfl, hZ, hh⟩ := hP
  have hx := Bd.exec
  have hby := Bd.bytes
  have hml : c.maxLocals = 1 := hml0
  have hown : s.vm.findClass "com/example/adjacency/adjacency/wire/PrefixedBytes" = some m.cls := findClass_of_methodNamed Bd.named
  have hnm := (name_of_methodNamed Bd.named Bd.method).1
  have X0 : Stand p l e ({ frames := 0, cells := 0, slots := 0, locals := 0 } : Room) s m #[(.ref pp)] below meth c s₁ [] 0 0 := Stand.of_body Bd
  have e0 : s₁.heap = h0 := by rw [← hh, Bd.state]; rfl
  have N0 := Fr.nil n0
  show own_G p e below s (own_Q5_1 Z pp h0 n0) ({ frames := 0, cells := 0, slots := 0, locals := 0 } : Room).cells ({ frames := 0, cells := 0, slots := 0, locals := 0 } : Room).slots s₁ (entryFrame m #[(.ref pp)] 1)
  rw [own_rm5_1_ef]
  refine own_w (T' := s₁) (g' := (mkF m 1 #[.val (.ref pp)] [(.ref pp)])) (fun _ k_ => XS.aloadN X0.here hx rfl (hb hby own_d5_0) rfl rfl k_) ?_
  obtain ⟨T1, X1, e1, st1⟩ := getF X0 hx hZ hown (host := "") (Or.inl (hw _ (List.mem_of_getElem? (i := 26) rfl))) Via.refl e0 F2 (g := (mkF m 1 #[.val (.ref pp)] [(.ref pp)])) rfl rfl (hb hby own_d5_1)
  refine own_w (T' := T1) (g' := (mkF m 4 #[.val (.ref pp)] [(.int (1 : Int32))])) st1 ?_
  obtain ⟨fs, hr, hrun, hended, hW, hsame⟩ := X1.leave (v := some (.int (1 : Int32))) (fun h => by rw [Bd.returns] at h; cases h)
  exact ⟨_, _, retOut X1 hx Bd.returns rfl (Or.inl ⟨rfl, Or.inl rfl, _, rfl⟩) (hb hby own_d5_4) hr, hrun, hended, _, _, rfl, (by show own_Q5_1 Z pp h0 n0 _ T1.heap _; rw [e1]; exact ⟨rfl, N0, rfl⟩), ⟨_, rfl⟩, hW, hsame.mono (by decide) (by decide)⟩
theorem own_rm6_1_ef (m : MethodId) (pp : Addr) : entryFrame m #[(.ref pp)] 1 = mkF m 0 #[.val (.ref pp)] [] := by first | (simp [entryFrame, mkF, argsToLocals, Value.category]; done) | rfl
def own_Q6_1 (Z : State) (pp : Addr) (h0 : Heap) (n0 : Nat) (v_ : Option Value) (h : Heap) (L_ : List Loc) : Prop := v_ = some (.int (3 : Int32)) ∧ Fr n0 L_ ∧ (h = h0)
set_option maxRecDepth 65536 in
set_option maxHeartbeats 40000000 in
theorem own_rm6_1 (l : Launch) (Z : State) (a0 : Array Value) (hw : ∀ d ∈ tables_1, d.before a0 Z = true) (ws : List Jvm.Cond) (pp : Addr) (h0 : Heap) (n0 : Nat) (Z0 : n0 ≤ h0.size) (F2 : Fld Z h0 pp "com/example/adjacency/adjacency/wire/PrefixedBytes" "length" "I" (.int (1 : Int32))) :
    MetFree l (⟨"com/example/adjacency/adjacency/wire/PrefixedBytes", "prefixedLength", "()I"⟩ : MethodName) (head1 (Jvm.Cond.code (⟨"com/example/adjacency/adjacency/wire/PrefixedBytes", "prefixedLength", "()I"⟩ : MethodName) prog_31_method_5_code 1 (some .int) :: ws) ({ frames := 0, cells := 0, slots := 0, locals := 0 } : Room)) (fun a_ U_ => a_ = #[(.ref pp)] ∧ Z.Warmed39 U_.vm ∧ U_.heap = h0) (fun _ _ _ _ _ => True) (fun _ U_ o_ V_ => ∃ v_ L_, o_ = .returned v_ ∧ own_Q6_1 Z pp h0 n0 v_ V_.heap L_ ∧ FrameEnd U_ o_ V_ L_ ({ frames := 0, cells := 0, slots := 0, locals := 0 } : Room).cells ({ frames := 0, cells := 0, slots := 0, locals := 0 } : Room).slots) := by
  refine MetFree.of_bodySF (plainFor_of_name own_pn_com_example_adjacency_adjacency_wire_PrefixedBytes) hisR ?_
  intro p e s m args below meth c s₁ Bd hml0 hP hK
  obtain ⟨rfl, hZ, hh⟩ := hP
  have hx := Bd.exec
  have hby := Bd.bytes
  have hml : c.maxLocals = 1 := hml0
  have hown : s.vm.findClass "com/example/adjacency/adjacency/wire/PrefixedBytes" = some m.cls := findClass_of_methodNamed Bd.named
  have hnm := (name_of_methodNamed Bd.named Bd.method).1
  have X0 : Stand p l e ({ frames := 0, cells := 0, slots := 0, locals := 0 } : Room) s m #[(.ref pp)] below meth c s₁ [] 0 0 := Stand.of_body Bd
  have e0 : s₁.heap = h0 := by rw [← hh, Bd.state]; rfl
  have N0 := Fr.nil n0
  show own_G p e below s (own_Q6_1 Z pp h0 n0) ({ frames := 0, cells := 0, slots := 0, locals := 0 } : Room).cells ({ frames := 0, cells := 0, slots := 0, locals := 0 } : Room).slots s₁ (entryFrame m #[(.ref pp)] 1)
  rw [own_rm6_1_ef]
  refine own_w (T' := s₁) (g' := (mkF m 1 #[.val (.ref pp)] [(.int (2 : Int32))])) (fun _ k_ => XS.iconst X0.here hx rfl (hb hby own_d6_0) k_) ?_
  refine own_w (T' := s₁) (g' := (mkF m 2 #[.val (.ref pp)] [(.ref pp), (.int (2 : Int32))])) (fun _ k_ => XS.aloadN X0.here hx rfl (hb hby own_d6_1) rfl rfl k_) ?_
  obtain ⟨T1, X1, e1, st1⟩ := getF X0 hx hZ hown (host := "") (Or.inl (hw _ (List.mem_of_getElem? (i := 26) rfl))) Via.refl e0 F2 (g := (mkF m 2 #[.val (.ref pp)] [(.ref pp), (.int (2 : Int32))])) rfl rfl (hb hby own_d6_2)
  refine own_w (T' := T1) (g' := (mkF m 5 #[.val (.ref pp)] [(.int (1 : Int32)), (.int (2 : Int32))])) st1 ?_
  refine own_w (T' := T1) (g' := (mkF m 6 #[.val (.ref pp)] [(.int (3 : Int32))])) (fun _ k_ => XS.iadd X1.here hx rfl (hb hby own_d6_5) rfl k_) ?_
  obtain ⟨fs, hr, hrun, hended, hW, hsame⟩ := X1.leave (v := some (.int (3 : Int32))) (fun h => by rw [Bd.returns] at h; cases h)
  exact ⟨_, _, retOut X1 hx Bd.returns rfl (Or.inl ⟨rfl, Or.inl rfl, _, rfl⟩) (hb hby own_d6_6) hr, hrun, hended, _, _, rfl, (by show own_Q6_1 Z pp h0 n0 _ T1.heap _; rw [e1]; exact ⟨rfl, N0, rfl⟩), ⟨_, rfl⟩, hW, hsame.mono (by decide) (by decide)⟩
theorem own_rm8_1_ef (m : MethodId) (ax : Addr) : entryFrame m #[(.ref ax), (.int (0 : Int32)), (.int (1 : Int32))] 3 = mkF m 0 #[.val (.ref ax), .val (.int (0 : Int32)), .val (.int (1 : Int32))] [] := by first | (simp [entryFrame, mkF, argsToLocals, Value.category]; done) | rfl
def own_Q8_1 (Z : State) (ax : Addr) (x0 : Int32) (h0 : Heap) (n0 : Nat) (v_ : Option Value) (h : Heap) (L_ : List Loc) : Prop := v_ = some (.ref h0.size) ∧ Fr n0 L_ ∧ (Keep h0 h []) ∧ (own_Ar Z h h0.size .byte [x0])
set_option maxRecDepth 65536 in
set_option maxHeartbeats 40000000 in
theorem own_rm8_1 (l : Launch) (Z : State) (a0 : Array Value) (hw : ∀ d ∈ tables_1, d.before a0 Z = true) (ws : List Jvm.Cond) (ax : Addr) (x0 : Int32) (h0 : Heap) (n0 : Nat) (Z0 : n0 ≤ h0.size) (Vx : own_Ar Z h0 ax .byte [x0]) (Ex : Exa Z h0 ax "[B") (hf : ∀ x ∈ [x0], fits .byte (.int x) = true) :
    MetFree l (⟨"java/util/Arrays", "copyOfRange", "([BII)[B"⟩ : MethodName) (head1 (Jvm.Cond.code (⟨"java/util/Arrays", "copyOfRange", "([BII)[B"⟩ : MethodName) jdk_65_method_132_code 3 (some (.array .byte)) :: ws) ({ frames := 1, cells := 1, slots := 3, locals := 14 } : Room)) (fun a_ U_ => a_ = #[(.ref ax), (.int (0 : Int32)), (.int (1 : Int32))] ∧ Z.Warmed39 U_.vm ∧ U_.heap = h0) (fun _ _ _ _ _ => True) (fun _ U_ o_ V_ => ∃ v_ L_, o_ = .returned v_ ∧ own_Q8_1 Z ax x0 h0 n0 v_ V_.heap L_ ∧ FrameEnd U_ o_ V_ L_ ({ frames := 1, cells := 1, slots := 3, locals := 14 } : Room).cells ({ frames := 1, cells := 1, slots := 3, locals := 14 } : Room).slots) := by
  refine MetFree.of_bodySF (plainFor_of_name own_pn_java_util_Arrays) hisR ?_
  intro p e s m args below meth c s₁ Bd hml0 hP hK
  obtain ⟨rfl, hZ, hh⟩ := hP
  have hx := Bd.exec
  have hby := Bd.bytes
  have hml : c.maxLocals = 3 := hml0
  have hown : s.vm.findClass "java/util/Arrays" = some m.cls := findClass_of_methodNamed Bd.named
  have hnm := (name_of_methodNamed Bd.named Bd.method).1
  have X0 : Stand p l e ({ frames := 1, cells := 1, slots := 3, locals := 14 } : Room) s m #[(.ref ax), (.int (0 : Int32)), (.int (1 : Int32))] below meth c s₁ [] 0 0 := Stand.of_body Bd
  have e0 : s₁.heap = h0 := by rw [← hh, Bd.state]; rfl
  have N0 := Fr.nil n0
  show own_G p e below s (own_Q8_1 Z ax x0 h0 n0) ({ frames := 1, cells := 1, slots := 3, locals := 14 } : Room).cells ({ frames := 1, cells := 1, slots := 3, locals := 14 } : Room).slots s₁ (entryFrame m #[(.ref ax), (.int (0 : Int32)), (.int (1 : Int32))] 3)
  rw [own_rm8_1_ef]
  refine own_w (T' := s₁) (g' := (mkF m 1 #[.val (.ref ax), .val (.int (0 : Int32)), .val (.int (1 : Int32))] [(.int (0 : Int32))])) (fun _ k_ => XS.iloadN X0.here hx rfl (hb hby own_d8_0) rfl k_) ?_
  refine own_w (T' := s₁) (g' := (mkF m 4 #[.val (.ref ax), .val (.int (0 : Int32)), .val (.int (1 : Int32))] [])) (fun _ k_ => XS.ifNo X0.here hx rfl (hb hby own_d8_1) rfl ((if0 _ _).trans (teq rfl).2) k_) ?_
  refine own_w (T' := s₁) (g' := (mkF m 5 #[.val (.ref ax), .val (.int (0 : Int32)), .val (.int (1 : Int32))] [(.int (1 : Int32))])) (fun _ k_ => XS.iloadN X0.here hx rfl (hb hby own_d8_4) rfl k_) ?_
  refine own_w (T' := s₁) (g' := (mkF m 6 #[.val (.ref ax), .val (.int (0 : Int32)), .val (.int (1 : Int32))] [(.ref ax), (.int (1 : Int32))])) (fun _ k_ => XS.aloadN X0.here hx rfl (hb hby own_d8_5) rfl rfl k_) ?_
  obtain ⟨cl1, Ar1, hs1⟩ := id Vx
  have hl1 : cl1.slots.size.toInt32 = (1 : Int32) := by rw [hs1]; rfl
  refine own_w (T' := s₁) (g' := (mkF m 7 #[.val (.ref ax), .val (.int (0 : Int32)), .val (.int (1 : Int32))] [(.int (1 : Int32)), (.int (1 : Int32))])) (fun t_ k_ => X0.arraylength hx (by rw [e0]; exact Ar1.1) (State.isArrayOf_alike hZ.alike Ar1.2.1) (g := (mkF m 6 #[.val (.ref ax), .val (.int (0 : Int32)), .val (.int (1 : Int32))] [(.ref ax), (.int (1 : Int32))])) rfl rfl (hb hby own_d8_6) t_ (by rw [hl1]; exact k_)) ?_
  refine own_w (T' := s₁) (g' := (mkF m 17 #[.val (.ref ax), .val (.int (0 : Int32)), .val (.int (1 : Int32))] [])) (fun _ k_ => XS.icmpYes X0.here hx rfl (pc0 := 7) (pc' := 17) rfl (hb hby own_d8_7) rfl (teq rfl).1 (by decide) (by decide) k_) ?_
  refine own_w (T' := s₁) (g' := (mkF m 18 #[.val (.ref ax), .val (.int (0 : Int32)), .val (.int (1 : Int32))] [(.ref ax)])) (fun _ k_ => XS.aloadN X0.here hx rfl (hb hby own_d8_17) rfl rfl k_) ?_
  obtain ⟨cl2, Ar2, hs2⟩ := id Vx
  obtain ⟨T2, h2, X2, e2, E2, A2, Xa2, st2⟩ := cloneA X0 hx hZ hown (hw _ (List.mem_of_getElem? (i := 51) rfl)) (hw _ (List.mem_of_getElem? (i := 8) rfl)) (hw _ (List.mem_of_getElem? (i := 12) rfl)) (hw _ (List.mem_of_getElem? (i := 10) rfl)) (hw _ (List.mem_of_getElem? (i := 11) rfl)) (hw _ (List.mem_of_getElem? (i := 13) rfl)) e0 Ar2 Ex (own_fitc Ar2 hs2 hf) (g := (mkF m 18 #[.val (.ref ax), .val (.int (0 : Int32)), .val (.int (1 : Int32))] [(.ref ax)])) rfl (by rw [hml]; rfl) rfl (hb hby own_d8_18) (by decide) (W := 0) (cap := 3) (by show 2 * 0 + _ ≤ _; exact Nat.le_of_eq rfl) (by decide) (by rw [hs2]; simp) (by decide) (by decide)
  obtain ⟨b2, gq2⟩ : ∃ z, z = h0.size := ⟨_, rfl⟩
  rw [← gq2] at A2 Xa2 st2
  have V_b2 : own_Ar Z h2 b2 _ _ := ⟨_, A2, hs2⟩
  have X_b2 := Xa2
  have g_b2 : n0 ≤ b2 := Nat.le_trans Z0 (Nat.le_of_eq gq2.symm)
  have Z2 : n0 ≤ h2.size := Nat.le_trans Z0 E2.1
  refine own_w (T' := T2) (g' := (mkF m 21 #[.val (.ref ax), .val (.int (0 : Int32)), .val (.int (1 : Int32))] [(.ref b2)])) st2 ?_
  obtain ⟨T3, X3, e3, st3⟩ := castY X2 hx hZ hown (hw _ (List.mem_of_getElem? (i := 52) rfl)) e2 (Ins.self X_b2) (g := (mkF m 21 #[.val (.ref ax), .val (.int (0 : Int32)), .val (.int (1 : Int32))] [(.ref b2)])) rfl rfl (hb hby own_d8_21)
  refine own_w (T' := T3) (g' := (mkF m 24 #[.val (.ref ax), .val (.int (0 : Int32)), .val (.int (1 : Int32))] [(.ref b2)])) st3 ?_
  obtain ⟨fs, hr, hrun, hended, hW, hsame⟩ := X3.leave (v := some (.ref b2)) (fun h => by rw [Bd.returns] at h; cases h)
  exact ⟨_, _, retOut X3 hx Bd.returns rfl (Or.inr (Or.inr (Or.inr (Or.inr ⟨rfl, rfl, rfl⟩)))) (hb hby own_d8_24) hr, hrun, hended, _, _, rfl, (by show own_Q8_1 Z ax x0 h0 n0 _ T3.heap _; rw [e3]; exact ⟨(by rw [gq2]), N0, (Keep.refl _ _).ext E2, gq2 ▸ V_b2⟩), ⟨_, rfl⟩, hW, hsame.mono (by decide) (by decide)⟩
theorem own_rm7_1_ef (m : MethodId) (pp : Addr) : entryFrame m #[(.ref pp)] 1 = mkF m 0 #[.val (.ref pp)] [] := by first | (simp [entryFrame, mkF, argsToLocals, Value.category]; done) | rfl
def own_Q7_1 (Z : State) (pp : Addr) (ax : Addr) (x0 : Int32) (h0 : Heap) (n0 : Nat) (v_ : Option Value) (h : Heap) (L_ : List Loc) : Prop := v_ = some (.ref h0.size) ∧ Fr n0 L_ ∧ (Keep h0 h []) ∧ (own_Ar Z h h0.size .byte [x0])
set_option maxRecDepth 65536 in
set_option maxHeartbeats 40000000 in
theorem own_rm7_1 (l : Launch) (Z : State) (a0 : Array Value) (hw : ∀ d ∈ tables_1, d.before a0 Z = true) (ws : List Jvm.Cond) (pp : Addr) (ax : Addr) (x0 : Int32) (h0 : Heap) (n0 : Nat) (Z0 : n0 ≤ h0.size) (F0 : Fld Z h0 pp "com/example/adjacency/adjacency/wire/PrefixedBytes" "array" "[B" (.ref ax)) (F1 : Fld Z h0 pp "com/example/adjacency/adjacency/wire/PrefixedBytes" "offset" "I" (.int (0 : Int32))) (F2 : Fld Z h0 pp "com/example/adjacency/adjacency/wire/PrefixedBytes" "length" "I" (.int (1 : Int32))) (Vx : own_Ar Z h0 ax .byte [x0]) (Ex : Exa Z h0 ax "[B") (hf : ∀ x ∈ [x0], fits .byte (.int x) = true) :
    MetFree l (⟨"com/example/adjacency/adjacency/wire/PrefixedBytes", "toArray", "()[B"⟩ : MethodName) (head1 (Jvm.Cond.code (⟨"com/example/adjacency/adjacency/wire/PrefixedBytes", "toArray", "()[B"⟩ : MethodName) prog_31_method_7_code 1 (some (.array .byte)) :: ws) ({ frames := 2, cells := 1, slots := 3, locals := 28 } : Room)) (fun a_ U_ => a_ = #[(.ref pp)] ∧ Z.Warmed39 U_.vm ∧ U_.heap = h0) (fun _ _ _ _ _ => True) (fun _ U_ o_ V_ => ∃ v_ L_, o_ = .returned v_ ∧ own_Q7_1 Z pp ax x0 h0 n0 v_ V_.heap L_ ∧ FrameEnd U_ o_ V_ L_ ({ frames := 2, cells := 1, slots := 3, locals := 28 } : Room).cells ({ frames := 2, cells := 1, slots := 3, locals := 28 } : Room).slots) := by
  refine MetFree.of_bodySF (plainFor_of_name own_pn_com_example_adjacency_adjacency_wire_PrefixedBytes) hisR ?_
  intro p e s m args below meth c s₁ Bd hml0 hP hK
  obtain ⟨rfl, hZ, hh⟩ := hP
  have hx := Bd.exec
  have hby := Bd.bytes
  have hml : c.maxLocals = 1 := hml0
  have hown : s.vm.findClass "com/example/adjacency/adjacency/wire/PrefixedBytes" = some m.cls := findClass_of_methodNamed Bd.named
  have hnm := (name_of_methodNamed Bd.named Bd.method).1
  have X0 : Stand p l e ({ frames := 2, cells := 1, slots := 3, locals := 28 } : Room) s m #[(.ref pp)] below meth c s₁ [] 0 0 := Stand.of_body Bd
  have e0 : s₁.heap = h0 := by rw [← hh, Bd.state]; rfl
  have N0 := Fr.nil n0
  show own_G p e below s (own_Q7_1 Z pp ax x0 h0 n0) ({ frames := 2, cells := 1, slots := 3, locals := 28 } : Room).cells ({ frames := 2, cells := 1, slots := 3, locals := 28 } : Room).slots s₁ (entryFrame m #[(.ref pp)] 1)
  rw [own_rm7_1_ef]
  refine own_w (T' := s₁) (g' := (mkF m 1 #[.val (.ref pp)] [(.ref pp)])) (fun _ k_ => XS.aloadN X0.here hx rfl (hb hby own_d7_0) rfl rfl k_) ?_
  obtain ⟨T1, X1, e1, st1⟩ := getF X0 hx hZ hown (host := "") (Or.inl (hw _ (List.mem_of_getElem? (i := 22) rfl))) Via.refl e0 F0 (g := (mkF m 1 #[.val (.ref pp)] [(.ref pp)])) rfl rfl (hb hby own_d7_1)
  refine own_w (T' := T1) (g' := (mkF m 4 #[.val (.ref pp)] [(.ref ax)])) st1 ?_
  refine own_w (T' := T1) (g' := (mkF m 5 #[.val (.ref pp)] [(.ref pp), (.ref ax)])) (fun _ k_ => XS.aloadN X1.here hx rfl (hb hby own_d7_4) rfl rfl k_) ?_
  obtain ⟨T2, X2, e2, st2⟩ := getF X1 hx hZ hown (host := "") (Or.inl (hw _ (List.mem_of_getElem? (i := 24) rfl))) Via.refl e1 F1 (g := (mkF m 5 #[.val (.ref pp)] [(.ref pp), (.ref ax)])) rfl rfl (hb hby own_d7_5)
  refine own_w (T' := T2) (g' := (mkF m 8 #[.val (.ref pp)] [(.int (0 : Int32)), (.ref ax)])) st2 ?_
  refine own_w (T' := T2) (g' := (mkF m 9 #[.val (.ref pp)] [(.ref pp), (.int (0 : Int32)), (.ref ax)])) (fun _ k_ => XS.aloadN X2.here hx rfl (hb hby own_d7_8) rfl rfl k_) ?_
  obtain ⟨T3, X3, e3, st3⟩ := getF X2 hx hZ hown (host := "") (Or.inl (hw _ (List.mem_of_getElem? (i := 24) rfl))) Via.refl e2 F1 (g := (mkF m 9 #[.val (.ref pp)] [(.ref pp), (.int (0 : Int32)), (.ref ax)])) rfl rfl (hb hby own_d7_9)
  refine own_w (T' := T3) (g' := (mkF m 12 #[.val (.ref pp)] [(.int (0 : Int32)), (.int (0 : Int32)), (.ref ax)])) st3 ?_
  refine own_w (T' := T3) (g' := (mkF m 13 #[.val (.ref pp)] [(.ref pp), (.int (0 : Int32)), (.int (0 : Int32)), (.ref ax)])) (fun _ k_ => XS.aloadN X3.here hx rfl (hb hby own_d7_12) rfl rfl k_) ?_
  obtain ⟨T4, X4, e4, st4⟩ := getF X3 hx hZ hown (host := "") (Or.inl (hw _ (List.mem_of_getElem? (i := 26) rfl))) Via.refl e3 F2 (g := (mkF m 13 #[.val (.ref pp)] [(.ref pp), (.int (0 : Int32)), (.int (0 : Int32)), (.ref ax)])) rfl rfl (hb hby own_d7_13)
  refine own_w (T' := T4) (g' := (mkF m 16 #[.val (.ref pp)] [(.int (1 : Int32)), (.int (0 : Int32)), (.int (0 : Int32)), (.ref ax)])) st4 ?_
  refine own_w (T' := T4) (g' := (mkF m 17 #[.val (.ref pp)] [(.int (1 : Int32)), (.int (0 : Int32)), (.ref ax)])) (fun _ k_ => XS.iadd X4.here hx rfl (hb hby own_d7_16) rfl k_) ?_
  obtain ⟨_, _, ⟨T5, L5, k5, n5⟩, -, X5, ⟨Lc5, hQ5, l5, y5, z5⟩, st5⟩ := Jvm.LawKit.callS X4 hx (y := (⟨"java/util/Arrays", "copyOfRange", "([BII)[B"⟩ : MethodName)) hown (mvT hZ (hw _ (List.mem_of_getElem? (i := 47) rfl))) (mvT hZ (hw _ (List.mem_of_getElem? (i := 48) rfl))) (mvT hZ (hw _ (List.mem_of_getElem? (i := 49) rfl))) (mvT hZ (hw _ (List.mem_of_getElem? (i := 50) rfl))) (by decide) (backOf (W := 0) (own_rm8_1 l Z a0 hw [] ax x0 h0 n0 Z0 Vx Ex hf) hZ (hw _ (List.mem_of_getElem? (i := 50) rfl)) (hw _ (List.mem_of_getElem? (i := 49) rfl)) (by decide) (by decide)) (g := (mkF m 17 #[.val (.ref pp)] [(.int (1 : Int32)), (.int (0 : Int32)), (.ref ax)])) rfl (by rw [hml]; rfl) (argsL := [(.ref ax), (.int (0 : Int32)), (.int (1 : Int32))]) (rest := []) (lenOf own_pd3 rfl) rfl (by show 2 * 0 + _ ≤ _; exact Nat.le_of_eq rfl) (hb hby own_d7_17) (fun _ _ => ⟨rfl, e4, (by decide : 0 + 1 ≤ _), (by decide : 0 + 3 ≤ _)⟩)
  dsimp only [Pt.U, Pt.locs, Pt.cells, Pt.slots] at X5 l5 y5 z5 st5 hQ5
  subst l5 y5 z5
  obtain ⟨h5, e5⟩ : ∃ h, T5.heap = h := ⟨_, rfl⟩
  rw [e5] at hQ5
  obtain ⟨rfl, N5q, K5, V5⟩ := hQ5
  have N5 := Fr.app N0 N5q
  refine own_w (T' := T5) (g' := (mkF m 20 #[.val (.ref pp)] [(.ref h0.size)])) st5 ?_
  obtain ⟨fs, hr, hrun, hended, hW, hsame⟩ := X5.leave (v := some (.ref h0.size)) (fun h => by rw [Bd.returns] at h; cases h)
  exact ⟨_, _, retOut X5 hx Bd.returns rfl (Or.inr (Or.inr (Or.inr (Or.inr ⟨rfl, rfl, rfl⟩)))) (hb hby own_d7_20) hr, hrun, hended, _, _, rfl, (by show own_Q7_1 Z pp ax x0 h0 n0 _ T5.heap _; rw [e5]; exact ⟨rfl, N5, K5, V5⟩), ⟨_, rfl⟩, hW, hsame.mono (by decide) (by decide)⟩
theorem own_rm1_1_ef (m : MethodId) (ax : Addr) : entryFrame m #[(.ref ax)] 1 = mkF m 0 #[.val (.ref ax)] [] := by first | (simp [entryFrame, mkF, argsToLocals, Value.category]; done) | rfl
def own_Q1_1 (Z : State) (ax : Addr) (x0 : Int32) (h0 : Heap) (n0 : Nat) (v_ : Option Value) (h : Heap) (L_ : List Loc) : Prop := v_ = some (.ref h0.size) ∧ Fr n0 L_ ∧ (Keep h0 h []) ∧ (Exa Z h h0.size "com/example/adjacency/adjacency/wire/PrefixedBytes") ∧ (∃ ar, h0.size < ar ∧ Fld Z h h0.size "com/example/adjacency/adjacency/wire/PrefixedBytes" "array" "[B" (.ref ar) ∧ Fld Z h h0.size "com/example/adjacency/adjacency/wire/PrefixedBytes" "offset" "I" (.int (0 : Int32)) ∧ Fld Z h h0.size "com/example/adjacency/adjacency/wire/PrefixedBytes" "length" "I" (.int (1 : Int32)) ∧ own_Ar Z h ar .byte [x0] ∧ Exa Z h ar "[B")
set_option maxRecDepth 65536 in
set_option maxHeartbeats 40000000 in
theorem own_rm1_1 (l : Launch) (Z : State) (a0 : Array Value) (hw : ∀ d ∈ tables_1, d.before a0 Z = true) (ws : List Jvm.Cond) (ax : Addr) (x0 : Int32) (h0 : Heap) (n0 : Nat) (Z0 : n0 ≤ h0.size) (Vx : own_Ar Z h0 ax .byte [x0]) (Ex : Exa Z h0 ax "[B") (hf : ∀ x ∈ [x0], fits .byte (.int x) = true) :
    MetFree l (⟨"com/example/adjacency/adjacency/wire/PrefixedBytes", "copyOf", "([B)Lcom/example/adjacency/adjacency/wire/PrefixedBytes;"⟩ : MethodName) (head1 (Jvm.Cond.code (⟨"com/example/adjacency/adjacency/wire/PrefixedBytes", "copyOf", "([B)Lcom/example/adjacency/adjacency/wire/PrefixedBytes;"⟩ : MethodName) prog_31_method_2_code 1 (some (.object "com/example/adjacency/adjacency/wire/PrefixedBytes")) :: ws) ({ frames := 2, cells := 2, slots := 6, locals := 28 } : Room)) (fun a_ U_ => a_ = #[(.ref ax)] ∧ Z.Warmed39 U_.vm ∧ U_.heap = h0) (fun _ _ _ _ _ => True) (fun _ U_ o_ V_ => ∃ v_ L_, o_ = .returned v_ ∧ own_Q1_1 Z ax x0 h0 n0 v_ V_.heap L_ ∧ FrameEnd U_ o_ V_ L_ ({ frames := 2, cells := 2, slots := 6, locals := 28 } : Room).cells ({ frames := 2, cells := 2, slots := 6, locals := 28 } : Room).slots) := by
  refine MetFree.of_bodySF (plainFor_of_name own_pn_com_example_adjacency_adjacency_wire_PrefixedBytes) hisR ?_
  intro p e s m args below meth c s₁ Bd hml0 hP hK
  obtain ⟨rfl, hZ, hh⟩ := hP
  have hx := Bd.exec
  have hby := Bd.bytes
  have hml : c.maxLocals = 1 := hml0
  have hown : s.vm.findClass "com/example/adjacency/adjacency/wire/PrefixedBytes" = some m.cls := findClass_of_methodNamed Bd.named
  have hnm := (name_of_methodNamed Bd.named Bd.method).1
  have X0 : Stand p l e ({ frames := 2, cells := 2, slots := 6, locals := 28 } : Room) s m #[(.ref ax)] below meth c s₁ [] 0 0 := Stand.of_body Bd
  have e0 : s₁.heap = h0 := by rw [← hh, Bd.state]; rfl
  have N0 := Fr.nil n0
  show own_G p e below s (own_Q1_1 Z ax x0 h0 n0) ({ frames := 2, cells := 2, slots := 6, locals := 28 } : Room).cells ({ frames := 2, cells := 2, slots := 6, locals := 28 } : Room).slots s₁ (entryFrame m #[(.ref ax)] 1)
  rw [own_rm1_1_ef]
  obtain ⟨T1, h1, X1, e1, E1, A1, D1, -, st1⟩ := newO X0 hx hZ hown (hw _ (List.mem_of_getElem? (i := 5) rfl)) (hw _ (List.mem_of_getElem? (i := 6) rfl)) (hw _ (List.mem_of_getElem? (i := 3) rfl)) e0 (g := (mkF m 0 #[.val (.ref ax)] [])) rfl (hb hby own_d1_0) (by decide) (by decide)
  obtain ⟨b1, gq1⟩ : ∃ z, z = h0.size := ⟨_, rfl⟩
  rw [← gq1] at A1 D1 st1
  have g_b1 : n0 ≤ b1 := Nat.le_trans Z0 (Nat.le_of_eq gq1.symm)
  have Z1 : n0 ≤ h1.size := Nat.le_trans Z0 E1.1
  refine own_w (T' := T1) (g' := (mkF m 3 #[.val (.ref ax)] [(.ref b1)])) st1 ?_
  refine own_w (T' := T1) (g' := (mkF m 4 #[.val (.ref ax)] [(.ref b1), (.ref b1)])) (fun _ k_ => XS.dup X1.here hx rfl (hb hby own_d1_3) rfl rfl k_) ?_
  refine own_w (T' := T1) (g' := (mkF m 5 #[.val (.ref ax)] [(.ref ax), (.ref b1), (.ref b1)])) (fun _ k_ => XS.aloadN X1.here hx rfl (hb hby own_d1_4) rfl rfl k_) ?_
  obtain ⟨cl2, Ar2, hs2⟩ := id (own_Ar_ext Vx E1)
  obtain ⟨T2, h2, X2, e2, E2, A2, Xa2, st2⟩ := cloneA X1 hx hZ hown (hw _ (List.mem_of_getElem? (i := 7) rfl)) (hw _ (List.mem_of_getElem? (i := 8) rfl)) (hw _ (List.mem_of_getElem? (i := 12) rfl)) (hw _ (List.mem_of_getElem? (i := 10) rfl)) (hw _ (List.mem_of_getElem? (i := 11) rfl)) (hw _ (List.mem_of_getElem? (i := 13) rfl)) e1 Ar2 (Ex.ext E1) (own_fitc Ar2 hs2 hf) (g := (mkF m 5 #[.val (.ref ax)] [(.ref ax), (.ref b1), (.ref b1)])) rfl (by rw [hml]; rfl) rfl (hb hby own_d1_5) (by decide) (W := 2) (cap := 3) (by show 2 * 0 + _ ≤ _; exact Nat.le_of_eq rfl) (by decide) (by rw [hs2]; simp) (by decide) (by decide)
  obtain ⟨b2, gq2⟩ : ∃ z, z = h1.size := ⟨_, rfl⟩
  rw [← gq2] at A2 Xa2 st2
  have V_b2 : own_Ar Z h2 b2 _ _ := ⟨_, A2, hs2⟩
  have X_b2 := Xa2
  have g_b2 : n0 ≤ b2 := Nat.le_trans Z1 (Nat.le_of_eq gq2.symm)
  have Z2 : n0 ≤ h2.size := Nat.le_trans Z1 E2.1
  refine own_w (T' := T2) (g' := (mkF m 8 #[.val (.ref ax)] [(.ref b2), (.ref b1), (.ref b1)])) st2 ?_
  obtain ⟨T3, X3, e3, st3⟩ := castY X2 hx hZ hown (hw _ (List.mem_of_getElem? (i := 14) rfl)) e2 (Ins.self X_b2) (g := (mkF m 8 #[.val (.ref ax)] [(.ref b2), (.ref b1), (.ref b1)])) rfl rfl (hb hby own_d1_8)
  refine own_w (T' := T3) (g' := (mkF m 11 #[.val (.ref ax)] [(.ref b2), (.ref b1), (.ref b1)])) st3 ?_
  refine own_w (T' := T3) (g' := (mkF m 12 #[.val (.ref ax)] [(.int (0 : Int32)), (.ref b2), (.ref b1), (.ref b1)])) (fun _ k_ => XS.iconst X3.here hx rfl (hb hby own_d1_11) k_) ?_
  refine own_w (T' := T3) (g' := (mkF m 13 #[.val (.ref ax)] [(.ref ax), (.int (0 : Int32)), (.ref b2), (.ref b1), (.ref b1)])) (fun _ k_ => XS.aloadN X3.here hx rfl (hb hby own_d1_12) rfl rfl k_) ?_
  obtain ⟨cl4, Ar4, hs4⟩ := id (own_Ar_ext (own_Ar_ext Vx E1) E2)
  have hl4 : cl4.slots.size.toInt32 = (1 : Int32) := by rw [hs4]; rfl
  refine own_w (T' := T3) (g' := (mkF m 14 #[.val (.ref ax)] [(.int (1 : Int32)), (.int (0 : Int32)), (.ref b2), (.ref b1), (.ref b1)])) (fun t_ k_ => X3.arraylength hx (by rw [e3]; exact Ar4.1) (State.isArrayOf_alike hZ.alike Ar4.2.1) (g := (mkF m 13 #[.val (.ref ax)] [(.ref ax), (.int (0 : Int32)), (.ref b2), (.ref b1), (.ref b1)])) rfl rfl (hb hby own_d1_13) t_ (by rw [hl4]; exact k_)) ?_
  obtain ⟨_, _, ⟨T5, L5, k5, n5⟩, -, X5, ⟨Lc5, hQ5, l5, y5, z5⟩, st5⟩ := X3.specialBack hx (y := (⟨"com/example/adjacency/adjacency/wire/PrefixedBytes", "<init>", "([BII)V"⟩ : MethodName)) rfl hown (mvT hZ (hw _ (List.mem_of_getElem? (i := 16) rfl))) (mvT hZ (hw _ (List.mem_of_getElem? (i := 17) rfl))) (mvT hZ (hw _ (List.mem_of_getElem? (i := 18) rfl))) (by decide) (backOf (W := 1) (own_rm2 l Z a0 hw [] b1 b2 (0 : Int32) (1 : Int32) _ _ _ h2 n0 Z2 ((D1 (Or.inr (hw _ (List.mem_of_getElem? (i := 23) rfl))) (ty := (.array .byte)) (by decide)).ext E2) ((D1 (Or.inr (hw _ (List.mem_of_getElem? (i := 25) rfl))) (ty := .int) (by decide)).ext E2) ((D1 (Or.inr (hw _ (List.mem_of_getElem? (i := 27) rfl))) (ty := .int) (by decide)).ext E2) (A1.ext E2) g_b1) hZ (hw _ (List.mem_of_getElem? (i := 18) rfl)) (hw _ (List.mem_of_getElem? (i := 3) rfl)) (by decide) (by decide)) (g := (mkF m 14 #[.val (.ref ax)] [(.int (1 : Int32)), (.int (0 : Int32)), (.ref b2), (.ref b1), (.ref b1)])) rfl (by rw [hml]; rfl) (Steps.refl _) (a := b1) (argsL := [(.ref b2), (.int (0 : Int32)), (.int (1 : Int32))]) (rest := [(.ref b1)]) (lenOf own_pd4 rfl) rfl (by show 2 * 0 + _ ≤ _; exact Nat.le_of_eq rfl) (hb hby own_d1_14) (fun _ _ => ⟨rfl, e3, (by decide : 2 + 0 ≤ _), (by decide : 6 + 0 ≤ _)⟩)
  dsimp only [Pt.U, Pt.locs, Pt.cells, Pt.slots] at X5 l5 y5 z5 st5 hQ5
  subst l5 y5 z5
  obtain ⟨h5, e5⟩ : ∃ h, T5.heap = h := ⟨_, rfl⟩
  rw [e5] at hQ5
  obtain ⟨rfl, N5q, K5, P50, P51, P52⟩ := hQ5
  have N5 := Fr.app N0 N5q
  refine own_t (T' := T5) (g' := (mkF m 17 #[.val (.ref ax)] [(.ref b1)])) st5 ?_
  have lt : b1 < b2 := Nat.lt_of_lt_of_le A1.lt (Nat.le_of_eq gq2.symm)
  have KA : Keep h0 h5 [] := (((Keep.refl h0 []).ext E1).ext E2).trans K5 (fun x hx => Or.inr (by have q := List.mem_singleton.mp hx; rw [q]; exact Nat.le_of_eq gq1.symm))
  have VA := own_Ar_keep V_b2 K5 (by simpa using Nat.ne_of_gt lt)
  have XA := X_b2.keep K5
  have EA := (A1.ext E2).keep K5
  obtain ⟨fs, hr, hrun, hended, hW, hsame⟩ := X5.leave (v := some (.ref b1)) (fun h => by rw [Bd.returns] at h; cases h)
  exact ⟨_, _, retOut X5 hx Bd.returns rfl (Or.inr (Or.inr (Or.inr (Or.inr ⟨rfl, rfl, rfl⟩)))) (hb hby own_d1_17) hr, hrun, hended, _, _, rfl, (by show own_Q1_1 Z ax x0 h0 n0 _ T5.heap _; rw [e5]; exact ⟨(by rw [gq1]), N5, KA, gq1 ▸ EA, ⟨b2, gq1 ▸ lt, gq1 ▸ P50, gq1 ▸ P51, gq1 ▸ P52, VA, XA⟩⟩), ⟨_, rfl⟩, hW, hsame.mono (by decide) (by decide)⟩
theorem own_d4_28 : decode method_3_code 28 = .ok (.aload_n 0, 1) := by decide +kernel
theorem own_d4_29 : decode method_3_code 29 = .ok (.iconst 1, 1) := by decide +kernel
theorem own_d4_30 : decode method_3_code 30 = .ok (.baload, 1) := by decide +kernel
theorem own_d4_31 : decode method_3_code 31 = .ok (.aload_n 1, 1) := by decide +kernel
theorem own_d4_32 : decode method_3_code 32 = .ok (.iconst 1, 1) := by decide +kernel
theorem own_d4_33 : decode method_3_code 33 = .ok (.baload, 1) := by decide +kernel
theorem own_d4_34 : decode method_3_code 34 = .ok (.if_icmp .eq 5, 3) := by decide +kernel
theorem own_d4_37 : decode method_3_code 37 = .ok (.iconst 0, 1) := by decide +kernel
theorem own_d4_38 : decode method_3_code 38 = .ok (.ireturn, 1) := by decide +kernel
theorem own_rm4_2_ef (m : MethodId) (ax : Addr) (ay : Addr) : entryFrame m #[(.ref ax), (.ref ay), (.int (2 : Int32))] 3 = mkF m 0 #[.val (.ref ax), .val (.ref ay), .val (.int (2 : Int32))] [] := by first | (simp [entryFrame, mkF, argsToLocals, Value.category]; done) | rfl
def own_Q4_2 (Z : State) (ax : Addr) (ay : Addr) (x0 : Int32) (x1 : Int32) (y0 : Int32) (y1 : Int32) (h0 : Heap) (n0 : Nat) (v_ : Option Value) (h : Heap) (L_ : List Loc) : Prop := v_ = some (.int (if ([x0, x1] = [y0, y1]) then (1 : Int32) else 0)) ∧ Fr n0 L_ ∧ (h = h0)
set_option maxRecDepth 65536 in
set_option maxHeartbeats 40000000 in
theorem own_rm4_2 (l : Launch) (Z : State) (a0 : Array Value) (hw : ∀ d ∈ tables_1, d.before a0 Z = true) (ws : List Jvm.Cond) (ax : Addr) (ay : Addr) (x0 : Int32) (x1 : Int32) (y0 : Int32) (y1 : Int32) (h0 : Heap) (n0 : Nat) (Z0 : n0 ≤ h0.size) (Vx : own_Ar Z h0 ax .byte [x0, x1]) (Vy : own_Ar Z h0 ay .byte [y0, y1]) :
    MetFree l (⟨"com/example/adjacency/adjacency/wire/PrefixedBytesCopyOfPinLaw", "same", "([B[BI)Z"⟩ : MethodName) (head1 (Jvm.Cond.code (⟨"com/example/adjacency/adjacency/wire/PrefixedBytesCopyOfPinLaw", "same", "([B[BI)Z"⟩ : MethodName) method_3_code 3 (some .boolean) :: ws) ({ frames := 0, cells := 0, slots := 0, locals := 0 } : Room)) (fun a_ U_ => a_ = #[(.ref ax), (.ref ay), (.int (2 : Int32))] ∧ Z.Warmed39 U_.vm ∧ U_.heap = h0) (fun _ _ _ _ _ => True) (fun _ U_ o_ V_ => ∃ v_ L_, o_ = .returned v_ ∧ own_Q4_2 Z ax ay x0 x1 y0 y1 h0 n0 v_ V_.heap L_ ∧ FrameEnd U_ o_ V_ L_ ({ frames := 0, cells := 0, slots := 0, locals := 0 } : Room).cells ({ frames := 0, cells := 0, slots := 0, locals := 0 } : Room).slots) := by
  refine MetFree.of_bodySF (plainFor_of_name own_pn_com_example_adjacency_adjacency_wire_PrefixedBytesCopyOfPinLaw) hisR ?_
  intro p e s m args below meth c s₁ Bd hml0 hP hK
  obtain ⟨rfl, hZ, hh⟩ := hP
  have hx := Bd.exec
  have hby := Bd.bytes
  have hml : c.maxLocals = 3 := hml0
  have hown : s.vm.findClass "com/example/adjacency/adjacency/wire/PrefixedBytesCopyOfPinLaw" = some m.cls := findClass_of_methodNamed Bd.named
  have hnm := (name_of_methodNamed Bd.named Bd.method).1
  have X0 : Stand p l e ({ frames := 0, cells := 0, slots := 0, locals := 0 } : Room) s m #[(.ref ax), (.ref ay), (.int (2 : Int32))] below meth c s₁ [] 0 0 := Stand.of_body Bd
  have e0 : s₁.heap = h0 := by rw [← hh, Bd.state]; rfl
  have N0 := Fr.nil n0
  show own_G p e below s (own_Q4_2 Z ax ay x0 x1 y0 y1 h0 n0) ({ frames := 0, cells := 0, slots := 0, locals := 0 } : Room).cells ({ frames := 0, cells := 0, slots := 0, locals := 0 } : Room).slots s₁ (entryFrame m #[(.ref ax), (.ref ay), (.int (2 : Int32))] 3)
  rw [own_rm4_2_ef]
  refine own_w (T' := s₁) (g' := (mkF m 1 #[.val (.ref ax), .val (.ref ay), .val (.int (2 : Int32))] [(.ref ax)])) (fun _ k_ => XS.aloadN X0.here hx rfl (hb hby own_d4_0) rfl rfl k_) ?_
  obtain ⟨cl1, Ar1, hs1⟩ := id Vx
  have hl1 : cl1.slots.size.toInt32 = (2 : Int32) := by rw [hs1]; rfl
  refine own_w (T' := s₁) (g' := (mkF m 2 #[.val (.ref ax), .val (.ref ay), .val (.int (2 : Int32))] [(.int (2 : Int32))])) (fun t_ k_ => X0.arraylength hx (by rw [e0]; exact Ar1.1) (State.isArrayOf_alike hZ.alike Ar1.2.1) (g := (mkF m 1 #[.val (.ref ax), .val (.ref ay), .val (.int (2 : Int32))] [(.ref ax)])) rfl rfl (hb hby own_d4_1) t_ (by rw [hl1]; exact k_)) ?_
  refine own_w (T' := s₁) (g' := (mkF m 3 #[.val (.ref ax), .val (.ref ay), .val (.int (2 : Int32))] [(.int (2 : Int32)), (.int (2 : Int32))])) (fun _ k_ => XS.iloadN X0.here hx rfl (hb hby own_d4_2) rfl k_) ?_
  refine own_w (T' := s₁) (g' := (mkF m 8 #[.val (.ref ax), .val (.ref ay), .val (.int (2 : Int32))] [])) (fun _ k_ => XS.icmpYes X0.here hx rfl (pc0 := 3) (pc' := 8) rfl (hb hby own_d4_3) rfl (teq (by decide)).1 (by decide) (by decide) k_) ?_
  refine own_w (T' := s₁) (g' := (mkF m 9 #[.val (.ref ax), .val (.ref ay), .val (.int (2 : Int32))] [(.int (2 : Int32))])) (fun _ k_ => XS.iloadN X0.here hx rfl (hb hby own_d4_8) rfl k_) ?_
  refine own_w (T' := s₁) (g' := (mkF m 12 #[.val (.ref ax), .val (.ref ay), .val (.int (2 : Int32))] [])) (fun _ k_ => XS.ifNo X0.here hx rfl (hb hby own_d4_9) rfl ((if0 _ _).trans (tlt (by decide)).2.2.2) k_) ?_
  refine own_w (T' := s₁) (g' := (mkF m 13 #[.val (.ref ax), .val (.ref ay), .val (.int (2 : Int32))] [(.ref ax)])) (fun _ k_ => XS.aloadN X0.here hx rfl (hb hby own_d4_12) rfl rfl k_) ?_
  refine own_w (T' := s₁) (g' := (mkF m 14 #[.val (.ref ax), .val (.ref ay), .val (.int (2 : Int32))] [(.int (0 : Int32)), (.ref ax)])) (fun _ k_ => XS.iconst X0.here hx rfl (hb hby own_d4_13) k_) ?_
  obtain ⟨cl2, Ar2, hs2⟩ := id Vx
  refine own_w (T' := s₁) (g' := (mkF m 15 #[.val (.ref ax), .val (.ref ay), .val (.int (2 : Int32))] [(.int x0)])) (fun t_ k_ => X0.baloadBytes hx (j := (0 : Int32)) (v := .int x0) (by rw [e0]; exact Ar2.1) (State.isArrayOf_alike hZ.alike Ar2.2.1) Ar2.2.2 (own_Ar_in (i := 0) hs2 (by decide) (own_get_lt (show _ = some x0 from rfl))) (own_Ar_at (i := 0) hs2 (by decide) (show _ = some x0 from rfl)) (g := (mkF m 14 #[.val (.ref ax), .val (.ref ay), .val (.int (2 : Int32))] [(.int (0 : Int32)), (.ref ax)])) rfl rfl (hb hby own_d4_14) t_ k_) ?_
  refine own_w (T' := s₁) (g' := (mkF m 16 #[.val (.ref ax), .val (.ref ay), .val (.int (2 : Int32))] [(.ref ay), (.int x0)])) (fun _ k_ => XS.aloadN X0.here hx rfl (hb hby own_d4_15) rfl rfl k_) ?_
  refine own_w (T' := s₁) (g' := (mkF m 17 #[.val (.ref ax), .val (.ref ay), .val (.int (2 : Int32))] [(.int (0 : Int32)), (.ref ay), (.int x0)])) (fun _ k_ => XS.iconst X0.here hx rfl (hb hby own_d4_16) k_) ?_
  obtain ⟨cl3, Ar3, hs3⟩ := id Vy
  refine own_w (T' := s₁) (g' := (mkF m 18 #[.val (.ref ax), .val (.ref ay), .val (.int (2 : Int32))] [(.int y0), (.int x0)])) (fun t_ k_ => X0.baloadBytes hx (j := (0 : Int32)) (v := .int y0) (by rw [e0]; exact Ar3.1) (State.isArrayOf_alike hZ.alike Ar3.2.1) Ar3.2.2 (own_Ar_in (i := 0) hs3 (by decide) (own_get_lt (show _ = some y0 from rfl))) (own_Ar_at (i := 0) hs3 (by decide) (show _ = some y0 from rfl)) (g := (mkF m 17 #[.val (.ref ax), .val (.ref ay), .val (.int (2 : Int32))] [(.int (0 : Int32)), (.ref ay), (.int x0)])) rfl rfl (hb hby own_d4_17) t_ k_) ?_
  by_cases hc18 : x0 = y0
  · refine own_w (T' := s₁) (g' := (mkF m 23 #[.val (.ref ax), .val (.ref ay), .val (.int (2 : Int32))] [])) (fun _ k_ => XS.icmpYes X0.here hx rfl (pc0 := 18) (pc' := 23) rfl (hb hby own_d4_18) rfl (teq hc18).1 (by decide) (by decide) k_) ?_
    refine own_w (T' := s₁) (g' := (mkF m 24 #[.val (.ref ax), .val (.ref ay), .val (.int (2 : Int32))] [(.int (2 : Int32))])) (fun _ k_ => XS.iloadN X0.here hx rfl (hb hby own_d4_23) rfl k_) ?_
    refine own_w (T' := s₁) (g' := (mkF m 25 #[.val (.ref ax), .val (.ref ay), .val (.int (2 : Int32))] [(.int (1 : Int32)), (.int (2 : Int32))])) (fun _ k_ => XS.iconst X0.here hx rfl (hb hby own_d4_24) k_) ?_
    refine own_w (T' := s₁) (g' := (mkF m 28 #[.val (.ref ax), .val (.ref ay), .val (.int (2 : Int32))] [])) (fun _ k_ => XS.icmpNo X0.here hx rfl (hb hby own_d4_25) rfl (tlt (by decide)).2.2.2 k_) ?_
    refine own_w (T' := s₁) (g' := (mkF m 29 #[.val (.ref ax), .val (.ref ay), .val (.int (2 : Int32))] [(.ref ax)])) (fun _ k_ => XS.aloadN X0.here hx rfl (hb hby own_d4_28) rfl rfl k_) ?_
    refine own_w (T' := s₁) (g' := (mkF m 30 #[.val (.ref ax), .val (.ref ay), .val (.int (2 : Int32))] [(.int (1 : Int32)), (.ref ax)])) (fun _ k_ => XS.iconst X0.here hx rfl (hb hby own_d4_29) k_) ?_
    obtain ⟨cl4, Ar4, hs4⟩ := id Vx
    refine own_w (T' := s₁) (g' := (mkF m 31 #[.val (.ref ax), .val (.ref ay), .val (.int (2 : Int32))] [(.int x1)])) (fun t_ k_ => X0.baloadBytes hx (j := (1 : Int32)) (v := .int x1) (by rw [e0]; exact Ar4.1) (State.isArrayOf_alike hZ.alike Ar4.2.1) Ar4.2.2 (own_Ar_in (i := 1) hs4 (by decide) (own_get_lt (show _ = some x1 from rfl))) (own_Ar_at (i := 1) hs4 (by decide) (show _ = some x1 from rfl)) (g := (mkF m 30 #[.val (.ref ax), .val (.ref ay), .val (.int (2 : Int32))] [(.int (1 : Int32)), (.ref ax)])) rfl rfl (hb hby own_d4_30) t_ k_) ?_
    refine own_w (T' := s₁) (g' := (mkF m 32 #[.val (.ref ax), .val (.ref ay), .val (.int (2 : Int32))] [(.ref ay), (.int x1)])) (fun _ k_ => XS.aloadN X0.here hx rfl (hb hby own_d4_31) rfl rfl k_) ?_
    refine own_w (T' := s₁) (g' := (mkF m 33 #[.val (.ref ax), .val (.ref ay), .val (.int (2 : Int32))] [(.int (1 : Int32)), (.ref ay), (.int x1)])) (fun _ k_ => XS.iconst X0.here hx rfl (hb hby own_d4_32) k_) ?_
    obtain ⟨cl5, Ar5, hs5⟩ := id Vy
    refine own_w (T' := s₁) (g' := (mkF m 34 #[.val (.ref ax), .val (.ref ay), .val (.int (2 : Int32))] [(.int y1), (.int x1)])) (fun t_ k_ => X0.baloadBytes hx (j := (1 : Int32)) (v := .int y1) (by rw [e0]; exact Ar5.1) (State.isArrayOf_alike hZ.alike Ar5.2.1) Ar5.2.2 (own_Ar_in (i := 1) hs5 (by decide) (own_get_lt (show _ = some y1 from rfl))) (own_Ar_at (i := 1) hs5 (by decide) (show _ = some y1 from rfl)) (g := (mkF m 33 #[.val (.ref ax), .val (.ref ay), .val (.int (2 : Int32))] [(.int (1 : Int32)), (.ref ay), (.int x1)])) rfl rfl (hb hby own_d4_33) t_ k_) ?_
    by_cases hc34 : x1 = y1
    · refine own_w (T' := s₁) (g' := (mkF m 39 #[.val (.ref ax), .val (.ref ay), .val (.int (2 : Int32))] [])) (fun _ k_ => XS.icmpYes X0.here hx rfl (pc0 := 34) (pc' := 39) rfl (hb hby own_d4_34) rfl (teq hc34).1 (by decide) (by decide) k_) ?_
      refine own_w (T' := s₁) (g' := (mkF m 40 #[.val (.ref ax), .val (.ref ay), .val (.int (2 : Int32))] [(.int (2 : Int32))])) (fun _ k_ => XS.iloadN X0.here hx rfl (hb hby own_d4_39) rfl k_) ?_
      refine own_w (T' := s₁) (g' := (mkF m 41 #[.val (.ref ax), .val (.ref ay), .val (.int (2 : Int32))] [(.int (2 : Int32)), (.int (2 : Int32))])) (fun _ k_ => XS.iconst X0.here hx rfl (hb hby own_d4_40) k_) ?_
      refine own_w (T' := s₁) (g' := (mkF m 55 #[.val (.ref ax), .val (.ref ay), .val (.int (2 : Int32))] [])) (fun _ k_ => XS.icmpYes X0.here hx rfl (pc0 := 41) (pc' := 55) rfl (hb hby own_d4_41) rfl (flt (by decide)).2.2.2 (by decide) (by decide) k_) ?_
      refine own_w (T' := s₁) (g' := (mkF m 56 #[.val (.ref ax), .val (.ref ay), .val (.int (2 : Int32))] [(.int (1 : Int32))])) (fun _ k_ => XS.iconst X0.here hx rfl (hb hby own_d4_55) k_) ?_
      obtain ⟨fs, hr, hrun, hended, hW, hsame⟩ := X0.leave (v := some (.int (1 : Int32))) (fun h => by rw [Bd.returns] at h; cases h)
      exact ⟨_, _, retOut X0 hx Bd.returns rfl (Or.inl ⟨rfl, Or.inr (Or.inl rfl), _, rfl⟩) (hb hby own_d4_56) hr, hrun, hended, _, _, rfl, (by show own_Q4_2 Z ax ay x0 x1 y0 y1 h0 n0 _ s₁.heap _; rw [e0]; exact ⟨(by simp [hc18, hc34]), N0, rfl⟩), ⟨_, rfl⟩, hW, hsame.mono (by decide) (by decide)⟩
    · refine own_w (T' := s₁) (g' := (mkF m 37 #[.val (.ref ax), .val (.ref ay), .val (.int (2 : Int32))] [])) (fun _ k_ => XS.icmpNo X0.here hx rfl (hb hby own_d4_34) rfl (feq hc34).1 k_) ?_
      refine own_w (T' := s₁) (g' := (mkF m 38 #[.val (.ref ax), .val (.ref ay), .val (.int (2 : Int32))] [(.int (0 : Int32))])) (fun _ k_ => XS.iconst X0.here hx rfl (hb hby own_d4_37) k_) ?_
      obtain ⟨fs, hr, hrun, hended, hW, hsame⟩ := X0.leave (v := some (.int (0 : Int32))) (fun h => by rw [Bd.returns] at h; cases h)
      exact ⟨_, _, retOut X0 hx Bd.returns rfl (Or.inl ⟨rfl, Or.inr (Or.inl rfl), _, rfl⟩) (hb hby own_d4_38) hr, hrun, hended, _, _, rfl, (by show own_Q4_2 Z ax ay x0 x1 y0 y1 h0 n0 _ s₁.heap _; rw [e0]; exact ⟨(by simp [hc18, hc34]), N0, rfl⟩), ⟨_, rfl⟩, hW, hsame.mono (by decide) (by decide)⟩
  · refine own_w (T' := s₁) (g' := (mkF m 21 #[.val (.ref ax), .val (.ref ay), .val (.int (2 : Int32))] [])) (fun _ k_ => XS.icmpNo X0.here hx rfl (hb hby own_d4_18) rfl (feq hc18).1 k_) ?_
    refine own_w (T' := s₁) (g' := (mkF m 22 #[.val (.ref ax), .val (.ref ay), .val (.int (2 : Int32))] [(.int (0 : Int32))])) (fun _ k_ => XS.iconst X0.here hx rfl (hb hby own_d4_21) k_) ?_
    obtain ⟨fs, hr, hrun, hended, hW, hsame⟩ := X0.leave (v := some (.int (0 : Int32))) (fun h => by rw [Bd.returns] at h; cases h)
    exact ⟨_, _, retOut X0 hx Bd.returns rfl (Or.inl ⟨rfl, Or.inr (Or.inl rfl), _, rfl⟩) (hb hby own_d4_22) hr, hrun, hended, _, _, rfl, (by show own_Q4_2 Z ax ay x0 x1 y0 y1 h0 n0 _ s₁.heap _; rw [e0]; exact ⟨(by simp [hc18]), N0, rfl⟩), ⟨_, rfl⟩, hW, hsame.mono (by decide) (by decide)⟩
theorem own_rm12_2_ef (m : MethodId) (ax : Addr) (ay : Addr) : entryFrame m #[(.ref ax), (.int (0 : Int32)), (.ref ay), (.int (0 : Int32)), (.int (2 : Int32))] 8 = mkF m 0 #[.val (.ref ax), .val (.int (0 : Int32)), .val (.ref ay), .val (.int (0 : Int32)), .val (.int (2 : Int32)), .unset, .unset, .unset] [] := by first | (simp [entryFrame, mkF, argsToLocals, Value.category]; done) | rfl
def own_Q12_2 (Z : State) (ax : Addr) (ay : Addr) (x0 : Int32) (x1 : Int32) (y0 : Int32) (y1 : Int32) (h0 : Heap) (n0 : Nat) (v_ : Option Value) (h : Heap) (L_ : List Loc) : Prop := v_ = some (.int (if x0 = y0 then (if x1 = y1 then (-1 : Int32) else (1 : Int32)) else (0 : Int32))) ∧ Fr n0 L_ ∧ (h = h0)
set_option maxRecDepth 65536 in
set_option maxHeartbeats 40000000 in
theorem own_rm12_2 (l : Launch) (Z : State) (a0 : Array Value) (hw : ∀ d ∈ tables_1, d.before a0 Z = true) (ws : List Jvm.Cond) (ax : Addr) (ay : Addr) (x0 : Int32) (x1 : Int32) (y0 : Int32) (y1 : Int32) (h0 : Heap) (n0 : Nat) (Z0 : n0 ≤ h0.size) (Vx : own_Ar Z h0 ax .byte [x0, x1]) (Vy : own_Ar Z h0 ay .byte [y0, y1]) :
    MetFree l (⟨"jdk/internal/util/ArraysSupport", "mismatch", "([BI[BII)I"⟩ : MethodName) (head1 (Jvm.Cond.code (⟨"jdk/internal/util/ArraysSupport", "mismatch", "([BI[BII)I"⟩ : MethodName) jdk_48_method_14_code 8 (some .int) :: ws) ({ frames := 0, cells := 0, slots := 0, locals := 0 } : Room)) (fun a_ U_ => a_ = #[(.ref ax), (.int (0 : Int32)), (.ref ay), (.int (0 : Int32)), (.int (2 : Int32))] ∧ Z.Warmed39 U_.vm ∧ U_.heap = h0) (fun _ _ _ _ _ => True) (fun _ U_ o_ V_ => ∃ v_ L_, o_ = .returned v_ ∧ own_Q12_2 Z ax ay x0 x1 y0 y1 h0 n0 v_ V_.heap L_ ∧ FrameEnd U_ o_ V_ L_ ({ frames := 0, cells := 0, slots := 0, locals := 0 } : Room).cells ({ frames := 0, cells := 0, slots := 0, locals := 0 } : Room).slots) := by
  refine MetFree.of_bodySF (plainFor_of_name own_pn_jdk_internal_util_ArraysSupport) hisR ?_
  intro p e s m args below meth c s₁ Bd hml0 hP hK
  obtain ⟨rfl, hZ, hh⟩ := hP
  have hx := Bd.exec
  have hby := Bd.bytes
  have hml : c.maxLocals = 8 := hml0
  have hown : s.vm.findClass "jdk/internal/util/ArraysSupport" = some m.cls := findClass_of_methodNamed Bd.named
  have hnm := (name_of_methodNamed Bd.named Bd.method).1
  have X0 : Stand p l e ({ frames := 0, cells := 0, slots := 0, locals := 0 } : Room) s m #[(.ref ax), (.int (0 : Int32)), (.ref ay), (.int (0 : Int32)), (.int (2 : Int32))] below meth c s₁ [] 0 0 := Stand.of_body Bd
  have e0 : s₁.heap = h0 := by rw [← hh, Bd.state]; rfl
  have N0 := Fr.nil n0
  show own_G p e below s (own_Q12_2 Z ax ay x0 x1 y0 y1 h0 n0) ({ frames := 0, cells := 0, slots := 0, locals := 0 } : Room).cells ({ frames := 0, cells := 0, slots := 0, locals := 0 } : Room).slots s₁ (entryFrame m #[(.ref ax), (.int (0 : Int32)), (.ref ay), (.int (0 : Int32)), (.int (2 : Int32))] 8)
  rw [own_rm12_2_ef]
  refine own_w (T' := s₁) (g' := (mkF m 1 #[.val (.ref ax), .val (.int (0 : Int32)), .val (.ref ay), .val (.int (0 : Int32)), .val (.int (2 : Int32)), .unset, .unset, .unset] [(.int (0 : Int32))])) (fun _ k_ => XS.iconst X0.here hx rfl (hb hby own_d12_0) k_) ?_
  refine own_w (T' := s₁) (g' := (mkF m 3 #[.val (.ref ax), .val (.int (0 : Int32)), .val (.ref ay), .val (.int (0 : Int32)), .val (.int (2 : Int32)), .val (.int (0 : Int32)), .unset, .unset] [])) (fun _ k_ => XS.istore X0.here hx rfl (hb hby own_d12_1) rfl (l' := #[.val (.ref ax), .val (.int (0 : Int32)), .val (.ref ay), .val (.int (0 : Int32)), .val (.int (2 : Int32)), .val (.int (0 : Int32)), .unset, .unset]) rfl k_) ?_
  refine own_w (T' := s₁) (g' := (mkF m 5 #[.val (.ref ax), .val (.int (0 : Int32)), .val (.ref ay), .val (.int (0 : Int32)), .val (.int (2 : Int32)), .val (.int (0 : Int32)), .unset, .unset] [(.int (2 : Int32))])) (fun _ k_ => XS.iload X0.here hx rfl (hb hby own_d12_3) rfl k_) ?_
  refine own_w (T' := s₁) (g' := (mkF m 7 #[.val (.ref ax), .val (.int (0 : Int32)), .val (.ref ay), .val (.int (0 : Int32)), .val (.int (2 : Int32)), .val (.int (0 : Int32)), .unset, .unset] [(.int (7 : Int32)), (.int (2 : Int32))])) (fun _ k_ => XS.bipush X0.here hx rfl (hb hby own_d12_5) k_) ?_
  refine own_w (T' := s₁) (g' := (mkF m 70 #[.val (.ref ax), .val (.int (0 : Int32)), .val (.ref ay), .val (.int (0 : Int32)), .val (.int (2 : Int32)), .val (.int (0 : Int32)), .unset, .unset] [])) (fun _ k_ => XS.icmpYes X0.here hx rfl (pc0 := 7) (pc' := 70) rfl (hb hby own_d12_7) rfl (flt (by decide)).2.2.2 (by decide) (by decide) k_) ?_
  refine own_w (T' := s₁) (g' := (mkF m 72 #[.val (.ref ax), .val (.int (0 : Int32)), .val (.ref ay), .val (.int (0 : Int32)), .val (.int (2 : Int32)), .val (.int (0 : Int32)), .unset, .unset] [(.int (0 : Int32))])) (fun _ k_ => XS.iload X0.here hx rfl (hb hby own_d12_70) rfl k_) ?_
  refine own_w (T' := s₁) (g' := (mkF m 74 #[.val (.ref ax), .val (.int (0 : Int32)), .val (.ref ay), .val (.int (0 : Int32)), .val (.int (2 : Int32)), .val (.int (0 : Int32)), .unset, .unset] [(.int (2 : Int32)), (.int (0 : Int32))])) (fun _ k_ => XS.iload X0.here hx rfl (hb hby own_d12_72) rfl k_) ?_
  refine own_w (T' := s₁) (g' := (mkF m 77 #[.val (.ref ax), .val (.int (0 : Int32)), .val (.ref ay), .val (.int (0 : Int32)), .val (.int (2 : Int32)), .val (.int (0 : Int32)), .unset, .unset] [])) (fun _ k_ => XS.icmpNo X0.here hx rfl (hb hby own_d12_74) rfl (tlt (by decide)).2.1 k_) ?_
  refine own_w (T' := s₁) (g' := (mkF m 78 #[.val (.ref ax), .val (.int (0 : Int32)), .val (.ref ay), .val (.int (0 : Int32)), .val (.int (2 : Int32)), .val (.int (0 : Int32)), .unset, .unset] [(.ref ax)])) (fun _ k_ => XS.aloadN X0.here hx rfl (hb hby own_d12_77) rfl rfl k_) ?_
  refine own_w (T' := s₁) (g' := (mkF m 79 #[.val (.ref ax), .val (.int (0 : Int32)), .val (.ref ay), .val (.int (0 : Int32)), .val (.int (2 : Int32)), .val (.int (0 : Int32)), .unset, .unset] [(.int (0 : Int32)), (.ref ax)])) (fun _ k_ => XS.iloadN X0.here hx rfl (hb hby own_d12_78) rfl k_) ?_
  refine own_w (T' := s₁) (g' := (mkF m 81 #[.val (.ref ax), .val (.int (0 : Int32)), .val (.ref ay), .val (.int (0 : Int32)), .val (.int (2 : Int32)), .val (.int (0 : Int32)), .unset, .unset] [(.int (0 : Int32)), (.int (0 : Int32)), (.ref ax)])) (fun _ k_ => XS.iload X0.here hx rfl (hb hby own_d12_79) rfl k_) ?_
  refine own_w (T' := s₁) (g' := (mkF m 82 #[.val (.ref ax), .val (.int (0 : Int32)), .val (.ref ay), .val (.int (0 : Int32)), .val (.int (2 : Int32)), .val (.int (0 : Int32)), .unset, .unset] [(.int (0 : Int32)), (.ref ax)])) (fun _ k_ => XS.iadd X0.here hx rfl (hb hby own_d12_81) rfl k_) ?_
  obtain ⟨cl1, Ar1, hs1⟩ := id Vx
  refine own_w (T' := s₁) (g' := (mkF m 83 #[.val (.ref ax), .val (.int (0 : Int32)), .val (.ref ay), .val (.int (0 : Int32)), .val (.int (2 : Int32)), .val (.int (0 : Int32)), .unset, .unset] [(.int x0)])) (fun t_ k_ => X0.baloadBytes hx (j := (0 : Int32)) (v := .int x0) (by rw [e0]; exact Ar1.1) (State.isArrayOf_alike hZ.alike Ar1.2.1) Ar1.2.2 (own_Ar_in (i := 0) hs1 (by decide) (own_get_lt (show _ = some x0 from rfl))) (own_Ar_at (i := 0) hs1 (by decide) (show _ = some x0 from rfl)) (g := (mkF m 82 #[.val (.ref ax), .val (.int (0 : Int32)), .val (.ref ay), .val (.int (0 : Int32)), .val (.int (2 : Int32)), .val (.int (0 : Int32)), .unset, .unset] [(.int (0 : Int32)), (.ref ax)])) rfl rfl (hb hby own_d12_82) t_ k_) ?_
  refine own_w (T' := s₁) (g' := (mkF m 84 #[.val (.ref ax), .val (.int (0 : Int32)), .val (.ref ay), .val (.int (0 : Int32)), .val (.int (2 : Int32)), .val (.int (0 : Int32)), .unset, .unset] [(.ref ay), (.int x0)])) (fun _ k_ => XS.aloadN X0.here hx rfl (hb hby own_d12_83) rfl rfl k_) ?_
  refine own_w (T' := s₁) (g' := (mkF m 85 #[.val (.ref ax), .val (.int (0 : Int32)), .val (.ref ay), .val (.int (0 : Int32)), .val (.int (2 : Int32)), .val (.int (0 : Int32)), .unset, .unset] [(.int (0 : Int32)), (.ref ay), (.int x0)])) (fun _ k_ => XS.iloadN X0.here hx rfl (hb hby own_d12_84) rfl k_) ?_
  refine own_w (T' := s₁) (g' := (mkF m 87 #[.val (.ref ax), .val (.int (0 : Int32)), .val (.ref ay), .val (.int (0 : Int32)), .val (.int (2 : Int32)), .val (.int (0 : Int32)), .unset, .unset] [(.int (0 : Int32)), (.int (0 : Int32)), (.ref ay), (.int x0)])) (fun _ k_ => XS.iload X0.here hx rfl (hb hby own_d12_85) rfl k_) ?_
  refine own_w (T' := s₁) (g' := (mkF m 88 #[.val (.ref ax), .val (.int (0 : Int32)), .val (.ref ay), .val (.int (0 : Int32)), .val (.int (2 : Int32)), .val (.int (0 : Int32)), .unset, .unset] [(.int (0 : Int32)), (.ref ay), (.int x0)])) (fun _ k_ => XS.iadd X0.here hx rfl (hb hby own_d12_87) rfl k_) ?_
  obtain ⟨cl2, Ar2, hs2⟩ := id Vy
  refine own_w (T' := s₁) (g' := (mkF m 89 #[.val (.ref ax), .val (.int (0 : Int32)), .val (.ref ay), .val (.int (0 : Int32)), .val (.int (2 : Int32)), .val (.int (0 : Int32)), .unset, .unset] [(.int y0), (.int x0)])) (fun t_ k_ => X0.baloadBytes hx (j := (0 : Int32)) (v := .int y0) (by rw [e0]; exact Ar2.1) (State.isArrayOf_alike hZ.alike Ar2.2.1) Ar2.2.2 (own_Ar_in (i := 0) hs2 (by decide) (own_get_lt (show _ = some y0 from rfl))) (own_Ar_at (i := 0) hs2 (by decide) (show _ = some y0 from rfl)) (g := (mkF m 88 #[.val (.ref ax), .val (.int (0 : Int32)), .val (.ref ay), .val (.int (0 : Int32)), .val (.int (2 : Int32)), .val (.int (0 : Int32)), .unset, .unset] [(.int (0 : Int32)), (.ref ay), (.int x0)])) rfl rfl (hb hby own_d12_88) t_ k_) ?_
  by_cases hc89 : x0 = y0
  · refine own_w (T' := s₁) (g' := (mkF m 95 #[.val (.ref ax), .val (.int (0 : Int32)), .val (.ref ay), .val (.int (0 : Int32)), .val (.int (2 : Int32)), .val (.int (0 : Int32)), .unset, .unset] [])) (fun _ k_ => XS.icmpYes X0.here hx rfl (pc0 := 89) (pc' := 95) rfl (hb hby own_d12_89) rfl (teq hc89).1 (by decide) (by decide) k_) ?_
    refine own_w (T' := s₁) (g' := (mkF m 98 #[.val (.ref ax), .val (.int (0 : Int32)), .val (.ref ay), .val (.int (0 : Int32)), .val (.int (2 : Int32)), .val (.int (1 : Int32)), .unset, .unset] [])) (fun _ k_ => XS.iinc X0.here hx rfl (hb hby own_d12_95) rfl (l' := #[.val (.ref ax), .val (.int (0 : Int32)), .val (.ref ay), .val (.int (0 : Int32)), .val (.int (2 : Int32)), .val (.int (1 : Int32)), .unset, .unset]) rfl k_) ?_
    refine own_w (T' := s₁) (g' := (mkF m 70 #[.val (.ref ax), .val (.int (0 : Int32)), .val (.ref ay), .val (.int (0 : Int32)), .val (.int (2 : Int32)), .val (.int (1 : Int32)), .unset, .unset] [])) (fun _ k_ => XS.goto X0.here hx rfl (pc0 := 98) (pc' := 70) rfl (hb hby own_d12_98) (by decide) (by decide) k_) ?_
    refine own_w (T' := s₁) (g' := (mkF m 72 #[.val (.ref ax), .val (.int (0 : Int32)), .val (.ref ay), .val (.int (0 : Int32)), .val (.int (2 : Int32)), .val (.int (1 : Int32)), .unset, .unset] [(.int (1 : Int32))])) (fun _ k_ => XS.iload X0.here hx rfl (hb hby own_d12_70) rfl k_) ?_
    refine own_w (T' := s₁) (g' := (mkF m 74 #[.val (.ref ax), .val (.int (0 : Int32)), .val (.ref ay), .val (.int (0 : Int32)), .val (.int (2 : Int32)), .val (.int (1 : Int32)), .unset, .unset] [(.int (2 : Int32)), (.int (1 : Int32))])) (fun _ k_ => XS.iload X0.here hx rfl (hb hby own_d12_72) rfl k_) ?_
    refine own_w (T' := s₁) (g' := (mkF m 77 #[.val (.ref ax), .val (.int (0 : Int32)), .val (.ref ay), .val (.int (0 : Int32)), .val (.int (2 : Int32)), .val (.int (1 : Int32)), .unset, .unset] [])) (fun _ k_ => XS.icmpNo X0.here hx rfl (hb hby own_d12_74) rfl (tlt (by decide)).2.1 k_) ?_
    refine own_w (T' := s₁) (g' := (mkF m 78 #[.val (.ref ax), .val (.int (0 : Int32)), .val (.ref ay), .val (.int (0 : Int32)), .val (.int (2 : Int32)), .val (.int (1 : Int32)), .unset, .unset] [(.ref ax)])) (fun _ k_ => XS.aloadN X0.here hx rfl (hb hby own_d12_77) rfl rfl k_) ?_
    refine own_w (T' := s₁) (g' := (mkF m 79 #[.val (.ref ax), .val (.int (0 : Int32)), .val (.ref ay), .val (.int (0 : Int32)), .val (.int (2 : Int32)), .val (.int (1 : Int32)), .unset, .unset] [(.int (0 : Int32)), (.ref ax)])) (fun _ k_ => XS.iloadN X0.here hx rfl (hb hby own_d12_78) rfl k_) ?_
    refine own_w (T' := s₁) (g' := (mkF m 81 #[.val (.ref ax), .val (.int (0 : Int32)), .val (.ref ay), .val (.int (0 : Int32)), .val (.int (2 : Int32)), .val (.int (1 : Int32)), .unset, .unset] [(.int (1 : Int32)), (.int (0 : Int32)), (.ref ax)])) (fun _ k_ => XS.iload X0.here hx rfl (hb hby own_d12_79) rfl k_) ?_
    refine own_w (T' := s₁) (g' := (mkF m 82 #[.val (.ref ax), .val (.int (0 : Int32)), .val (.ref ay), .val (.int (0 : Int32)), .val (.int (2 : Int32)), .val (.int (1 : Int32)), .unset, .unset] [(.int (1 : Int32)), (.ref ax)])) (fun _ k_ => XS.iadd X0.here hx rfl (hb hby own_d12_81) rfl k_) ?_
    obtain ⟨cl3, Ar3, hs3⟩ := id Vx
    refine own_w (T' := s₁) (g' := (mkF m 83 #[.val (.ref ax), .val (.int (0 : Int32)), .val (.ref ay), .val (.int (0 : Int32)), .val (.int (2 : Int32)), .val (.int (1 : Int32)), .unset, .unset] [(.int x1)])) (fun t_ k_ => X0.baloadBytes hx (j := (1 : Int32)) (v := .int x1) (by rw [e0]; exact Ar3.1) (State.isArrayOf_alike hZ.alike Ar3.2.1) Ar3.2.2 (own_Ar_in (i := 1) hs3 (by decide) (own_get_lt (show _ = some x1 from rfl))) (own_Ar_at (i := 1) hs3 (by decide) (show _ = some x1 from rfl)) (g := (mkF m 82 #[.val (.ref ax), .val (.int (0 : Int32)), .val (.ref ay), .val (.int (0 : Int32)), .val (.int (2 : Int32)), .val (.int (1 : Int32)), .unset, .unset] [(.int (1 : Int32)), (.ref ax)])) rfl rfl (hb hby own_d12_82) t_ k_) ?_
    refine own_w (T' := s₁) (g' := (mkF m 84 #[.val (.ref ax), .val (.int (0 : Int32)), .val (.ref ay), .val (.int (0 : Int32)), .val (.int (2 : Int32)), .val (.int (1 : Int32)), .unset, .unset] [(.ref ay), (.int x1)])) (fun _ k_ => XS.aloadN X0.here hx rfl (hb hby own_d12_83) rfl rfl k_) ?_
    refine own_w (T' := s₁) (g' := (mkF m 85 #[.val (.ref ax), .val (.int (0 : Int32)), .val (.ref ay), .val (.int (0 : Int32)), .val (.int (2 : Int32)), .val (.int (1 : Int32)), .unset, .unset] [(.int (0 : Int32)), (.ref ay), (.int x1)])) (fun _ k_ => XS.iloadN X0.here hx rfl (hb hby own_d12_84) rfl k_) ?_
    refine own_w (T' := s₁) (g' := (mkF m 87 #[.val (.ref ax), .val (.int (0 : Int32)), .val (.ref ay), .val (.int (0 : Int32)), .val (.int (2 : Int32)), .val (.int (1 : Int32)), .unset, .unset] [(.int (1 : Int32)), (.int (0 : Int32)), (.ref ay), (.int x1)])) (fun _ k_ => XS.iload X0.here hx rfl (hb hby own_d12_85) rfl k_) ?_
    refine own_w (T' := s₁) (g' := (mkF m 88 #[.val (.ref ax), .val (.int (0 : Int32)), .val (.ref ay), .val (.int (0 : Int32)), .val (.int (2 : Int32)), .val (.int (1 : Int32)), .unset, .unset] [(.int (1 : Int32)), (.ref ay), (.int x1)])) (fun _ k_ => XS.iadd X0.here hx rfl (hb hby own_d12_87) rfl k_) ?_
    obtain ⟨cl4, Ar4, hs4⟩ := id Vy
    refine own_w (T' := s₁) (g' := (mkF m 89 #[.val (.ref ax), .val (.int (0 : Int32)), .val (.ref ay), .val (.int (0 : Int32)), .val (.int (2 : Int32)), .val (.int (1 : Int32)), .unset, .unset] [(.int y1), (.int x1)])) (fun t_ k_ => X0.baloadBytes hx (j := (1 : Int32)) (v := .int y1) (by rw [e0]; exact Ar4.1) (State.isArrayOf_alike hZ.alike Ar4.2.1) Ar4.2.2 (own_Ar_in (i := 1) hs4 (by decide) (own_get_lt (show _ = some y1 from rfl))) (own_Ar_at (i := 1) hs4 (by decide) (show _ = some y1 from rfl)) (g := (mkF m 88 #[.val (.ref ax), .val (.int (0 : Int32)), .val (.ref ay), .val (.int (0 : Int32)), .val (.int (2 : Int32)), .val (.int (1 : Int32)), .unset, .unset] [(.int (1 : Int32)), (.ref ay), (.int x1)])) rfl rfl (hb hby own_d12_88) t_ k_) ?_
    by_cases hc89' : x1 = y1
    · refine own_w (T' := s₁) (g' := (mkF m 95 #[.val (.ref ax), .val (.int (0 : Int32)), .val (.ref ay), .val (.int (0 : Int32)), .val (.int (2 : Int32)), .val (.int (1 : Int32)), .unset, .unset] [])) (fun _ k_ => XS.icmpYes X0.here hx rfl (pc0 := 89) (pc' := 95) rfl (hb hby own_d12_89) rfl (teq hc89').1 (by decide) (by decide) k_) ?_
      refine own_w (T' := s₁) (g' := (mkF m 98 #[.val (.ref ax), .val (.int (0 : Int32)), .val (.ref ay), .val (.int (0 : Int32)), .val (.int (2 : Int32)), .val (.int (2 : Int32)), .unset, .unset] [])) (fun _ k_ => XS.iinc X0.here hx rfl (hb hby own_d12_95) rfl (l' := #[.val (.ref ax), .val (.int (0 : Int32)), .val (.ref ay), .val (.int (0 : Int32)), .val (.int (2 : Int32)), .val (.int (2 : Int32)), .unset, .unset]) rfl k_) ?_
      refine own_w (T' := s₁) (g' := (mkF m 70 #[.val (.ref ax), .val (.int (0 : Int32)), .val (.ref ay), .val (.int (0 : Int32)), .val (.int (2 : Int32)), .val (.int (2 : Int32)), .unset, .unset] [])) (fun _ k_ => XS.goto X0.here hx rfl (pc0 := 98) (pc' := 70) rfl (hb hby own_d12_98) (by decide) (by decide) k_) ?_
      refine own_w (T' := s₁) (g' := (mkF m 72 #[.val (.ref ax), .val (.int (0 : Int32)), .val (.ref ay), .val (.int (0 : Int32)), .val (.int (2 : Int32)), .val (.int (2 : Int32)), .unset, .unset] [(.int (2 : Int32))])) (fun _ k_ => XS.iload X0.here hx rfl (hb hby own_d12_70) rfl k_) ?_
      refine own_w (T' := s₁) (g' := (mkF m 74 #[.val (.ref ax), .val (.int (0 : Int32)), .val (.ref ay), .val (.int (0 : Int32)), .val (.int (2 : Int32)), .val (.int (2 : Int32)), .unset, .unset] [(.int (2 : Int32)), (.int (2 : Int32))])) (fun _ k_ => XS.iload X0.here hx rfl (hb hby own_d12_72) rfl k_) ?_
      refine own_w (T' := s₁) (g' := (mkF m 101 #[.val (.ref ax), .val (.int (0 : Int32)), .val (.ref ay), .val (.int (0 : Int32)), .val (.int (2 : Int32)), .val (.int (2 : Int32)), .unset, .unset] [])) (fun _ k_ => XS.icmpYes X0.here hx rfl (pc0 := 74) (pc' := 101) rfl (hb hby own_d12_74) rfl (flt (by decide)).2.1 (by decide) (by decide) k_) ?_
      refine own_w (T' := s₁) (g' := (mkF m 102 #[.val (.ref ax), .val (.int (0 : Int32)), .val (.ref ay), .val (.int (0 : Int32)), .val (.int (2 : Int32)), .val (.int (2 : Int32)), .unset, .unset] [(.int (-1 : Int32))])) (fun _ k_ => XS.iconst X0.here hx rfl (hb hby own_d12_101) k_) ?_
      obtain ⟨fs, hr, hrun, hended, hW, hsame⟩ := X0.leave (v := some (.int (-1 : Int32))) (fun h => by rw [Bd.returns] at h; cases h)
      exact ⟨_, _, retOut X0 hx Bd.returns rfl (Or.inl ⟨rfl, Or.inl rfl, _, rfl⟩) (hb hby own_d12_102) hr, hrun, hended, _, _, rfl, (by show own_Q12_2 Z ax ay x0 x1 y0 y1 h0 n0 _ s₁.heap _; rw [e0]; exact ⟨(by simp [hc89, hc89']), N0, rfl⟩), ⟨_, rfl⟩, hW, hsame.mono (by decide) (by decide)⟩
    · refine own_w (T' := s₁) (g' := (mkF m 92 #[.val (.ref ax), .val (.int (0 : Int32)), .val (.ref ay), .val (.int (0 : Int32)), .val (.int (2 : Int32)), .val (.int (1 : Int32)), .unset, .unset] [])) (fun _ k_ => XS.icmpNo X0.here hx rfl (hb hby own_d12_89) rfl (feq hc89').1 k_) ?_
      refine own_w (T' := s₁) (g' := (mkF m 94 #[.val (.ref ax), .val (.int (0 : Int32)), .val (.ref ay), .val (.int (0 : Int32)), .val (.int (2 : Int32)), .val (.int (1 : Int32)), .unset, .unset] [(.int (1 : Int32))])) (fun _ k_ => XS.iload X0.here hx rfl (hb hby own_d12_92) rfl k_) ?_
      obtain ⟨fs, hr, hrun, hended, hW, hsame⟩ := X0.leave (v := some (.int (1 : Int32))) (fun h => by rw [Bd.returns] at h; cases h)
      exact ⟨_, _, retOut X0 hx Bd.returns rfl (Or.inl ⟨rfl, Or.inl rfl, _, rfl⟩) (hb hby own_d12_94) hr, hrun, hended, _, _, rfl, (by show own_Q12_2 Z ax ay x0 x1 y0 y1 h0 n0 _ s₁.heap _; rw [e0]; exact ⟨(by simp [hc89, hc89']), N0, rfl⟩), ⟨_, rfl⟩, hW, hsame.mono (by decide) (by decide)⟩
  · refine own_w (T' := s₁) (g' := (mkF m 92 #[.val (.ref ax), .val (.int (0 : Int32)), .val (.ref ay), .val (.int (0 : Int32)), .val (.int (2 : Int32)), .val (.int (0 : Int32)), .unset, .unset] [])) (fun _ k_ => XS.icmpNo X0.here hx rfl (hb hby own_d12_89) rfl (feq hc89).1 k_) ?_
    refine own_w (T' := s₁) (g' := (mkF m 94 #[.val (.ref ax), .val (.int (0 : Int32)), .val (.ref ay), .val (.int (0 : Int32)), .val (.int (2 : Int32)), .val (.int (0 : Int32)), .unset, .unset] [(.int (0 : Int32))])) (fun _ k_ => XS.iload X0.here hx rfl (hb hby own_d12_92) rfl k_) ?_
    obtain ⟨fs, hr, hrun, hended, hW, hsame⟩ := X0.leave (v := some (.int (0 : Int32))) (fun h => by rw [Bd.returns] at h; cases h)
    exact ⟨_, _, retOut X0 hx Bd.returns rfl (Or.inl ⟨rfl, Or.inl rfl, _, rfl⟩) (hb hby own_d12_94) hr, hrun, hended, _, _, rfl, (by show own_Q12_2 Z ax ay x0 x1 y0 y1 h0 n0 _ s₁.heap _; rw [e0]; exact ⟨(by simp [hc89]), N0, rfl⟩), ⟨_, rfl⟩, hW, hsame.mono (by decide) (by decide)⟩
theorem own_mm2 (x0 y0 : Int32) (x1 y1 : Int32) : (if x0 = y0 then (if x1 = y1 then (-1 : Int32) else (1 : Int32)) else (0 : Int32)) < (0 : Int32) ↔ ([x0, x1] = [y0, y1]) := by
  
  (repeat' split) <;> simp_all <;> decide
theorem own_rm11_2_ef (m : MethodId)  : entryFrame m #[(.int (2 : Int32)), (.int (0 : Int32)), (.int (2 : Int32))] 3 = mkF m 0 #[.val (.int (2 : Int32)), .val (.int (0 : Int32)), .val (.int (2 : Int32))] [] := by first | (simp [entryFrame, mkF, argsToLocals, Value.category]; done) | rfl
def own_Q11_2 (Z : State)  (h0 : Heap) (n0 : Nat) (v_ : Option Value) (h : Heap) (L_ : List Loc) : Prop := v_ = none ∧ Fr n0 L_ ∧ (h = h0)
set_option maxRecDepth 65536 in
set_option maxHeartbeats 40000000 in
theorem own_rm11_2 (l : Launch) (Z : State) (a0 : Array Value) (hw : ∀ d ∈ tables_1, d.before a0 Z = true) (ws : List Jvm.Cond)  (h0 : Heap) (n0 : Nat) (Z0 : n0 ≤ h0.size)  :
    MetFree l (⟨"java/util/Arrays", "rangeCheck", "(III)V"⟩ : MethodName) (head1 (Jvm.Cond.code (⟨"java/util/Arrays", "rangeCheck", "(III)V"⟩ : MethodName) jdk_65_method_30_code 3 none :: ws) ({ frames := 0, cells := 0, slots := 0, locals := 0 } : Room)) (fun a_ U_ => a_ = #[(.int (2 : Int32)), (.int (0 : Int32)), (.int (2 : Int32))] ∧ Z.Warmed39 U_.vm ∧ U_.heap = h0) (fun _ _ _ _ _ => True) (fun _ U_ o_ V_ => ∃ v_ L_, o_ = .returned v_ ∧ own_Q11_2 Z  h0 n0 v_ V_.heap L_ ∧ FrameEnd U_ o_ V_ L_ ({ frames := 0, cells := 0, slots := 0, locals := 0 } : Room).cells ({ frames := 0, cells := 0, slots := 0, locals := 0 } : Room).slots) := by
  refine MetFree.of_bodySF (plainFor_of_name own_pn_java_util_Arrays) hisR ?_
  intro p e s m args below meth c s₁ Bd hml0 hP hK
  obtain ⟨rfl, hZ, hh⟩ := hP
  have hx := Bd.exec
  have hby := Bd.bytes
  have hml : c.maxLocals = 3 := hml0
  have hown : s.vm.findClass "java/util/Arrays" = some m.cls := findClass_of_methodNamed Bd.named
  have hnm := (name_of_methodNamed Bd.named Bd.method).1
  have X0 : Stand p l e ({ frames := 0, cells := 0, slots := 0, locals := 0 } : Room) s m #[(.int (2 : Int32)), (.int (0 : Int32)), (.int (2 : Int32))] below meth c s₁ [] 0 0 := Stand.of_body Bd
  have e0 : s₁.heap = h0 := by rw [← hh, Bd.state]; rfl
  have N0 := Fr.nil n0
  show own_G p e below s (own_Q11_2 Z  h0 n0) ({ frames := 0, cells := 0, slots := 0, locals := 0 } : Room).cells ({ frames := 0, cells := 0, slots := 0, locals := 0 } : Room).slots s₁ (entryFrame m #[(.int (2 : Int32)), (.int (0 : Int32)), (.int (2 : Int32))] 3)
  rw [own_rm11_2_ef]
  refine own_w (T' := s₁) (g' := (mkF m 1 #[.val (.int (2 : Int32)), .val (.int (0 : Int32)), .val (.int (2 : Int32))] [(.int (0 : Int32))])) (fun _ k_ => XS.iloadN X0.here hx rfl (hb hby own_d11_0) rfl k_) ?_
  refine own_w (T' := s₁) (g' := (mkF m 2 #[.val (.int (2 : Int32)), .val (.int (0 : Int32)), .val (.int (2 : Int32))] [(.int (2 : Int32)), (.int (0 : Int32))])) (fun _ k_ => XS.iloadN X0.here hx rfl (hb hby own_d11_1) rfl k_) ?_
  refine own_w (T' := s₁) (g' := (mkF m 46 #[.val (.int (2 : Int32)), .val (.int (0 : Int32)), .val (.int (2 : Int32))] [])) (fun _ k_ => XS.icmpYes X0.here hx rfl (pc0 := 2) (pc' := 46) rfl (hb hby own_d11_2) rfl (flt (by decide)).2.2.2 (by decide) (by decide) k_) ?_
  refine own_w (T' := s₁) (g' := (mkF m 47 #[.val (.int (2 : Int32)), .val (.int (0 : Int32)), .val (.int (2 : Int32))] [(.int (0 : Int32))])) (fun _ k_ => XS.iloadN X0.here hx rfl (hb hby own_d11_46) rfl k_) ?_
  refine own_w (T' := s₁) (g' := (mkF m 59 #[.val (.int (2 : Int32)), .val (.int (0 : Int32)), .val (.int (2 : Int32))] [])) (fun _ k_ => XS.ifYes X0.here hx rfl (pc0 := 47) (pc' := 59) rfl (hb hby own_d11_47) rfl ((if0 _ _).trans (flt (by decide)).2.1) (by decide) (by decide) k_) ?_
  refine own_w (T' := s₁) (g' := (mkF m 60 #[.val (.int (2 : Int32)), .val (.int (0 : Int32)), .val (.int (2 : Int32))] [(.int (2 : Int32))])) (fun _ k_ => XS.iloadN X0.here hx rfl (hb hby own_d11_59) rfl k_) ?_
  refine own_w (T' := s₁) (g' := (mkF m 61 #[.val (.int (2 : Int32)), .val (.int (0 : Int32)), .val (.int (2 : Int32))] [(.int (2 : Int32)), (.int (2 : Int32))])) (fun _ k_ => XS.iloadN X0.here hx rfl (hb hby own_d11_60) rfl k_) ?_
  refine own_w (T' := s₁) (g' := (mkF m 73 #[.val (.int (2 : Int32)), .val (.int (0 : Int32)), .val (.int (2 : Int32))] [])) (fun _ k_ => XS.icmpYes X0.here hx rfl (pc0 := 61) (pc' := 73) rfl (hb hby own_d11_61) rfl (flt (by decide)).2.2.2 (by decide) (by decide) k_) ?_
  obtain ⟨fs, hr, hrun, hended, hW, hsame⟩ := X0.leave (v := none) (fun _ => rfl)
  exact ⟨_, _, X0.returnOut hx Bd.returns (hb hby own_d11_73) hr, hrun, hended, _, _, rfl, (by show own_Q11_2 Z  h0 n0 _ s₁.heap _; rw [e0]; exact ⟨rfl, N0, rfl⟩), ⟨_, rfl⟩, hW, hsame.mono (by decide) (by decide)⟩
theorem own_rm10_2_ef (m : MethodId) (ax : Addr) (ay : Addr) : entryFrame m #[(.ref ax), (.int (0 : Int32)), (.int (2 : Int32)), (.ref ay), (.int (0 : Int32)), (.int (2 : Int32))] 8 = mkF m 0 #[.val (.ref ax), .val (.int (0 : Int32)), .val (.int (2 : Int32)), .val (.ref ay), .val (.int (0 : Int32)), .val (.int (2 : Int32)), .unset, .unset] [] := by first | (simp [entryFrame, mkF, argsToLocals, Value.category]; done) | rfl
def own_Q10_2 (Z : State) (ax : Addr) (ay : Addr) (x0 : Int32) (x1 : Int32) (y0 : Int32) (y1 : Int32) (h0 : Heap) (n0 : Nat) (v_ : Option Value) (h : Heap) (L_ : List Loc) : Prop := v_ = some (.int (if ([x0, x1] = [y0, y1]) then (1 : Int32) else 0)) ∧ Fr n0 L_ ∧ (h = h0)
set_option maxRecDepth 65536 in
set_option maxHeartbeats 40000000 in
theorem own_rm10_2 (l : Launch) (Z : State) (a0 : Array Value) (hw : ∀ d ∈ tables_1, d.before a0 Z = true) (ws : List Jvm.Cond) (ax : Addr) (ay : Addr) (x0 : Int32) (x1 : Int32) (y0 : Int32) (y1 : Int32) (h0 : Heap) (n0 : Nat) (Z0 : n0 ≤ h0.size) (Vx : own_Ar Z h0 ax .byte [x0, x1]) (Vy : own_Ar Z h0 ay .byte [y0, y1]) :
    MetFree l (⟨"java/util/Arrays", "equals", "([BII[BII)Z"⟩ : MethodName) (head1 (Jvm.Cond.code (⟨"java/util/Arrays", "equals", "([BII[BII)Z"⟩ : MethodName) jdk_65_method_90_code 8 (some .boolean) :: ws) ({ frames := 1, cells := 0, slots := 0, locals := 19 } : Room)) (fun a_ U_ => a_ = #[(.ref ax), (.int (0 : Int32)), (.int (2 : Int32)), (.ref ay), (.int (0 : Int32)), (.int (2 : Int32))] ∧ Z.Warmed39 U_.vm ∧ U_.heap = h0) (fun _ _ _ _ _ => True) (fun _ U_ o_ V_ => ∃ v_ L_, o_ = .returned v_ ∧ own_Q10_2 Z ax ay x0 x1 y0 y1 h0 n0 v_ V_.heap L_ ∧ FrameEnd U_ o_ V_ L_ ({ frames := 1, cells := 0, slots := 0, locals := 19 } : Room).cells ({ frames := 1, cells := 0, slots := 0, locals := 19 } : Room).slots) := by
  refine MetFree.of_bodySF (plainFor_of_name own_pn_java_util_Arrays) hisR ?_
  intro p e s m args below meth c s₁ Bd hml0 hP hK
  obtain ⟨rfl, hZ, hh⟩ := hP
  have hx := Bd.exec
  have hby := Bd.bytes
  have hml : c.maxLocals = 8 := hml0
  have hown : s.vm.findClass "java/util/Arrays" = some m.cls := findClass_of_methodNamed Bd.named
  have hnm := (name_of_methodNamed Bd.named Bd.method).1
  have X0 : Stand p l e ({ frames := 1, cells := 0, slots := 0, locals := 19 } : Room) s m #[(.ref ax), (.int (0 : Int32)), (.int (2 : Int32)), (.ref ay), (.int (0 : Int32)), (.int (2 : Int32))] below meth c s₁ [] 0 0 := Stand.of_body Bd
  have e0 : s₁.heap = h0 := by rw [← hh, Bd.state]; rfl
  have N0 := Fr.nil n0
  show own_G p e below s (own_Q10_2 Z ax ay x0 x1 y0 y1 h0 n0) ({ frames := 1, cells := 0, slots := 0, locals := 19 } : Room).cells ({ frames := 1, cells := 0, slots := 0, locals := 19 } : Room).slots s₁ (entryFrame m #[(.ref ax), (.int (0 : Int32)), (.int (2 : Int32)), (.ref ay), (.int (0 : Int32)), (.int (2 : Int32))] 8)
  rw [own_rm10_2_ef]
  refine own_w (T' := s₁) (g' := (mkF m 1 #[.val (.ref ax), .val (.int (0 : Int32)), .val (.int (2 : Int32)), .val (.ref ay), .val (.int (0 : Int32)), .val (.int (2 : Int32)), .unset, .unset] [(.ref ax)])) (fun _ k_ => XS.aloadN X0.here hx rfl (hb hby own_d10_0) rfl rfl k_) ?_
  obtain ⟨cl1, Ar1, hs1⟩ := id Vx
  have hl1 : cl1.slots.size.toInt32 = (2 : Int32) := by rw [hs1]; rfl
  refine own_w (T' := s₁) (g' := (mkF m 2 #[.val (.ref ax), .val (.int (0 : Int32)), .val (.int (2 : Int32)), .val (.ref ay), .val (.int (0 : Int32)), .val (.int (2 : Int32)), .unset, .unset] [(.int (2 : Int32))])) (fun t_ k_ => X0.arraylength hx (by rw [e0]; exact Ar1.1) (State.isArrayOf_alike hZ.alike Ar1.2.1) (g := (mkF m 1 #[.val (.ref ax), .val (.int (0 : Int32)), .val (.int (2 : Int32)), .val (.ref ay), .val (.int (0 : Int32)), .val (.int (2 : Int32)), .unset, .unset] [(.ref ax)])) rfl rfl (hb hby own_d10_1) t_ (by rw [hl1]; exact k_)) ?_
  refine own_w (T' := s₁) (g' := (mkF m 3 #[.val (.ref ax), .val (.int (0 : Int32)), .val (.int (2 : Int32)), .val (.ref ay), .val (.int (0 : Int32)), .val (.int (2 : Int32)), .unset, .unset] [(.int (0 : Int32)), (.int (2 : Int32))])) (fun _ k_ => XS.iloadN X0.here hx rfl (hb hby own_d10_2) rfl k_) ?_
  refine own_w (T' := s₁) (g' := (mkF m 4 #[.val (.ref ax), .val (.int (0 : Int32)), .val (.int (2 : Int32)), .val (.ref ay), .val (.int (0 : Int32)), .val (.int (2 : Int32)), .unset, .unset] [(.int (2 : Int32)), (.int (0 : Int32)), (.int (2 : Int32))])) (fun _ k_ => XS.iloadN X0.here hx rfl (hb hby own_d10_3) rfl k_) ?_
  obtain ⟨_, _, ⟨T2, L2, k2, n2⟩, -, X2, ⟨Lc2, hQ2, l2, y2, z2⟩, st2⟩ := Jvm.LawKit.callS X0 hx (y := (⟨"java/util/Arrays", "rangeCheck", "(III)V"⟩ : MethodName)) hown (mvT hZ (hw _ (List.mem_of_getElem? (i := 61) rfl))) (mvT hZ (hw _ (List.mem_of_getElem? (i := 62) rfl))) (mvT hZ (hw _ (List.mem_of_getElem? (i := 49) rfl))) (mvT hZ (hw _ (List.mem_of_getElem? (i := 63) rfl))) (by decide) (backOf (W := 0) (own_rm11_2 l Z a0 hw []   h0 n0 Z0 ) hZ (hw _ (List.mem_of_getElem? (i := 63) rfl)) (hw _ (List.mem_of_getElem? (i := 49) rfl)) (by decide) (by decide)) (g := (mkF m 4 #[.val (.ref ax), .val (.int (0 : Int32)), .val (.int (2 : Int32)), .val (.ref ay), .val (.int (0 : Int32)), .val (.int (2 : Int32)), .unset, .unset] [(.int (2 : Int32)), (.int (0 : Int32)), (.int (2 : Int32))])) rfl (by rw [hml]; rfl) (argsL := [(.int (2 : Int32)), (.int (0 : Int32)), (.int (2 : Int32))]) (rest := []) (lenOf own_pd0 rfl) rfl (by show 2 * 0 + _ ≤ _; exact Nat.le_of_eq rfl) (hb hby own_d10_4) (fun _ _ => ⟨rfl, e0, (by decide : 0 + 0 ≤ _), (by decide : 0 + 0 ≤ _)⟩)
  dsimp only [Pt.U, Pt.locs, Pt.cells, Pt.slots] at X2 l2 y2 z2 st2 hQ2
  subst l2 y2 z2
  obtain ⟨rfl, N2q, e2⟩ := hQ2
  have N2 := Fr.app N0 N2q
  refine own_w (T' := T2) (g' := (mkF m 7 #[.val (.ref ax), .val (.int (0 : Int32)), .val (.int (2 : Int32)), .val (.ref ay), .val (.int (0 : Int32)), .val (.int (2 : Int32)), .unset, .unset] [])) st2 ?_
  refine own_w (T' := T2) (g' := (mkF m 8 #[.val (.ref ax), .val (.int (0 : Int32)), .val (.int (2 : Int32)), .val (.ref ay), .val (.int (0 : Int32)), .val (.int (2 : Int32)), .unset, .unset] [(.ref ay)])) (fun _ k_ => XS.aloadN X2.here hx rfl (hb hby own_d10_7) rfl rfl k_) ?_
  obtain ⟨cl3, Ar3, hs3⟩ := id Vy
  have hl3 : cl3.slots.size.toInt32 = (2 : Int32) := by rw [hs3]; rfl
  refine own_w (T' := T2) (g' := (mkF m 9 #[.val (.ref ax), .val (.int (0 : Int32)), .val (.int (2 : Int32)), .val (.ref ay), .val (.int (0 : Int32)), .val (.int (2 : Int32)), .unset, .unset] [(.int (2 : Int32))])) (fun t_ k_ => X2.arraylength hx (by rw [e2]; exact Ar3.1) (State.isArrayOf_alike hZ.alike Ar3.2.1) (g := (mkF m 8 #[.val (.ref ax), .val (.int (0 : Int32)), .val (.int (2 : Int32)), .val (.ref ay), .val (.int (0 : Int32)), .val (.int (2 : Int32)), .unset, .unset] [(.ref ay)])) rfl rfl (hb hby own_d10_8) t_ (by rw [hl3]; exact k_)) ?_
  refine own_w (T' := T2) (g' := (mkF m 11 #[.val (.ref ax), .val (.int (0 : Int32)), .val (.int (2 : Int32)), .val (.ref ay), .val (.int (0 : Int32)), .val (.int (2 : Int32)), .unset, .unset] [(.int (0 : Int32)), (.int (2 : Int32))])) (fun _ k_ => XS.iload X2.here hx rfl (hb hby own_d10_9) rfl k_) ?_
  refine own_w (T' := T2) (g' := (mkF m 13 #[.val (.ref ax), .val (.int (0 : Int32)), .val (.int (2 : Int32)), .val (.ref ay), .val (.int (0 : Int32)), .val (.int (2 : Int32)), .unset, .unset] [(.int (2 : Int32)), (.int (0 : Int32)), (.int (2 : Int32))])) (fun _ k_ => XS.iload X2.here hx rfl (hb hby own_d10_11) rfl k_) ?_
  obtain ⟨_, _, ⟨T4, L4, k4, n4⟩, -, X4, ⟨Lc4, hQ4, l4, y4, z4⟩, st4⟩ := Jvm.LawKit.callS X2 hx (y := (⟨"java/util/Arrays", "rangeCheck", "(III)V"⟩ : MethodName)) hown (mvT hZ (hw _ (List.mem_of_getElem? (i := 61) rfl))) (mvT hZ (hw _ (List.mem_of_getElem? (i := 62) rfl))) (mvT hZ (hw _ (List.mem_of_getElem? (i := 49) rfl))) (mvT hZ (hw _ (List.mem_of_getElem? (i := 63) rfl))) (by decide) (backOf (W := 0) (own_rm11_2 l Z a0 hw []   h0 n0 Z0 ) hZ (hw _ (List.mem_of_getElem? (i := 63) rfl)) (hw _ (List.mem_of_getElem? (i := 49) rfl)) (by decide) (by decide)) (g := (mkF m 13 #[.val (.ref ax), .val (.int (0 : Int32)), .val (.int (2 : Int32)), .val (.ref ay), .val (.int (0 : Int32)), .val (.int (2 : Int32)), .unset, .unset] [(.int (2 : Int32)), (.int (0 : Int32)), (.int (2 : Int32))])) rfl (by rw [hml]; rfl) (argsL := [(.int (2 : Int32)), (.int (0 : Int32)), (.int (2 : Int32))]) (rest := []) (lenOf own_pd0 rfl) rfl (by show 2 * 0 + _ ≤ _; exact Nat.le_of_eq rfl) (hb hby own_d10_13) (fun _ _ => ⟨rfl, e2, (by decide : 0 + 0 ≤ _), (by decide : 0 + 0 ≤ _)⟩)
  dsimp only [Pt.U, Pt.locs, Pt.cells, Pt.slots] at X4 l4 y4 z4 st4 hQ4
  subst l4 y4 z4
  obtain ⟨rfl, N4q, e4⟩ := hQ4
  have N4 := Fr.app N2 N4q
  refine own_w (T' := T4) (g' := (mkF m 16 #[.val (.ref ax), .val (.int (0 : Int32)), .val (.int (2 : Int32)), .val (.ref ay), .val (.int (0 : Int32)), .val (.int (2 : Int32)), .unset, .unset] [])) st4 ?_
  refine own_w (T' := T4) (g' := (mkF m 17 #[.val (.ref ax), .val (.int (0 : Int32)), .val (.int (2 : Int32)), .val (.ref ay), .val (.int (0 : Int32)), .val (.int (2 : Int32)), .unset, .unset] [(.int (2 : Int32))])) (fun _ k_ => XS.iloadN X4.here hx rfl (hb hby own_d10_16) rfl k_) ?_
  refine own_w (T' := T4) (g' := (mkF m 18 #[.val (.ref ax), .val (.int (0 : Int32)), .val (.int (2 : Int32)), .val (.ref ay), .val (.int (0 : Int32)), .val (.int (2 : Int32)), .unset, .unset] [(.int (0 : Int32)), (.int (2 : Int32))])) (fun _ k_ => XS.iloadN X4.here hx rfl (hb hby own_d10_17) rfl k_) ?_
  refine own_w (T' := T4) (g' := (mkF m 19 #[.val (.ref ax), .val (.int (0 : Int32)), .val (.int (2 : Int32)), .val (.ref ay), .val (.int (0 : Int32)), .val (.int (2 : Int32)), .unset, .unset] [(.int (2 : Int32))])) (fun _ k_ => XS.isub X4.here hx rfl (hb hby own_d10_18) rfl k_) ?_
  refine own_w (T' := T4) (g' := (mkF m 21 #[.val (.ref ax), .val (.int (0 : Int32)), .val (.int (2 : Int32)), .val (.ref ay), .val (.int (0 : Int32)), .val (.int (2 : Int32)), .val (.int (2 : Int32)), .unset] [])) (fun _ k_ => XS.istore X4.here hx rfl (hb hby own_d10_19) rfl (l' := #[.val (.ref ax), .val (.int (0 : Int32)), .val (.int (2 : Int32)), .val (.ref ay), .val (.int (0 : Int32)), .val (.int (2 : Int32)), .val (.int (2 : Int32)), .unset]) rfl k_) ?_
  refine own_w (T' := T4) (g' := (mkF m 23 #[.val (.ref ax), .val (.int (0 : Int32)), .val (.int (2 : Int32)), .val (.ref ay), .val (.int (0 : Int32)), .val (.int (2 : Int32)), .val (.int (2 : Int32)), .unset] [(.int (2 : Int32))])) (fun _ k_ => XS.iload X4.here hx rfl (hb hby own_d10_21) rfl k_) ?_
  refine own_w (T' := T4) (g' := (mkF m 25 #[.val (.ref ax), .val (.int (0 : Int32)), .val (.int (2 : Int32)), .val (.ref ay), .val (.int (0 : Int32)), .val (.int (2 : Int32)), .val (.int (2 : Int32)), .unset] [(.int (0 : Int32)), (.int (2 : Int32))])) (fun _ k_ => XS.iload X4.here hx rfl (hb hby own_d10_23) rfl k_) ?_
  refine own_w (T' := T4) (g' := (mkF m 26 #[.val (.ref ax), .val (.int (0 : Int32)), .val (.int (2 : Int32)), .val (.ref ay), .val (.int (0 : Int32)), .val (.int (2 : Int32)), .val (.int (2 : Int32)), .unset] [(.int (2 : Int32))])) (fun _ k_ => XS.isub X4.here hx rfl (hb hby own_d10_25) rfl k_) ?_
  refine own_w (T' := T4) (g' := (mkF m 28 #[.val (.ref ax), .val (.int (0 : Int32)), .val (.int (2 : Int32)), .val (.ref ay), .val (.int (0 : Int32)), .val (.int (2 : Int32)), .val (.int (2 : Int32)), .val (.int (2 : Int32))] [])) (fun _ k_ => XS.istore X4.here hx rfl (hb hby own_d10_26) rfl (l' := #[.val (.ref ax), .val (.int (0 : Int32)), .val (.int (2 : Int32)), .val (.ref ay), .val (.int (0 : Int32)), .val (.int (2 : Int32)), .val (.int (2 : Int32)), .val (.int (2 : Int32))]) rfl k_) ?_
  refine own_w (T' := T4) (g' := (mkF m 30 #[.val (.ref ax), .val (.int (0 : Int32)), .val (.int (2 : Int32)), .val (.ref ay), .val (.int (0 : Int32)), .val (.int (2 : Int32)), .val (.int (2 : Int32)), .val (.int (2 : Int32))] [(.int (2 : Int32))])) (fun _ k_ => XS.iload X4.here hx rfl (hb hby own_d10_28) rfl k_) ?_
  refine own_w (T' := T4) (g' := (mkF m 32 #[.val (.ref ax), .val (.int (0 : Int32)), .val (.int (2 : Int32)), .val (.ref ay), .val (.int (0 : Int32)), .val (.int (2 : Int32)), .val (.int (2 : Int32)), .val (.int (2 : Int32))] [(.int (2 : Int32)), (.int (2 : Int32))])) (fun _ k_ => XS.iload X4.here hx rfl (hb hby own_d10_30) rfl k_) ?_
  refine own_w (T' := T4) (g' := (mkF m 37 #[.val (.ref ax), .val (.int (0 : Int32)), .val (.int (2 : Int32)), .val (.ref ay), .val (.int (0 : Int32)), .val (.int (2 : Int32)), .val (.int (2 : Int32)), .val (.int (2 : Int32))] [])) (fun _ k_ => XS.icmpYes X4.here hx rfl (pc0 := 32) (pc' := 37) rfl (hb hby own_d10_32) rfl (teq rfl).1 (by decide) (by decide) k_) ?_
  refine own_w (T' := T4) (g' := (mkF m 38 #[.val (.ref ax), .val (.int (0 : Int32)), .val (.int (2 : Int32)), .val (.ref ay), .val (.int (0 : Int32)), .val (.int (2 : Int32)), .val (.int (2 : Int32)), .val (.int (2 : Int32))] [(.ref ax)])) (fun _ k_ => XS.aloadN X4.here hx rfl (hb hby own_d10_37) rfl rfl k_) ?_
  refine own_w (T' := T4) (g' := (mkF m 39 #[.val (.ref ax), .val (.int (0 : Int32)), .val (.int (2 : Int32)), .val (.ref ay), .val (.int (0 : Int32)), .val (.int (2 : Int32)), .val (.int (2 : Int32)), .val (.int (2 : Int32))] [(.int (0 : Int32)), (.ref ax)])) (fun _ k_ => XS.iloadN X4.here hx rfl (hb hby own_d10_38) rfl k_) ?_
  refine own_w (T' := T4) (g' := (mkF m 40 #[.val (.ref ax), .val (.int (0 : Int32)), .val (.int (2 : Int32)), .val (.ref ay), .val (.int (0 : Int32)), .val (.int (2 : Int32)), .val (.int (2 : Int32)), .val (.int (2 : Int32))] [(.ref ay), (.int (0 : Int32)), (.ref ax)])) (fun _ k_ => XS.aloadN X4.here hx rfl (hb hby own_d10_39) rfl rfl k_) ?_
  refine own_w (T' := T4) (g' := (mkF m 42 #[.val (.ref ax), .val (.int (0 : Int32)), .val (.int (2 : Int32)), .val (.ref ay), .val (.int (0 : Int32)), .val (.int (2 : Int32)), .val (.int (2 : Int32)), .val (.int (2 : Int32))] [(.int (0 : Int32)), (.ref ay), (.int (0 : Int32)), (.ref ax)])) (fun _ k_ => XS.iload X4.here hx rfl (hb hby own_d10_40) rfl k_) ?_
  refine own_w (T' := T4) (g' := (mkF m 44 #[.val (.ref ax), .val (.int (0 : Int32)), .val (.int (2 : Int32)), .val (.ref ay), .val (.int (0 : Int32)), .val (.int (2 : Int32)), .val (.int (2 : Int32)), .val (.int (2 : Int32))] [(.int (2 : Int32)), (.int (0 : Int32)), (.ref ay), (.int (0 : Int32)), (.ref ax)])) (fun _ k_ => XS.iload X4.here hx rfl (hb hby own_d10_42) rfl k_) ?_
  obtain ⟨_, _, ⟨T5, L5, k5, n5⟩, -, X5, ⟨Lc5, hQ5, l5, y5, z5⟩, st5⟩ := Jvm.LawKit.callS X4 hx (y := (⟨"jdk/internal/util/ArraysSupport", "mismatch", "([BI[BII)I"⟩ : MethodName)) hown (mvT hZ (hw _ (List.mem_of_getElem? (i := 64) rfl))) (mvT hZ (hw _ (List.mem_of_getElem? (i := 65) rfl))) (mvT hZ (hw _ (List.mem_of_getElem? (i := 66) rfl))) (mvT hZ (hw _ (List.mem_of_getElem? (i := 67) rfl))) (by decide) (backOf (W := 0) (own_rm12_2 l Z a0 hw [] ax ay x0 x1 y0 y1 h0 n0 Z0 Vx Vy) hZ (hw _ (List.mem_of_getElem? (i := 67) rfl)) (hw _ (List.mem_of_getElem? (i := 66) rfl)) (by decide) (by decide)) (g := (mkF m 44 #[.val (.ref ax), .val (.int (0 : Int32)), .val (.int (2 : Int32)), .val (.ref ay), .val (.int (0 : Int32)), .val (.int (2 : Int32)), .val (.int (2 : Int32)), .val (.int (2 : Int32))] [(.int (2 : Int32)), (.int (0 : Int32)), (.ref ay), (.int (0 : Int32)), (.ref ax)])) rfl (by rw [hml]; rfl) (argsL := [(.ref ax), (.int (0 : Int32)), (.ref ay), (.int (0 : Int32)), (.int (2 : Int32))]) (rest := []) (lenOf own_pd1 rfl) rfl (by show 2 * 0 + _ ≤ _; exact Nat.le_of_eq rfl) (hb hby own_d10_44) (fun _ _ => ⟨rfl, e4, (by decide : 0 + 0 ≤ _), (by decide : 0 + 0 ≤ _)⟩)
  dsimp only [Pt.U, Pt.locs, Pt.cells, Pt.slots] at X5 l5 y5 z5 st5 hQ5
  subst l5 y5 z5
  obtain ⟨rfl, N5q, e5⟩ := hQ5
  have N5 := Fr.app N4 N5q
  refine own_w (T' := T5) (g' := (mkF m 47 #[.val (.ref ax), .val (.int (0 : Int32)), .val (.int (2 : Int32)), .val (.ref ay), .val (.int (0 : Int32)), .val (.int (2 : Int32)), .val (.int (2 : Int32)), .val (.int (2 : Int32))] [(.int (if x0 = y0 then (if x1 = y1 then (-1 : Int32) else (1 : Int32)) else (0 : Int32)))])) st5 ?_
  by_cases hc47 : (if x0 = y0 then (if x1 = y1 then (-1 : Int32) else (1 : Int32)) else (0 : Int32)) < (0 : Int32)
  · refine own_w (T' := T5) (g' := (mkF m 50 #[.val (.ref ax), .val (.int (0 : Int32)), .val (.int (2 : Int32)), .val (.ref ay), .val (.int (0 : Int32)), .val (.int (2 : Int32)), .val (.int (2 : Int32)), .val (.int (2 : Int32))] [])) (fun _ k_ => XS.ifNo X5.here hx rfl (hb hby own_d10_47) rfl ((if0 _ _).trans (tlt hc47).2.1) k_) ?_
    refine own_w (T' := T5) (g' := (mkF m 51 #[.val (.ref ax), .val (.int (0 : Int32)), .val (.int (2 : Int32)), .val (.ref ay), .val (.int (0 : Int32)), .val (.int (2 : Int32)), .val (.int (2 : Int32)), .val (.int (2 : Int32))] [(.int (1 : Int32))])) (fun _ k_ => XS.iconst X5.here hx rfl (hb hby own_d10_50) k_) ?_
    refine own_w (T' := T5) (g' := (mkF m 55 #[.val (.ref ax), .val (.int (0 : Int32)), .val (.int (2 : Int32)), .val (.ref ay), .val (.int (0 : Int32)), .val (.int (2 : Int32)), .val (.int (2 : Int32)), .val (.int (2 : Int32))] [(.int (1 : Int32))])) (fun _ k_ => XS.goto X5.here hx rfl (pc0 := 51) (pc' := 55) rfl (hb hby own_d10_51) (by decide) (by decide) k_) ?_
    obtain ⟨fs, hr, hrun, hended, hW, hsame⟩ := X5.leave (v := some (.int (1 : Int32))) (fun h => by rw [Bd.returns] at h; cases h)
    exact ⟨_, _, retOut X5 hx Bd.returns rfl (Or.inl ⟨rfl, Or.inr (Or.inl rfl), _, rfl⟩) (hb hby own_d10_55) hr, hrun, hended, _, _, rfl, (by show own_Q10_2 Z ax ay x0 x1 y0 y1 h0 n0 _ T5.heap _; rw [e5]; exact ⟨(by rw [if_pos ((own_mm2 x0 y0 x1 y1).mp hc47)]), N5, rfl⟩), ⟨_, rfl⟩, hW, hsame.mono (by decide) (by decide)⟩
  · refine own_w (T' := T5) (g' := (mkF m 54 #[.val (.ref ax), .val (.int (0 : Int32)), .val (.int (2 : Int32)), .val (.ref ay), .val (.int (0 : Int32)), .val (.int (2 : Int32)), .val (.int (2 : Int32)), .val (.int (2 : Int32))] [])) (fun _ k_ => XS.ifYes X5.here hx rfl (pc0 := 47) (pc' := 54) rfl (hb hby own_d10_47) rfl ((if0 _ _).trans (flt hc47).2.1) (by decide) (by decide) k_) ?_
    refine own_w (T' := T5) (g' := (mkF m 55 #[.val (.ref ax), .val (.int (0 : Int32)), .val (.int (2 : Int32)), .val (.ref ay), .val (.int (0 : Int32)), .val (.int (2 : Int32)), .val (.int (2 : Int32)), .val (.int (2 : Int32))] [(.int (0 : Int32))])) (fun _ k_ => XS.iconst X5.here hx rfl (hb hby own_d10_54) k_) ?_
    obtain ⟨fs, hr, hrun, hended, hW, hsame⟩ := X5.leave (v := some (.int (0 : Int32))) (fun h => by rw [Bd.returns] at h; cases h)
    exact ⟨_, _, retOut X5 hx Bd.returns rfl (Or.inl ⟨rfl, Or.inr (Or.inl rfl), _, rfl⟩) (hb hby own_d10_55) hr, hrun, hended, _, _, rfl, (by show own_Q10_2 Z ax ay x0 x1 y0 y1 h0 n0 _ T5.heap _; rw [e5]; exact ⟨(by rw [if_neg (mt (own_mm2 x0 y0 x1 y1).mpr hc47)]), N5, rfl⟩), ⟨_, rfl⟩, hW, hsame.mono (by decide) (by decide)⟩
theorem own_rm9_2_ef (m : MethodId) (pp : Addr) (ay : Addr) : entryFrame m #[(.ref pp), (.ref ay)] 2 = mkF m 0 #[.val (.ref pp), .val (.ref ay)] [] := by first | (simp [entryFrame, mkF, argsToLocals, Value.category]; done) | rfl
def own_Q9_2 (Z : State) (pp : Addr) (ay : Addr) (ax : Addr) (x0 : Int32) (x1 : Int32) (y0 : Int32) (y1 : Int32) (h0 : Heap) (n0 : Nat) (v_ : Option Value) (h : Heap) (L_ : List Loc) : Prop := v_ = some (.int (if ([x0, x1] = [y0, y1]) then (1 : Int32) else 0)) ∧ Fr n0 L_ ∧ (h = h0)
set_option maxRecDepth 65536 in
set_option maxHeartbeats 40000000 in
theorem own_rm9_2 (l : Launch) (Z : State) (a0 : Array Value) (hw : ∀ d ∈ tables_1, d.before a0 Z = true) (ws : List Jvm.Cond) (pp : Addr) (ay : Addr) (ax : Addr) (x0 : Int32) (x1 : Int32) (y0 : Int32) (y1 : Int32) (h0 : Heap) (n0 : Nat) (Z0 : n0 ≤ h0.size) (F0 : Fld Z h0 pp "com/example/adjacency/adjacency/wire/PrefixedBytes" "array" "[B" (.ref ax)) (F1 : Fld Z h0 pp "com/example/adjacency/adjacency/wire/PrefixedBytes" "offset" "I" (.int (0 : Int32))) (F2 : Fld Z h0 pp "com/example/adjacency/adjacency/wire/PrefixedBytes" "length" "I" (.int (2 : Int32))) (Vx : own_Ar Z h0 ax .byte [x0, x1]) (Vy : own_Ar Z h0 ay .byte [y0, y1]) :
    MetFree l (⟨"com/example/adjacency/adjacency/wire/PrefixedBytes", "isSameAs", "([B)Z"⟩ : MethodName) (head1 (Jvm.Cond.code (⟨"com/example/adjacency/adjacency/wire/PrefixedBytes", "isSameAs", "([B)Z"⟩ : MethodName) prog_31_method_8_code 2 (some .boolean) :: ws) ({ frames := 2, cells := 0, slots := 0, locals := 38 } : Room)) (fun a_ U_ => a_ = #[(.ref pp), (.ref ay)] ∧ Z.Warmed39 U_.vm ∧ U_.heap = h0) (fun _ _ _ _ _ => True) (fun _ U_ o_ V_ => ∃ v_ L_, o_ = .returned v_ ∧ own_Q9_2 Z pp ay ax x0 x1 y0 y1 h0 n0 v_ V_.heap L_ ∧ FrameEnd U_ o_ V_ L_ ({ frames := 2, cells := 0, slots := 0, locals := 38 } : Room).cells ({ frames := 2, cells := 0, slots := 0, locals := 38 } : Room).slots) := by
  refine MetFree.of_bodySF (plainFor_of_name own_pn_com_example_adjacency_adjacency_wire_PrefixedBytes) hisR ?_
  intro p e s m args below meth c s₁ Bd hml0 hP hK
  obtain ⟨rfl, hZ, hh⟩ := hP
  have hx := Bd.exec
  have hby := Bd.bytes
  have hml : c.maxLocals = 2 := hml0
  have hown : s.vm.findClass "com/example/adjacency/adjacency/wire/PrefixedBytes" = some m.cls := findClass_of_methodNamed Bd.named
  have hnm := (name_of_methodNamed Bd.named Bd.method).1
  have X0 : Stand p l e ({ frames := 2, cells := 0, slots := 0, locals := 38 } : Room) s m #[(.ref pp), (.ref ay)] below meth c s₁ [] 0 0 := Stand.of_body Bd
  have e0 : s₁.heap = h0 := by rw [← hh, Bd.state]; rfl
  have N0 := Fr.nil n0
  show own_G p e below s (own_Q9_2 Z pp ay ax x0 x1 y0 y1 h0 n0) ({ frames := 2, cells := 0, slots := 0, locals := 38 } : Room).cells ({ frames := 2, cells := 0, slots := 0, locals := 38 } : Room).slots s₁ (entryFrame m #[(.ref pp), (.ref ay)] 2)
  rw [own_rm9_2_ef]
  refine own_w (T' := s₁) (g' := (mkF m 1 #[.val (.ref pp), .val (.ref ay)] [(.ref pp)])) (fun _ k_ => XS.aloadN X0.here hx rfl (hb hby own_d9_0) rfl rfl k_) ?_
  obtain ⟨T1, X1, e1, st1⟩ := getF X0 hx hZ hown (host := "") (Or.inl (hw _ (List.mem_of_getElem? (i := 22) rfl))) Via.refl e0 F0 (g := (mkF m 1 #[.val (.ref pp), .val (.ref ay)] [(.ref pp)])) rfl rfl (hb hby own_d9_1)
  refine own_w (T' := T1) (g' := (mkF m 4 #[.val (.ref pp), .val (.ref ay)] [(.ref ax)])) st1 ?_
  refine own_w (T' := T1) (g' := (mkF m 5 #[.val (.ref pp), .val (.ref ay)] [(.ref pp), (.ref ax)])) (fun _ k_ => XS.aloadN X1.here hx rfl (hb hby own_d9_4) rfl rfl k_) ?_
  obtain ⟨T2, X2, e2, st2⟩ := getF X1 hx hZ hown (host := "") (Or.inl (hw _ (List.mem_of_getElem? (i := 24) rfl))) Via.refl e1 F1 (g := (mkF m 5 #[.val (.ref pp), .val (.ref ay)] [(.ref pp), (.ref ax)])) rfl rfl (hb hby own_d9_5)
  refine own_w (T' := T2) (g' := (mkF m 8 #[.val (.ref pp), .val (.ref ay)] [(.int (0 : Int32)), (.ref ax)])) st2 ?_
  refine own_w (T' := T2) (g' := (mkF m 9 #[.val (.ref pp), .val (.ref ay)] [(.ref pp), (.int (0 : Int32)), (.ref ax)])) (fun _ k_ => XS.aloadN X2.here hx rfl (hb hby own_d9_8) rfl rfl k_) ?_
  obtain ⟨T3, X3, e3, st3⟩ := getF X2 hx hZ hown (host := "") (Or.inl (hw _ (List.mem_of_getElem? (i := 24) rfl))) Via.refl e2 F1 (g := (mkF m 9 #[.val (.ref pp), .val (.ref ay)] [(.ref pp), (.int (0 : Int32)), (.ref ax)])) rfl rfl (hb hby own_d9_9)
  refine own_w (T' := T3) (g' := (mkF m 12 #[.val (.ref pp), .val (.ref ay)] [(.int (0 : Int32)), (.int (0 : Int32)), (.ref ax)])) st3 ?_
  refine own_w (T' := T3) (g' := (mkF m 13 #[.val (.ref pp), .val (.ref ay)] [(.ref pp), (.int (0 : Int32)), (.int (0 : Int32)), (.ref ax)])) (fun _ k_ => XS.aloadN X3.here hx rfl (hb hby own_d9_12) rfl rfl k_) ?_
  obtain ⟨T4, X4, e4, st4⟩ := getF X3 hx hZ hown (host := "") (Or.inl (hw _ (List.mem_of_getElem? (i := 26) rfl))) Via.refl e3 F2 (g := (mkF m 13 #[.val (.ref pp), .val (.ref ay)] [(.ref pp), (.int (0 : Int32)), (.int (0 : Int32)), (.ref ax)])) rfl rfl (hb hby own_d9_13)
  refine own_w (T' := T4) (g' := (mkF m 16 #[.val (.ref pp), .val (.ref ay)] [(.int (2 : Int32)), (.int (0 : Int32)), (.int (0 : Int32)), (.ref ax)])) st4 ?_
  refine own_w (T' := T4) (g' := (mkF m 17 #[.val (.ref pp), .val (.ref ay)] [(.int (2 : Int32)), (.int (0 : Int32)), (.ref ax)])) (fun _ k_ => XS.iadd X4.here hx rfl (hb hby own_d9_16) rfl k_) ?_
  refine own_w (T' := T4) (g' := (mkF m 18 #[.val (.ref pp), .val (.ref ay)] [(.ref ay), (.int (2 : Int32)), (.int (0 : Int32)), (.ref ax)])) (fun _ k_ => XS.aloadN X4.here hx rfl (hb hby own_d9_17) rfl rfl k_) ?_
  refine own_w (T' := T4) (g' := (mkF m 19 #[.val (.ref pp), .val (.ref ay)] [(.int (0 : Int32)), (.ref ay), (.int (2 : Int32)), (.int (0 : Int32)), (.ref ax)])) (fun _ k_ => XS.iconst X4.here hx rfl (hb hby own_d9_18) k_) ?_
  refine own_w (T' := T4) (g' := (mkF m 20 #[.val (.ref pp), .val (.ref ay)] [(.ref ay), (.int (0 : Int32)), (.ref ay), (.int (2 : Int32)), (.int (0 : Int32)), (.ref ax)])) (fun _ k_ => XS.aloadN X4.here hx rfl (hb hby own_d9_19) rfl rfl k_) ?_
  obtain ⟨cl5, Ar5, hs5⟩ := id Vy
  have hl5 : cl5.slots.size.toInt32 = (2 : Int32) := by rw [hs5]; rfl
  refine own_w (T' := T4) (g' := (mkF m 21 #[.val (.ref pp), .val (.ref ay)] [(.int (2 : Int32)), (.int (0 : Int32)), (.ref ay), (.int (2 : Int32)), (.int (0 : Int32)), (.ref ax)])) (fun t_ k_ => X4.arraylength hx (by rw [e4]; exact Ar5.1) (State.isArrayOf_alike hZ.alike Ar5.2.1) (g := (mkF m 20 #[.val (.ref pp), .val (.ref ay)] [(.ref ay), (.int (0 : Int32)), (.ref ay), (.int (2 : Int32)), (.int (0 : Int32)), (.ref ax)])) rfl rfl (hb hby own_d9_20) t_ (by rw [hl5]; exact k_)) ?_
  obtain ⟨_, _, ⟨T6, L6, k6, n6⟩, -, X6, ⟨Lc6, hQ6, l6, y6, z6⟩, st6⟩ := Jvm.LawKit.callS X4 hx (y := (⟨"java/util/Arrays", "equals", "([BII[BII)Z"⟩ : MethodName)) hown (mvT hZ (hw _ (List.mem_of_getElem? (i := 58) rfl))) (mvT hZ (hw _ (List.mem_of_getElem? (i := 59) rfl))) (mvT hZ (hw _ (List.mem_of_getElem? (i := 49) rfl))) (mvT hZ (hw _ (List.mem_of_getElem? (i := 60) rfl))) (by decide) (backOf (W := 0) (own_rm10_2 l Z a0 hw [] ax ay x0 x1 y0 y1 h0 n0 Z0 Vx Vy) hZ (hw _ (List.mem_of_getElem? (i := 60) rfl)) (hw _ (List.mem_of_getElem? (i := 49) rfl)) (by decide) (by decide)) (g := (mkF m 21 #[.val (.ref pp), .val (.ref ay)] [(.int (2 : Int32)), (.int (0 : Int32)), (.ref ay), (.int (2 : Int32)), (.int (0 : Int32)), (.ref ax)])) rfl (by rw [hml]; rfl) (argsL := [(.ref ax), (.int (0 : Int32)), (.int (2 : Int32)), (.ref ay), (.int (0 : Int32)), (.int (2 : Int32))]) (rest := []) (lenOf own_pd2 rfl) rfl (by show 2 * 0 + _ ≤ _; exact Nat.le_of_eq rfl) (hb hby own_d9_21) (fun _ _ => ⟨rfl, e4, (by decide : 0 + 0 ≤ _), (by decide : 0 + 0 ≤ _)⟩)
  dsimp only [Pt.U, Pt.locs, Pt.cells, Pt.slots] at X6 l6 y6 z6 st6 hQ6
  subst l6 y6 z6
  obtain ⟨rfl, N6q, e6⟩ := hQ6
  have N6 := Fr.app N0 N6q
  refine own_w (T' := T6) (g' := (mkF m 24 #[.val (.ref pp), .val (.ref ay)] [(.int (if ([x0, x1] = [y0, y1]) then (1 : Int32) else 0))])) st6 ?_
  obtain ⟨fs, hr, hrun, hended, hW, hsame⟩ := X6.leave (v := some (.int (if ([x0, x1] = [y0, y1]) then (1 : Int32) else 0))) (fun h => by rw [Bd.returns] at h; cases h)
  exact ⟨_, _, retOut X6 hx Bd.returns own_nb (Or.inl ⟨rfl, Or.inr (Or.inl rfl), _, rfl⟩) (hb hby own_d9_24) hr, hrun, hended, _, _, rfl, (by show own_Q9_2 Z pp ay ax x0 x1 y0 y1 h0 n0 _ T6.heap _; rw [e6]; exact ⟨rfl, N6, rfl⟩), ⟨_, rfl⟩, hW, hsame.mono (by decide) (by decide)⟩
theorem own_rm5_2_ef (m : MethodId) (pp : Addr) : entryFrame m #[(.ref pp)] 1 = mkF m 0 #[.val (.ref pp)] [] := by first | (simp [entryFrame, mkF, argsToLocals, Value.category]; done) | rfl
def own_Q5_2 (Z : State) (pp : Addr) (h0 : Heap) (n0 : Nat) (v_ : Option Value) (h : Heap) (L_ : List Loc) : Prop := v_ = some (.int (2 : Int32)) ∧ Fr n0 L_ ∧ (h = h0)
set_option maxRecDepth 65536 in
set_option maxHeartbeats 40000000 in
theorem own_rm5_2 (l : Launch) (Z : State) (a0 : Array Value) (hw : ∀ d ∈ tables_1, d.before a0 Z = true) (ws : List Jvm.Cond) (pp : Addr) (h0 : Heap) (n0 : Nat) (Z0 : n0 ≤ h0.size) (F2 : Fld Z h0 pp "com/example/adjacency/adjacency/wire/PrefixedBytes" "length" "I" (.int (2 : Int32))) :
    MetFree l (⟨"com/example/adjacency/adjacency/wire/PrefixedBytes", "length", "()I"⟩ : MethodName) (head1 (Jvm.Cond.code (⟨"com/example/adjacency/adjacency/wire/PrefixedBytes", "length", "()I"⟩ : MethodName) prog_31_method_4_code 1 (some .int) :: ws) ({ frames := 0, cells := 0, slots := 0, locals := 0 } : Room)) (fun a_ U_ => a_ = #[(.ref pp)] ∧ Z.Warmed39 U_.vm ∧ U_.heap = h0) (fun _ _ _ _ _ => True) (fun _ U_ o_ V_ => ∃ v_ L_, o_ = .returned v_ ∧ own_Q5_2 Z pp h0 n0 v_ V_.heap L_ ∧ FrameEnd U_ o_ V_ L_ ({ frames := 0, cells := 0, slots := 0, locals := 0 } : Room).cells ({ frames := 0, cells := 0, slots := 0, locals := 0 } : Room).slots) := by
  refine MetFree.of_bodySF (plainFor_of_name own_pn_com_example_adjacency_adjacency_wire_PrefixedBytes) hisR ?_
  intro p e s m args below meth c s₁ Bd hml0 hP hK
  obtain ⟨rfl, hZ, hh⟩ := hP
  have hx := Bd.exec
  have hby := Bd.bytes
  have hml : c.maxLocals = 1 := hml0
  have hown : s.vm.findClass "com/example/adjacency/adjacency/wire/PrefixedBytes" = some m.cls := findClass_of_methodNamed Bd.named
  have hnm := (name_of_methodNamed Bd.named Bd.method).1
  have X0 : Stand p l e ({ frames := 0, cells := 0, slots := 0, locals := 0 } : Room) s m #[(.ref pp)] below meth c s₁ [] 0 0 := Stand.of_body Bd
  have e0 : s₁.heap = h0 := by rw [← hh, Bd.state]; rfl
  have N0 := Fr.nil n0
  show own_G p e below s (own_Q5_2 Z pp h0 n0) ({ frames := 0, cells := 0, slots := 0, locals := 0 } : Room).cells ({ frames := 0, cells := 0, slots := 0, locals := 0 } : Room).slots s₁ (entryFrame m #[(.ref pp)] 1)
  rw [own_rm5_2_ef]
  refine own_w (T' := s₁) (g' := (mkF m 1 #[.val (.ref pp)] [(.ref pp)])) (fun _ k_ => XS.aloadN X0.here hx rfl (hb hby own_d5_0) rfl rfl k_) ?_
  obtain ⟨T1, X1, e1, st1⟩ := getF X0 hx hZ hown (host := "") (Or.inl (hw _ (List.mem_of_getElem? (i := 26) rfl))) Via.refl e0 F2 (g := (mkF m 1 #[.val (.ref pp)] [(.ref pp)])) rfl rfl (hb hby own_d5_1)
  refine own_w (T' := T1) (g' := (mkF m 4 #[.val (.ref pp)] [(.int (2 : Int32))])) st1 ?_
  obtain ⟨fs, hr, hrun, hended, hW, hsame⟩ := X1.leave (v := some (.int (2 : Int32))) (fun h => by rw [Bd.returns] at h; cases h)
  exact ⟨_, _, retOut X1 hx Bd.returns rfl (Or.inl ⟨rfl, Or.inl rfl, _, rfl⟩) (hb hby own_d5_4) hr, hrun, hended, _, _, rfl, (by show own_Q5_2 Z pp h0 n0 _ T1.heap _; rw [e1]; exact ⟨rfl, N0, rfl⟩), ⟨_, rfl⟩, hW, hsame.mono (by decide) (by decide)⟩
theorem own_rm6_2_ef (m : MethodId) (pp : Addr) : entryFrame m #[(.ref pp)] 1 = mkF m 0 #[.val (.ref pp)] [] := by first | (simp [entryFrame, mkF, argsToLocals, Value.category]; done) | rfl
def own_Q6_2 (Z : State) (pp : Addr) (h0 : Heap) (n0 : Nat) (v_ : Option Value) (h : Heap) (L_ : List Loc) : Prop := v_ = some (.int (4 : Int32)) ∧ Fr n0 L_ ∧ (h = h0)
set_option maxRecDepth 65536 in
set_option maxHeartbeats 40000000 in
theorem own_rm6_2 (l : Launch) (Z : State) (a0 : Array Value) (hw : ∀ d ∈ tables_1, d.before a0 Z = true) (ws : List Jvm.Cond) (pp : Addr) (h0 : Heap) (n0 : Nat) (Z0 : n0 ≤ h0.size) (F2 : Fld Z h0 pp "com/example/adjacency/adjacency/wire/PrefixedBytes" "length" "I" (.int (2 : Int32))) :
    MetFree l (⟨"com/example/adjacency/adjacency/wire/PrefixedBytes", "prefixedLength", "()I"⟩ : MethodName) (head1 (Jvm.Cond.code (⟨"com/example/adjacency/adjacency/wire/PrefixedBytes", "prefixedLength", "()I"⟩ : MethodName) prog_31_method_5_code 1 (some .int) :: ws) ({ frames := 0, cells := 0, slots := 0, locals := 0 } : Room)) (fun a_ U_ => a_ = #[(.ref pp)] ∧ Z.Warmed39 U_.vm ∧ U_.heap = h0) (fun _ _ _ _ _ => True) (fun _ U_ o_ V_ => ∃ v_ L_, o_ = .returned v_ ∧ own_Q6_2 Z pp h0 n0 v_ V_.heap L_ ∧ FrameEnd U_ o_ V_ L_ ({ frames := 0, cells := 0, slots := 0, locals := 0 } : Room).cells ({ frames := 0, cells := 0, slots := 0, locals := 0 } : Room).slots) := by
  refine MetFree.of_bodySF (plainFor_of_name own_pn_com_example_adjacency_adjacency_wire_PrefixedBytes) hisR ?_
  intro p e s m args below meth c s₁ Bd hml0 hP hK
  obtain ⟨rfl, hZ, hh⟩ := hP
  have hx := Bd.exec
  have hby := Bd.bytes
  have hml : c.maxLocals = 1 := hml0
  have hown : s.vm.findClass "com/example/adjacency/adjacency/wire/PrefixedBytes" = some m.cls := findClass_of_methodNamed Bd.named
  have hnm := (name_of_methodNamed Bd.named Bd.method).1
  have X0 : Stand p l e ({ frames := 0, cells := 0, slots := 0, locals := 0 } : Room) s m #[(.ref pp)] below meth c s₁ [] 0 0 := Stand.of_body Bd
  have e0 : s₁.heap = h0 := by rw [← hh, Bd.state]; rfl
  have N0 := Fr.nil n0
  show own_G p e below s (own_Q6_2 Z pp h0 n0) ({ frames := 0, cells := 0, slots := 0, locals := 0 } : Room).cells ({ frames := 0, cells := 0, slots := 0, locals := 0 } : Room).slots s₁ (entryFrame m #[(.ref pp)] 1)
  rw [own_rm6_2_ef]
  refine own_w (T' := s₁) (g' := (mkF m 1 #[.val (.ref pp)] [(.int (2 : Int32))])) (fun _ k_ => XS.iconst X0.here hx rfl (hb hby own_d6_0) k_) ?_
  refine own_w (T' := s₁) (g' := (mkF m 2 #[.val (.ref pp)] [(.ref pp), (.int (2 : Int32))])) (fun _ k_ => XS.aloadN X0.here hx rfl (hb hby own_d6_1) rfl rfl k_) ?_
  obtain ⟨T1, X1, e1, st1⟩ := getF X0 hx hZ hown (host := "") (Or.inl (hw _ (List.mem_of_getElem? (i := 26) rfl))) Via.refl e0 F2 (g := (mkF m 2 #[.val (.ref pp)] [(.ref pp), (.int (2 : Int32))])) rfl rfl (hb hby own_d6_2)
  refine own_w (T' := T1) (g' := (mkF m 5 #[.val (.ref pp)] [(.int (2 : Int32)), (.int (2 : Int32))])) st1 ?_
  refine own_w (T' := T1) (g' := (mkF m 6 #[.val (.ref pp)] [(.int (4 : Int32))])) (fun _ k_ => XS.iadd X1.here hx rfl (hb hby own_d6_5) rfl k_) ?_
  obtain ⟨fs, hr, hrun, hended, hW, hsame⟩ := X1.leave (v := some (.int (4 : Int32))) (fun h => by rw [Bd.returns] at h; cases h)
  exact ⟨_, _, retOut X1 hx Bd.returns rfl (Or.inl ⟨rfl, Or.inl rfl, _, rfl⟩) (hb hby own_d6_6) hr, hrun, hended, _, _, rfl, (by show own_Q6_2 Z pp h0 n0 _ T1.heap _; rw [e1]; exact ⟨rfl, N0, rfl⟩), ⟨_, rfl⟩, hW, hsame.mono (by decide) (by decide)⟩
theorem own_rm8_2_ef (m : MethodId) (ax : Addr) : entryFrame m #[(.ref ax), (.int (0 : Int32)), (.int (2 : Int32))] 3 = mkF m 0 #[.val (.ref ax), .val (.int (0 : Int32)), .val (.int (2 : Int32))] [] := by first | (simp [entryFrame, mkF, argsToLocals, Value.category]; done) | rfl
def own_Q8_2 (Z : State) (ax : Addr) (x0 : Int32) (x1 : Int32) (h0 : Heap) (n0 : Nat) (v_ : Option Value) (h : Heap) (L_ : List Loc) : Prop := v_ = some (.ref h0.size) ∧ Fr n0 L_ ∧ (Keep h0 h []) ∧ (own_Ar Z h h0.size .byte [x0, x1])
set_option maxRecDepth 65536 in
set_option maxHeartbeats 40000000 in
theorem own_rm8_2 (l : Launch) (Z : State) (a0 : Array Value) (hw : ∀ d ∈ tables_1, d.before a0 Z = true) (ws : List Jvm.Cond) (ax : Addr) (x0 : Int32) (x1 : Int32) (h0 : Heap) (n0 : Nat) (Z0 : n0 ≤ h0.size) (Vx : own_Ar Z h0 ax .byte [x0, x1]) (Ex : Exa Z h0 ax "[B") (hf : ∀ x ∈ [x0, x1], fits .byte (.int x) = true) :
    MetFree l (⟨"java/util/Arrays", "copyOfRange", "([BII)[B"⟩ : MethodName) (head1 (Jvm.Cond.code (⟨"java/util/Arrays", "copyOfRange", "([BII)[B"⟩ : MethodName) jdk_65_method_132_code 3 (some (.array .byte)) :: ws) ({ frames := 1, cells := 1, slots := 3, locals := 14 } : Room)) (fun a_ U_ => a_ = #[(.ref ax), (.int (0 : Int32)), (.int (2 : Int32))] ∧ Z.Warmed39 U_.vm ∧ U_.heap = h0) (fun _ _ _ _ _ => True) (fun _ U_ o_ V_ => ∃ v_ L_, o_ = .returned v_ ∧ own_Q8_2 Z ax x0 x1 h0 n0 v_ V_.heap L_ ∧ FrameEnd U_ o_ V_ L_ ({ frames := 1, cells := 1, slots := 3, locals := 14 } : Room).cells ({ frames := 1, cells := 1, slots := 3, locals := 14 } : Room).slots) := by
  refine MetFree.of_bodySF (plainFor_of_name own_pn_java_util_Arrays) hisR ?_
  intro p e s m args below meth c s₁ Bd hml0 hP hK
  obtain ⟨rfl, hZ, hh⟩ := hP
  have hx := Bd.exec
  have hby := Bd.bytes
  have hml : c.maxLocals = 3 := hml0
  have hown : s.vm.findClass "java/util/Arrays" = some m.cls := findClass_of_methodNamed Bd.named
  have hnm := (name_of_methodNamed Bd.named Bd.method).1
  have X0 : Stand p l e ({ frames := 1, cells := 1, slots := 3, locals := 14 } : Room) s m #[(.ref ax), (.int (0 : Int32)), (.int (2 : Int32))] below meth c s₁ [] 0 0 := Stand.of_body Bd
  have e0 : s₁.heap = h0 := by rw [← hh, Bd.state]; rfl
  have N0 := Fr.nil n0
  show own_G p e below s (own_Q8_2 Z ax x0 x1 h0 n0) ({ frames := 1, cells := 1, slots := 3, locals := 14 } : Room).cells ({ frames := 1, cells := 1, slots := 3, locals := 14 } : Room).slots s₁ (entryFrame m #[(.ref ax), (.int (0 : Int32)), (.int (2 : Int32))] 3)
  rw [own_rm8_2_ef]
  refine own_w (T' := s₁) (g' := (mkF m 1 #[.val (.ref ax), .val (.int (0 : Int32)), .val (.int (2 : Int32))] [(.int (0 : Int32))])) (fun _ k_ => XS.iloadN X0.here hx rfl (hb hby own_d8_0) rfl k_) ?_
  refine own_w (T' := s₁) (g' := (mkF m 4 #[.val (.ref ax), .val (.int (0 : Int32)), .val (.int (2 : Int32))] [])) (fun _ k_ => XS.ifNo X0.here hx rfl (hb hby own_d8_1) rfl ((if0 _ _).trans (teq rfl).2) k_) ?_
  refine own_w (T' := s₁) (g' := (mkF m 5 #[.val (.ref ax), .val (.int (0 : Int32)), .val (.int (2 : Int32))] [(.int (2 : Int32))])) (fun _ k_ => XS.iloadN X0.here hx rfl (hb hby own_d8_4) rfl k_) ?_
  refine own_w (T' := s₁) (g' := (mkF m 6 #[.val (.ref ax), .val (.int (0 : Int32)), .val (.int (2 : Int32))] [(.ref ax), (.int (2 : Int32))])) (fun _ k_ => XS.aloadN X0.here hx rfl (hb hby own_d8_5) rfl rfl k_) ?_
  obtain ⟨cl1, Ar1, hs1⟩ := id Vx
  have hl1 : cl1.slots.size.toInt32 = (2 : Int32) := by rw [hs1]; rfl
  refine own_w (T' := s₁) (g' := (mkF m 7 #[.val (.ref ax), .val (.int (0 : Int32)), .val (.int (2 : Int32))] [(.int (2 : Int32)), (.int (2 : Int32))])) (fun t_ k_ => X0.arraylength hx (by rw [e0]; exact Ar1.1) (State.isArrayOf_alike hZ.alike Ar1.2.1) (g := (mkF m 6 #[.val (.ref ax), .val (.int (0 : Int32)), .val (.int (2 : Int32))] [(.ref ax), (.int (2 : Int32))])) rfl rfl (hb hby own_d8_6) t_ (by rw [hl1]; exact k_)) ?_
  refine own_w (T' := s₁) (g' := (mkF m 17 #[.val (.ref ax), .val (.int (0 : Int32)), .val (.int (2 : Int32))] [])) (fun _ k_ => XS.icmpYes X0.here hx rfl (pc0 := 7) (pc' := 17) rfl (hb hby own_d8_7) rfl (teq rfl).1 (by decide) (by decide) k_) ?_
  refine own_w (T' := s₁) (g' := (mkF m 18 #[.val (.ref ax), .val (.int (0 : Int32)), .val (.int (2 : Int32))] [(.ref ax)])) (fun _ k_ => XS.aloadN X0.here hx rfl (hb hby own_d8_17) rfl rfl k_) ?_
  obtain ⟨cl2, Ar2, hs2⟩ := id Vx
  obtain ⟨T2, h2, X2, e2, E2, A2, Xa2, st2⟩ := cloneA X0 hx hZ hown (hw _ (List.mem_of_getElem? (i := 51) rfl)) (hw _ (List.mem_of_getElem? (i := 8) rfl)) (hw _ (List.mem_of_getElem? (i := 12) rfl)) (hw _ (List.mem_of_getElem? (i := 10) rfl)) (hw _ (List.mem_of_getElem? (i := 11) rfl)) (hw _ (List.mem_of_getElem? (i := 13) rfl)) e0 Ar2 Ex (own_fitc Ar2 hs2 hf) (g := (mkF m 18 #[.val (.ref ax), .val (.int (0 : Int32)), .val (.int (2 : Int32))] [(.ref ax)])) rfl (by rw [hml]; rfl) rfl (hb hby own_d8_18) (by decide) (W := 0) (cap := 3) (by show 2 * 0 + _ ≤ _; exact Nat.le_of_eq rfl) (by decide) (by rw [hs2]; simp) (by decide) (by decide)
  obtain ⟨b2, gq2⟩ : ∃ z, z = h0.size := ⟨_, rfl⟩
  rw [← gq2] at A2 Xa2 st2
  have V_b2 : own_Ar Z h2 b2 _ _ := ⟨_, A2, hs2⟩
  have X_b2 := Xa2
  have g_b2 : n0 ≤ b2 := Nat.le_trans Z0 (Nat.le_of_eq gq2.symm)
  have Z2 : n0 ≤ h2.size := Nat.le_trans Z0 E2.1
  refine own_w (T' := T2) (g' := (mkF m 21 #[.val (.ref ax), .val (.int (0 : Int32)), .val (.int (2 : Int32))] [(.ref b2)])) st2 ?_
  obtain ⟨T3, X3, e3, st3⟩ := castY X2 hx hZ hown (hw _ (List.mem_of_getElem? (i := 52) rfl)) e2 (Ins.self X_b2) (g := (mkF m 21 #[.val (.ref ax), .val (.int (0 : Int32)), .val (.int (2 : Int32))] [(.ref b2)])) rfl rfl (hb hby own_d8_21)
  refine own_w (T' := T3) (g' := (mkF m 24 #[.val (.ref ax), .val (.int (0 : Int32)), .val (.int (2 : Int32))] [(.ref b2)])) st3 ?_
  obtain ⟨fs, hr, hrun, hended, hW, hsame⟩ := X3.leave (v := some (.ref b2)) (fun h => by rw [Bd.returns] at h; cases h)
  exact ⟨_, _, retOut X3 hx Bd.returns rfl (Or.inr (Or.inr (Or.inr (Or.inr ⟨rfl, rfl, rfl⟩)))) (hb hby own_d8_24) hr, hrun, hended, _, _, rfl, (by show own_Q8_2 Z ax x0 x1 h0 n0 _ T3.heap _; rw [e3]; exact ⟨(by rw [gq2]), N0, (Keep.refl _ _).ext E2, gq2 ▸ V_b2⟩), ⟨_, rfl⟩, hW, hsame.mono (by decide) (by decide)⟩
theorem own_rm7_2_ef (m : MethodId) (pp : Addr) : entryFrame m #[(.ref pp)] 1 = mkF m 0 #[.val (.ref pp)] [] := by first | (simp [entryFrame, mkF, argsToLocals, Value.category]; done) | rfl
def own_Q7_2 (Z : State) (pp : Addr) (ax : Addr) (x0 : Int32) (x1 : Int32) (h0 : Heap) (n0 : Nat) (v_ : Option Value) (h : Heap) (L_ : List Loc) : Prop := v_ = some (.ref h0.size) ∧ Fr n0 L_ ∧ (Keep h0 h []) ∧ (own_Ar Z h h0.size .byte [x0, x1])
set_option maxRecDepth 65536 in
set_option maxHeartbeats 40000000 in
theorem own_rm7_2 (l : Launch) (Z : State) (a0 : Array Value) (hw : ∀ d ∈ tables_1, d.before a0 Z = true) (ws : List Jvm.Cond) (pp : Addr) (ax : Addr) (x0 : Int32) (x1 : Int32) (h0 : Heap) (n0 : Nat) (Z0 : n0 ≤ h0.size) (F0 : Fld Z h0 pp "com/example/adjacency/adjacency/wire/PrefixedBytes" "array" "[B" (.ref ax)) (F1 : Fld Z h0 pp "com/example/adjacency/adjacency/wire/PrefixedBytes" "offset" "I" (.int (0 : Int32))) (F2 : Fld Z h0 pp "com/example/adjacency/adjacency/wire/PrefixedBytes" "length" "I" (.int (2 : Int32))) (Vx : own_Ar Z h0 ax .byte [x0, x1]) (Ex : Exa Z h0 ax "[B") (hf : ∀ x ∈ [x0, x1], fits .byte (.int x) = true) :
    MetFree l (⟨"com/example/adjacency/adjacency/wire/PrefixedBytes", "toArray", "()[B"⟩ : MethodName) (head1 (Jvm.Cond.code (⟨"com/example/adjacency/adjacency/wire/PrefixedBytes", "toArray", "()[B"⟩ : MethodName) prog_31_method_7_code 1 (some (.array .byte)) :: ws) ({ frames := 2, cells := 1, slots := 3, locals := 28 } : Room)) (fun a_ U_ => a_ = #[(.ref pp)] ∧ Z.Warmed39 U_.vm ∧ U_.heap = h0) (fun _ _ _ _ _ => True) (fun _ U_ o_ V_ => ∃ v_ L_, o_ = .returned v_ ∧ own_Q7_2 Z pp ax x0 x1 h0 n0 v_ V_.heap L_ ∧ FrameEnd U_ o_ V_ L_ ({ frames := 2, cells := 1, slots := 3, locals := 28 } : Room).cells ({ frames := 2, cells := 1, slots := 3, locals := 28 } : Room).slots) := by
  refine MetFree.of_bodySF (plainFor_of_name own_pn_com_example_adjacency_adjacency_wire_PrefixedBytes) hisR ?_
  intro p e s m args below meth c s₁ Bd hml0 hP hK
  obtain ⟨rfl, hZ, hh⟩ := hP
  have hx := Bd.exec
  have hby := Bd.bytes
  have hml : c.maxLocals = 1 := hml0
  have hown : s.vm.findClass "com/example/adjacency/adjacency/wire/PrefixedBytes" = some m.cls := findClass_of_methodNamed Bd.named
  have hnm := (name_of_methodNamed Bd.named Bd.method).1
  have X0 : Stand p l e ({ frames := 2, cells := 1, slots := 3, locals := 28 } : Room) s m #[(.ref pp)] below meth c s₁ [] 0 0 := Stand.of_body Bd
  have e0 : s₁.heap = h0 := by rw [← hh, Bd.state]; rfl
  have N0 := Fr.nil n0
  show own_G p e below s (own_Q7_2 Z pp ax x0 x1 h0 n0) ({ frames := 2, cells := 1, slots := 3, locals := 28 } : Room).cells ({ frames := 2, cells := 1, slots := 3, locals := 28 } : Room).slots s₁ (entryFrame m #[(.ref pp)] 1)
  rw [own_rm7_2_ef]
  refine own_w (T' := s₁) (g' := (mkF m 1 #[.val (.ref pp)] [(.ref pp)])) (fun _ k_ => XS.aloadN X0.here hx rfl (hb hby own_d7_0) rfl rfl k_) ?_
  obtain ⟨T1, X1, e1, st1⟩ := getF X0 hx hZ hown (host := "") (Or.inl (hw _ (List.mem_of_getElem? (i := 22) rfl))) Via.refl e0 F0 (g := (mkF m 1 #[.val (.ref pp)] [(.ref pp)])) rfl rfl (hb hby own_d7_1)
  refine own_w (T' := T1) (g' := (mkF m 4 #[.val (.ref pp)] [(.ref ax)])) st1 ?_
  refine own_w (T' := T1) (g' := (mkF m 5 #[.val (.ref pp)] [(.ref pp), (.ref ax)])) (fun _ k_ => XS.aloadN X1.here hx rfl (hb hby own_d7_4) rfl rfl k_) ?_
  obtain ⟨T2, X2, e2, st2⟩ := getF X1 hx hZ hown (host := "") (Or.inl (hw _ (List.mem_of_getElem? (i := 24) rfl))) Via.refl e1 F1 (g := (mkF m 5 #[.val (.ref pp)] [(.ref pp), (.ref ax)])) rfl rfl (hb hby own_d7_5)
  refine own_w (T' := T2) (g' := (mkF m 8 #[.val (.ref pp)] [(.int (0 : Int32)), (.ref ax)])) st2 ?_
  refine own_w (T' := T2) (g' := (mkF m 9 #[.val (.ref pp)] [(.ref pp), (.int (0 : Int32)), (.ref ax)])) (fun _ k_ => XS.aloadN X2.here hx rfl (hb hby own_d7_8) rfl rfl k_) ?_
  obtain ⟨T3, X3, e3, st3⟩ := getF X2 hx hZ hown (host := "") (Or.inl (hw _ (List.mem_of_getElem? (i := 24) rfl))) Via.refl e2 F1 (g := (mkF m 9 #[.val (.ref pp)] [(.ref pp), (.int (0 : Int32)), (.ref ax)])) rfl rfl (hb hby own_d7_9)
  refine own_w (T' := T3) (g' := (mkF m 12 #[.val (.ref pp)] [(.int (0 : Int32)), (.int (0 : Int32)), (.ref ax)])) st3 ?_
  refine own_w (T' := T3) (g' := (mkF m 13 #[.val (.ref pp)] [(.ref pp), (.int (0 : Int32)), (.int (0 : Int32)), (.ref ax)])) (fun _ k_ => XS.aloadN X3.here hx rfl (hb hby own_d7_12) rfl rfl k_) ?_
  obtain ⟨T4, X4, e4, st4⟩ := getF X3 hx hZ hown (host := "") (Or.inl (hw _ (List.mem_of_getElem? (i := 26) rfl))) Via.refl e3 F2 (g := (mkF m 13 #[.val (.ref pp)] [(.ref pp), (.int (0 : Int32)), (.int (0 : Int32)), (.ref ax)])) rfl rfl (hb hby own_d7_13)
  refine own_w (T' := T4) (g' := (mkF m 16 #[.val (.ref pp)] [(.int (2 : Int32)), (.int (0 : Int32)), (.int (0 : Int32)), (.ref ax)])) st4 ?_
  refine own_w (T' := T4) (g' := (mkF m 17 #[.val (.ref pp)] [(.int (2 : Int32)), (.int (0 : Int32)), (.ref ax)])) (fun _ k_ => XS.iadd X4.here hx rfl (hb hby own_d7_16) rfl k_) ?_
  obtain ⟨_, _, ⟨T5, L5, k5, n5⟩, -, X5, ⟨Lc5, hQ5, l5, y5, z5⟩, st5⟩ := Jvm.LawKit.callS X4 hx (y := (⟨"java/util/Arrays", "copyOfRange", "([BII)[B"⟩ : MethodName)) hown (mvT hZ (hw _ (List.mem_of_getElem? (i := 47) rfl))) (mvT hZ (hw _ (List.mem_of_getElem? (i := 48) rfl))) (mvT hZ (hw _ (List.mem_of_getElem? (i := 49) rfl))) (mvT hZ (hw _ (List.mem_of_getElem? (i := 50) rfl))) (by decide) (backOf (W := 0) (own_rm8_2 l Z a0 hw [] ax x0 x1 h0 n0 Z0 Vx Ex hf) hZ (hw _ (List.mem_of_getElem? (i := 50) rfl)) (hw _ (List.mem_of_getElem? (i := 49) rfl)) (by decide) (by decide)) (g := (mkF m 17 #[.val (.ref pp)] [(.int (2 : Int32)), (.int (0 : Int32)), (.ref ax)])) rfl (by rw [hml]; rfl) (argsL := [(.ref ax), (.int (0 : Int32)), (.int (2 : Int32))]) (rest := []) (lenOf own_pd3 rfl) rfl (by show 2 * 0 + _ ≤ _; exact Nat.le_of_eq rfl) (hb hby own_d7_17) (fun _ _ => ⟨rfl, e4, (by decide : 0 + 1 ≤ _), (by decide : 0 + 3 ≤ _)⟩)
  dsimp only [Pt.U, Pt.locs, Pt.cells, Pt.slots] at X5 l5 y5 z5 st5 hQ5
  subst l5 y5 z5
  obtain ⟨h5, e5⟩ : ∃ h, T5.heap = h := ⟨_, rfl⟩
  rw [e5] at hQ5
  obtain ⟨rfl, N5q, K5, V5⟩ := hQ5
  have N5 := Fr.app N0 N5q
  refine own_w (T' := T5) (g' := (mkF m 20 #[.val (.ref pp)] [(.ref h0.size)])) st5 ?_
  obtain ⟨fs, hr, hrun, hended, hW, hsame⟩ := X5.leave (v := some (.ref h0.size)) (fun h => by rw [Bd.returns] at h; cases h)
  exact ⟨_, _, retOut X5 hx Bd.returns rfl (Or.inr (Or.inr (Or.inr (Or.inr ⟨rfl, rfl, rfl⟩)))) (hb hby own_d7_20) hr, hrun, hended, _, _, rfl, (by show own_Q7_2 Z pp ax x0 x1 h0 n0 _ T5.heap _; rw [e5]; exact ⟨rfl, N5, K5, V5⟩), ⟨_, rfl⟩, hW, hsame.mono (by decide) (by decide)⟩
theorem own_rm1_2_ef (m : MethodId) (ax : Addr) : entryFrame m #[(.ref ax)] 1 = mkF m 0 #[.val (.ref ax)] [] := by first | (simp [entryFrame, mkF, argsToLocals, Value.category]; done) | rfl
def own_Q1_2 (Z : State) (ax : Addr) (x0 : Int32) (x1 : Int32) (h0 : Heap) (n0 : Nat) (v_ : Option Value) (h : Heap) (L_ : List Loc) : Prop := v_ = some (.ref h0.size) ∧ Fr n0 L_ ∧ (Keep h0 h []) ∧ (Exa Z h h0.size "com/example/adjacency/adjacency/wire/PrefixedBytes") ∧ (∃ ar, h0.size < ar ∧ Fld Z h h0.size "com/example/adjacency/adjacency/wire/PrefixedBytes" "array" "[B" (.ref ar) ∧ Fld Z h h0.size "com/example/adjacency/adjacency/wire/PrefixedBytes" "offset" "I" (.int (0 : Int32)) ∧ Fld Z h h0.size "com/example/adjacency/adjacency/wire/PrefixedBytes" "length" "I" (.int (2 : Int32)) ∧ own_Ar Z h ar .byte [x0, x1] ∧ Exa Z h ar "[B")
set_option maxRecDepth 65536 in
set_option maxHeartbeats 40000000 in
theorem own_rm1_2 (l : Launch) (Z : State) (a0 : Array Value) (hw : ∀ d ∈ tables_1, d.before a0 Z = true) (ws : List Jvm.Cond) (ax : Addr) (x0 : Int32) (x1 : Int32) (h0 : Heap) (n0 : Nat) (Z0 : n0 ≤ h0.size) (Vx : own_Ar Z h0 ax .byte [x0, x1]) (Ex : Exa Z h0 ax "[B") (hf : ∀ x ∈ [x0, x1], fits .byte (.int x) = true) :
    MetFree l (⟨"com/example/adjacency/adjacency/wire/PrefixedBytes", "copyOf", "([B)Lcom/example/adjacency/adjacency/wire/PrefixedBytes;"⟩ : MethodName) (head1 (Jvm.Cond.code (⟨"com/example/adjacency/adjacency/wire/PrefixedBytes", "copyOf", "([B)Lcom/example/adjacency/adjacency/wire/PrefixedBytes;"⟩ : MethodName) prog_31_method_2_code 1 (some (.object "com/example/adjacency/adjacency/wire/PrefixedBytes")) :: ws) ({ frames := 2, cells := 2, slots := 6, locals := 28 } : Room)) (fun a_ U_ => a_ = #[(.ref ax)] ∧ Z.Warmed39 U_.vm ∧ U_.heap = h0) (fun _ _ _ _ _ => True) (fun _ U_ o_ V_ => ∃ v_ L_, o_ = .returned v_ ∧ own_Q1_2 Z ax x0 x1 h0 n0 v_ V_.heap L_ ∧ FrameEnd U_ o_ V_ L_ ({ frames := 2, cells := 2, slots := 6, locals := 28 } : Room).cells ({ frames := 2, cells := 2, slots := 6, locals := 28 } : Room).slots) := by
  refine MetFree.of_bodySF (plainFor_of_name own_pn_com_example_adjacency_adjacency_wire_PrefixedBytes) hisR ?_
  intro p e s m args below meth c s₁ Bd hml0 hP hK
  obtain ⟨rfl, hZ, hh⟩ := hP
  have hx := Bd.exec
  have hby := Bd.bytes
  have hml : c.maxLocals = 1 := hml0
  have hown : s.vm.findClass "com/example/adjacency/adjacency/wire/PrefixedBytes" = some m.cls := findClass_of_methodNamed Bd.named
  have hnm := (name_of_methodNamed Bd.named Bd.method).1
  have X0 : Stand p l e ({ frames := 2, cells := 2, slots := 6, locals := 28 } : Room) s m #[(.ref ax)] below meth c s₁ [] 0 0 := Stand.of_body Bd
  have e0 : s₁.heap = h0 := by rw [← hh, Bd.state]; rfl
  have N0 := Fr.nil n0
  show own_G p e below s (own_Q1_2 Z ax x0 x1 h0 n0) ({ frames := 2, cells := 2, slots := 6, locals := 28 } : Room).cells ({ frames := 2, cells := 2, slots := 6, locals := 28 } : Room).slots s₁ (entryFrame m #[(.ref ax)] 1)
  rw [own_rm1_2_ef]
  obtain ⟨T1, h1, X1, e1, E1, A1, D1, -, st1⟩ := newO X0 hx hZ hown (hw _ (List.mem_of_getElem? (i := 5) rfl)) (hw _ (List.mem_of_getElem? (i := 6) rfl)) (hw _ (List.mem_of_getElem? (i := 3) rfl)) e0 (g := (mkF m 0 #[.val (.ref ax)] [])) rfl (hb hby own_d1_0) (by decide) (by decide)
  obtain ⟨b1, gq1⟩ : ∃ z, z = h0.size := ⟨_, rfl⟩
  rw [← gq1] at A1 D1 st1
  have g_b1 : n0 ≤ b1 := Nat.le_trans Z0 (Nat.le_of_eq gq1.symm)
  have Z1 : n0 ≤ h1.size := Nat.le_trans Z0 E1.1
  refine own_w (T' := T1) (g' := (mkF m 3 #[.val (.ref ax)] [(.ref b1)])) st1 ?_
  refine own_w (T' := T1) (g' := (mkF m 4 #[.val (.ref ax)] [(.ref b1), (.ref b1)])) (fun _ k_ => XS.dup X1.here hx rfl (hb hby own_d1_3) rfl rfl k_) ?_
  refine own_w (T' := T1) (g' := (mkF m 5 #[.val (.ref ax)] [(.ref ax), (.ref b1), (.ref b1)])) (fun _ k_ => XS.aloadN X1.here hx rfl (hb hby own_d1_4) rfl rfl k_) ?_
  obtain ⟨cl2, Ar2, hs2⟩ := id (own_Ar_ext Vx E1)
  obtain ⟨T2, h2, X2, e2, E2, A2, Xa2, st2⟩ := cloneA X1 hx hZ hown (hw _ (List.mem_of_getElem? (i := 7) rfl)) (hw _ (List.mem_of_getElem? (i := 8) rfl)) (hw _ (List.mem_of_getElem? (i := 12) rfl)) (hw _ (List.mem_of_getElem? (i := 10) rfl)) (hw _ (List.mem_of_getElem? (i := 11) rfl)) (hw _ (List.mem_of_getElem? (i := 13) rfl)) e1 Ar2 (Ex.ext E1) (own_fitc Ar2 hs2 hf) (g := (mkF m 5 #[.val (.ref ax)] [(.ref ax), (.ref b1), (.ref b1)])) rfl (by rw [hml]; rfl) rfl (hb hby own_d1_5) (by decide) (W := 2) (cap := 3) (by show 2 * 0 + _ ≤ _; exact Nat.le_of_eq rfl) (by decide) (by rw [hs2]; simp) (by decide) (by decide)
  obtain ⟨b2, gq2⟩ : ∃ z, z = h1.size := ⟨_, rfl⟩
  rw [← gq2] at A2 Xa2 st2
  have V_b2 : own_Ar Z h2 b2 _ _ := ⟨_, A2, hs2⟩
  have X_b2 := Xa2
  have g_b2 : n0 ≤ b2 := Nat.le_trans Z1 (Nat.le_of_eq gq2.symm)
  have Z2 : n0 ≤ h2.size := Nat.le_trans Z1 E2.1
  refine own_w (T' := T2) (g' := (mkF m 8 #[.val (.ref ax)] [(.ref b2), (.ref b1), (.ref b1)])) st2 ?_
  obtain ⟨T3, X3, e3, st3⟩ := castY X2 hx hZ hown (hw _ (List.mem_of_getElem? (i := 14) rfl)) e2 (Ins.self X_b2) (g := (mkF m 8 #[.val (.ref ax)] [(.ref b2), (.ref b1), (.ref b1)])) rfl rfl (hb hby own_d1_8)
  refine own_w (T' := T3) (g' := (mkF m 11 #[.val (.ref ax)] [(.ref b2), (.ref b1), (.ref b1)])) st3 ?_
  refine own_w (T' := T3) (g' := (mkF m 12 #[.val (.ref ax)] [(.int (0 : Int32)), (.ref b2), (.ref b1), (.ref b1)])) (fun _ k_ => XS.iconst X3.here hx rfl (hb hby own_d1_11) k_) ?_
  refine own_w (T' := T3) (g' := (mkF m 13 #[.val (.ref ax)] [(.ref ax), (.int (0 : Int32)), (.ref b2), (.ref b1), (.ref b1)])) (fun _ k_ => XS.aloadN X3.here hx rfl (hb hby own_d1_12) rfl rfl k_) ?_
  obtain ⟨cl4, Ar4, hs4⟩ := id (own_Ar_ext (own_Ar_ext Vx E1) E2)
  have hl4 : cl4.slots.size.toInt32 = (2 : Int32) := by rw [hs4]; rfl
  refine own_w (T' := T3) (g' := (mkF m 14 #[.val (.ref ax)] [(.int (2 : Int32)), (.int (0 : Int32)), (.ref b2), (.ref b1), (.ref b1)])) (fun t_ k_ => X3.arraylength hx (by rw [e3]; exact Ar4.1) (State.isArrayOf_alike hZ.alike Ar4.2.1) (g := (mkF m 13 #[.val (.ref ax)] [(.ref ax), (.int (0 : Int32)), (.ref b2), (.ref b1), (.ref b1)])) rfl rfl (hb hby own_d1_13) t_ (by rw [hl4]; exact k_)) ?_
  obtain ⟨_, _, ⟨T5, L5, k5, n5⟩, -, X5, ⟨Lc5, hQ5, l5, y5, z5⟩, st5⟩ := X3.specialBack hx (y := (⟨"com/example/adjacency/adjacency/wire/PrefixedBytes", "<init>", "([BII)V"⟩ : MethodName)) rfl hown (mvT hZ (hw _ (List.mem_of_getElem? (i := 16) rfl))) (mvT hZ (hw _ (List.mem_of_getElem? (i := 17) rfl))) (mvT hZ (hw _ (List.mem_of_getElem? (i := 18) rfl))) (by decide) (backOf (W := 1) (own_rm2 l Z a0 hw [] b1 b2 (0 : Int32) (2 : Int32) _ _ _ h2 n0 Z2 ((D1 (Or.inr (hw _ (List.mem_of_getElem? (i := 23) rfl))) (ty := (.array .byte)) (by decide)).ext E2) ((D1 (Or.inr (hw _ (List.mem_of_getElem? (i := 25) rfl))) (ty := .int) (by decide)).ext E2) ((D1 (Or.inr (hw _ (List.mem_of_getElem? (i := 27) rfl))) (ty := .int) (by decide)).ext E2) (A1.ext E2) g_b1) hZ (hw _ (List.mem_of_getElem? (i := 18) rfl)) (hw _ (List.mem_of_getElem? (i := 3) rfl)) (by decide) (by decide)) (g := (mkF m 14 #[.val (.ref ax)] [(.int (2 : Int32)), (.int (0 : Int32)), (.ref b2), (.ref b1), (.ref b1)])) rfl (by rw [hml]; rfl) (Steps.refl _) (a := b1) (argsL := [(.ref b2), (.int (0 : Int32)), (.int (2 : Int32))]) (rest := [(.ref b1)]) (lenOf own_pd4 rfl) rfl (by show 2 * 0 + _ ≤ _; exact Nat.le_of_eq rfl) (hb hby own_d1_14) (fun _ _ => ⟨rfl, e3, (by decide : 2 + 0 ≤ _), (by decide : 6 + 0 ≤ _)⟩)
  dsimp only [Pt.U, Pt.locs, Pt.cells, Pt.slots] at X5 l5 y5 z5 st5 hQ5
  subst l5 y5 z5
  obtain ⟨h5, e5⟩ : ∃ h, T5.heap = h := ⟨_, rfl⟩
  rw [e5] at hQ5
  obtain ⟨rfl, N5q, K5, P50, P51, P52⟩ := hQ5
  have N5 := Fr.app N0 N5q
  refine own_t (T' := T5) (g' := (mkF m 17 #[.val (.ref ax)] [(.ref b1)])) st5 ?_
  have lt : b1 < b2 := Nat.lt_of_lt_of_le A1.lt (Nat.le_of_eq gq2.symm)
  have KA : Keep h0 h5 [] := (((Keep.refl h0 []).ext E1).ext E2).trans K5 (fun x hx => Or.inr (by have q := List.mem_singleton.mp hx; rw [q]; exact Nat.le_of_eq gq1.symm))
  have VA := own_Ar_keep V_b2 K5 (by simpa using Nat.ne_of_gt lt)
  have XA := X_b2.keep K5
  have EA := (A1.ext E2).keep K5
  obtain ⟨fs, hr, hrun, hended, hW, hsame⟩ := X5.leave (v := some (.ref b1)) (fun h => by rw [Bd.returns] at h; cases h)
  exact ⟨_, _, retOut X5 hx Bd.returns rfl (Or.inr (Or.inr (Or.inr (Or.inr ⟨rfl, rfl, rfl⟩)))) (hb hby own_d1_17) hr, hrun, hended, _, _, rfl, (by show own_Q1_2 Z ax x0 x1 h0 n0 _ T5.heap _; rw [e5]; exact ⟨(by rw [gq1]), N5, KA, gq1 ▸ EA, ⟨b2, gq1 ▸ lt, gq1 ▸ P50, gq1 ▸ P51, gq1 ▸ P52, VA, XA⟩⟩), ⟨_, rfl⟩, hW, hsame.mono (by decide) (by decide)⟩
theorem own_d4_44 : decode method_3_code 44 = .ok (.aload_n 0, 1) := by decide +kernel
theorem own_d4_45 : decode method_3_code 45 = .ok (.iconst 2, 1) := by decide +kernel
theorem own_d4_46 : decode method_3_code 46 = .ok (.baload, 1) := by decide +kernel
theorem own_d4_47 : decode method_3_code 47 = .ok (.aload_n 1, 1) := by decide +kernel
theorem own_d4_48 : decode method_3_code 48 = .ok (.iconst 2, 1) := by decide +kernel
theorem own_d4_49 : decode method_3_code 49 = .ok (.baload, 1) := by decide +kernel
theorem own_d4_50 : decode method_3_code 50 = .ok (.if_icmp .eq 5, 3) := by decide +kernel
theorem own_d4_53 : decode method_3_code 53 = .ok (.iconst 0, 1) := by decide +kernel
theorem own_d4_54 : decode method_3_code 54 = .ok (.ireturn, 1) := by decide +kernel
theorem own_rm4_3_ef (m : MethodId) (ax : Addr) (ay : Addr) : entryFrame m #[(.ref ax), (.ref ay), (.int (3 : Int32))] 3 = mkF m 0 #[.val (.ref ax), .val (.ref ay), .val (.int (3 : Int32))] [] := by first | (simp [entryFrame, mkF, argsToLocals, Value.category]; done) | rfl
def own_Q4_3 (Z : State) (ax : Addr) (ay : Addr) (x0 : Int32) (x1 : Int32) (x2 : Int32) (y0 : Int32) (y1 : Int32) (y2 : Int32) (h0 : Heap) (n0 : Nat) (v_ : Option Value) (h : Heap) (L_ : List Loc) : Prop := v_ = some (.int (if ([x0, x1, x2] = [y0, y1, y2]) then (1 : Int32) else 0)) ∧ Fr n0 L_ ∧ (h = h0)
set_option maxRecDepth 65536 in
set_option maxHeartbeats 40000000 in
theorem own_rm4_3 (l : Launch) (Z : State) (a0 : Array Value) (hw : ∀ d ∈ tables_1, d.before a0 Z = true) (ws : List Jvm.Cond) (ax : Addr) (ay : Addr) (x0 : Int32) (x1 : Int32) (x2 : Int32) (y0 : Int32) (y1 : Int32) (y2 : Int32) (h0 : Heap) (n0 : Nat) (Z0 : n0 ≤ h0.size) (Vx : own_Ar Z h0 ax .byte [x0, x1, x2]) (Vy : own_Ar Z h0 ay .byte [y0, y1, y2]) :
    MetFree l (⟨"com/example/adjacency/adjacency/wire/PrefixedBytesCopyOfPinLaw", "same", "([B[BI)Z"⟩ : MethodName) (head1 (Jvm.Cond.code (⟨"com/example/adjacency/adjacency/wire/PrefixedBytesCopyOfPinLaw", "same", "([B[BI)Z"⟩ : MethodName) method_3_code 3 (some .boolean) :: ws) ({ frames := 0, cells := 0, slots := 0, locals := 0 } : Room)) (fun a_ U_ => a_ = #[(.ref ax), (.ref ay), (.int (3 : Int32))] ∧ Z.Warmed39 U_.vm ∧ U_.heap = h0) (fun _ _ _ _ _ => True) (fun _ U_ o_ V_ => ∃ v_ L_, o_ = .returned v_ ∧ own_Q4_3 Z ax ay x0 x1 x2 y0 y1 y2 h0 n0 v_ V_.heap L_ ∧ FrameEnd U_ o_ V_ L_ ({ frames := 0, cells := 0, slots := 0, locals := 0 } : Room).cells ({ frames := 0, cells := 0, slots := 0, locals := 0 } : Room).slots) := by
  refine MetFree.of_bodySF (plainFor_of_name own_pn_com_example_adjacency_adjacency_wire_PrefixedBytesCopyOfPinLaw) hisR ?_
  intro p e s m args below meth c s₁ Bd hml0 hP hK
  obtain ⟨rfl, hZ, hh⟩ := hP
  have hx := Bd.exec
  have hby := Bd.bytes
  have hml : c.maxLocals = 3 := hml0
  have hown : s.vm.findClass "com/example/adjacency/adjacency/wire/PrefixedBytesCopyOfPinLaw" = some m.cls := findClass_of_methodNamed Bd.named
  have hnm := (name_of_methodNamed Bd.named Bd.method).1
  have X0 : Stand p l e ({ frames := 0, cells := 0, slots := 0, locals := 0 } : Room) s m #[(.ref ax), (.ref ay), (.int (3 : Int32))] below meth c s₁ [] 0 0 := Stand.of_body Bd
  have e0 : s₁.heap = h0 := by rw [← hh, Bd.state]; rfl
  have N0 := Fr.nil n0
  show own_G p e below s (own_Q4_3 Z ax ay x0 x1 x2 y0 y1 y2 h0 n0) ({ frames := 0, cells := 0, slots := 0, locals := 0 } : Room).cells ({ frames := 0, cells := 0, slots := 0, locals := 0 } : Room).slots s₁ (entryFrame m #[(.ref ax), (.ref ay), (.int (3 : Int32))] 3)
  rw [own_rm4_3_ef]
  refine own_w (T' := s₁) (g' := (mkF m 1 #[.val (.ref ax), .val (.ref ay), .val (.int (3 : Int32))] [(.ref ax)])) (fun _ k_ => XS.aloadN X0.here hx rfl (hb hby own_d4_0) rfl rfl k_) ?_
  obtain ⟨cl1, Ar1, hs1⟩ := id Vx
  have hl1 : cl1.slots.size.toInt32 = (3 : Int32) := by rw [hs1]; rfl
  refine own_w (T' := s₁) (g' := (mkF m 2 #[.val (.ref ax), .val (.ref ay), .val (.int (3 : Int32))] [(.int (3 : Int32))])) (fun t_ k_ => X0.arraylength hx (by rw [e0]; exact Ar1.1) (State.isArrayOf_alike hZ.alike Ar1.2.1) (g := (mkF m 1 #[.val (.ref ax), .val (.ref ay), .val (.int (3 : Int32))] [(.ref ax)])) rfl rfl (hb hby own_d4_1) t_ (by rw [hl1]; exact k_)) ?_
  refine own_w (T' := s₁) (g' := (mkF m 3 #[.val (.ref ax), .val (.ref ay), .val (.int (3 : Int32))] [(.int (3 : Int32)), (.int (3 : Int32))])) (fun _ k_ => XS.iloadN X0.here hx rfl (hb hby own_d4_2) rfl k_) ?_
  refine own_w (T' := s₁) (g' := (mkF m 8 #[.val (.ref ax), .val (.ref ay), .val (.int (3 : Int32))] [])) (fun _ k_ => XS.icmpYes X0.here hx rfl (pc0 := 3) (pc' := 8) rfl (hb hby own_d4_3) rfl (teq (by decide)).1 (by decide) (by decide) k_) ?_
  refine own_w (T' := s₁) (g' := (mkF m 9 #[.val (.ref ax), .val (.ref ay), .val (.int (3 : Int32))] [(.int (3 : Int32))])) (fun _ k_ => XS.iloadN X0.here hx rfl (hb hby own_d4_8) rfl k_) ?_
  refine own_w (T' := s₁) (g' := (mkF m 12 #[.val (.ref ax), .val (.ref ay), .val (.int (3 : Int32))] [])) (fun _ k_ => XS.ifNo X0.here hx rfl (hb hby own_d4_9) rfl ((if0 _ _).trans (tlt (by decide)).2.2.2) k_) ?_
  refine own_w (T' := s₁) (g' := (mkF m 13 #[.val (.ref ax), .val (.ref ay), .val (.int (3 : Int32))] [(.ref ax)])) (fun _ k_ => XS.aloadN X0.here hx rfl (hb hby own_d4_12) rfl rfl k_) ?_
  refine own_w (T' := s₁) (g' := (mkF m 14 #[.val (.ref ax), .val (.ref ay), .val (.int (3 : Int32))] [(.int (0 : Int32)), (.ref ax)])) (fun _ k_ => XS.iconst X0.here hx rfl (hb hby own_d4_13) k_) ?_
  obtain ⟨cl2, Ar2, hs2⟩ := id Vx
  refine own_w (T' := s₁) (g' := (mkF m 15 #[.val (.ref ax), .val (.ref ay), .val (.int (3 : Int32))] [(.int x0)])) (fun t_ k_ => X0.baloadBytes hx (j := (0 : Int32)) (v := .int x0) (by rw [e0]; exact Ar2.1) (State.isArrayOf_alike hZ.alike Ar2.2.1) Ar2.2.2 (own_Ar_in (i := 0) hs2 (by decide) (own_get_lt (show _ = some x0 from rfl))) (own_Ar_at (i := 0) hs2 (by decide) (show _ = some x0 from rfl)) (g := (mkF m 14 #[.val (.ref ax), .val (.ref ay), .val (.int (3 : Int32))] [(.int (0 : Int32)), (.ref ax)])) rfl rfl (hb hby own_d4_14) t_ k_) ?_
  refine own_w (T' := s₁) (g' := (mkF m 16 #[.val (.ref ax), .val (.ref ay), .val (.int (3 : Int32))] [(.ref ay), (.int x0)])) (fun _ k_ => XS.aloadN X0.here hx rfl (hb hby own_d4_15) rfl rfl k_) ?_
  refine own_w (T' := s₁) (g' := (mkF m 17 #[.val (.ref ax), .val (.ref ay), .val (.int (3 : Int32))] [(.int (0 : Int32)), (.ref ay), (.int x0)])) (fun _ k_ => XS.iconst X0.here hx rfl (hb hby own_d4_16) k_) ?_
  obtain ⟨cl3, Ar3, hs3⟩ := id Vy
  refine own_w (T' := s₁) (g' := (mkF m 18 #[.val (.ref ax), .val (.ref ay), .val (.int (3 : Int32))] [(.int y0), (.int x0)])) (fun t_ k_ => X0.baloadBytes hx (j := (0 : Int32)) (v := .int y0) (by rw [e0]; exact Ar3.1) (State.isArrayOf_alike hZ.alike Ar3.2.1) Ar3.2.2 (own_Ar_in (i := 0) hs3 (by decide) (own_get_lt (show _ = some y0 from rfl))) (own_Ar_at (i := 0) hs3 (by decide) (show _ = some y0 from rfl)) (g := (mkF m 17 #[.val (.ref ax), .val (.ref ay), .val (.int (3 : Int32))] [(.int (0 : Int32)), (.ref ay), (.int x0)])) rfl rfl (hb hby own_d4_17) t_ k_) ?_
  by_cases hc18 : x0 = y0
  · refine own_w (T' := s₁) (g' := (mkF m 23 #[.val (.ref ax), .val (.ref ay), .val (.int (3 : Int32))] [])) (fun _ k_ => XS.icmpYes X0.here hx rfl (pc0 := 18) (pc' := 23) rfl (hb hby own_d4_18) rfl (teq hc18).1 (by decide) (by decide) k_) ?_
    refine own_w (T' := s₁) (g' := (mkF m 24 #[.val (.ref ax), .val (.ref ay), .val (.int (3 : Int32))] [(.int (3 : Int32))])) (fun _ k_ => XS.iloadN X0.here hx rfl (hb hby own_d4_23) rfl k_) ?_
    refine own_w (T' := s₁) (g' := (mkF m 25 #[.val (.ref ax), .val (.ref ay), .val (.int (3 : Int32))] [(.int (1 : Int32)), (.int (3 : Int32))])) (fun _ k_ => XS.iconst X0.here hx rfl (hb hby own_d4_24) k_) ?_
    refine own_w (T' := s₁) (g' := (mkF m 28 #[.val (.ref ax), .val (.ref ay), .val (.int (3 : Int32))] [])) (fun _ k_ => XS.icmpNo X0.here hx rfl (hb hby own_d4_25) rfl (tlt (by decide)).2.2.2 k_) ?_
    refine own_w (T' := s₁) (g' := (mkF m 29 #[.val (.ref ax), .val (.ref ay), .val (.int (3 : Int32))] [(.ref ax)])) (fun _ k_ => XS.aloadN X0.here hx rfl (hb hby own_d4_28) rfl rfl k_) ?_
    refine own_w (T' := s₁) (g' := (mkF m 30 #[.val (.ref ax), .val (.ref ay), .val (.int (3 : Int32))] [(.int (1 : Int32)), (.ref ax)])) (fun _ k_ => XS.iconst X0.here hx rfl (hb hby own_d4_29) k_) ?_
    obtain ⟨cl4, Ar4, hs4⟩ := id Vx
    refine own_w (T' := s₁) (g' := (mkF m 31 #[.val (.ref ax), .val (.ref ay), .val (.int (3 : Int32))] [(.int x1)])) (fun t_ k_ => X0.baloadBytes hx (j := (1 : Int32)) (v := .int x1) (by rw [e0]; exact Ar4.1) (State.isArrayOf_alike hZ.alike Ar4.2.1) Ar4.2.2 (own_Ar_in (i := 1) hs4 (by decide) (own_get_lt (show _ = some x1 from rfl))) (own_Ar_at (i := 1) hs4 (by decide) (show _ = some x1 from rfl)) (g := (mkF m 30 #[.val (.ref ax), .val (.ref ay), .val (.int (3 : Int32))] [(.int (1 : Int32)), (.ref ax)])) rfl rfl (hb hby own_d4_30) t_ k_) ?_
    refine own_w (T' := s₁) (g' := (mkF m 32 #[.val (.ref ax), .val (.ref ay), .val (.int (3 : Int32))] [(.ref ay), (.int x1)])) (fun _ k_ => XS.aloadN X0.here hx rfl (hb hby own_d4_31) rfl rfl k_) ?_
    refine own_w (T' := s₁) (g' := (mkF m 33 #[.val (.ref ax), .val (.ref ay), .val (.int (3 : Int32))] [(.int (1 : Int32)), (.ref ay), (.int x1)])) (fun _ k_ => XS.iconst X0.here hx rfl (hb hby own_d4_32) k_) ?_
    obtain ⟨cl5, Ar5, hs5⟩ := id Vy
    refine own_w (T' := s₁) (g' := (mkF m 34 #[.val (.ref ax), .val (.ref ay), .val (.int (3 : Int32))] [(.int y1), (.int x1)])) (fun t_ k_ => X0.baloadBytes hx (j := (1 : Int32)) (v := .int y1) (by rw [e0]; exact Ar5.1) (State.isArrayOf_alike hZ.alike Ar5.2.1) Ar5.2.2 (own_Ar_in (i := 1) hs5 (by decide) (own_get_lt (show _ = some y1 from rfl))) (own_Ar_at (i := 1) hs5 (by decide) (show _ = some y1 from rfl)) (g := (mkF m 33 #[.val (.ref ax), .val (.ref ay), .val (.int (3 : Int32))] [(.int (1 : Int32)), (.ref ay), (.int x1)])) rfl rfl (hb hby own_d4_33) t_ k_) ?_
    by_cases hc34 : x1 = y1
    · refine own_w (T' := s₁) (g' := (mkF m 39 #[.val (.ref ax), .val (.ref ay), .val (.int (3 : Int32))] [])) (fun _ k_ => XS.icmpYes X0.here hx rfl (pc0 := 34) (pc' := 39) rfl (hb hby own_d4_34) rfl (teq hc34).1 (by decide) (by decide) k_) ?_
      refine own_w (T' := s₁) (g' := (mkF m 40 #[.val (.ref ax), .val (.ref ay), .val (.int (3 : Int32))] [(.int (3 : Int32))])) (fun _ k_ => XS.iloadN X0.here hx rfl (hb hby own_d4_39) rfl k_) ?_
      refine own_w (T' := s₁) (g' := (mkF m 41 #[.val (.ref ax), .val (.ref ay), .val (.int (3 : Int32))] [(.int (2 : Int32)), (.int (3 : Int32))])) (fun _ k_ => XS.iconst X0.here hx rfl (hb hby own_d4_40) k_) ?_
      refine own_w (T' := s₁) (g' := (mkF m 44 #[.val (.ref ax), .val (.ref ay), .val (.int (3 : Int32))] [])) (fun _ k_ => XS.icmpNo X0.here hx rfl (hb hby own_d4_41) rfl (tlt (by decide)).2.2.2 k_) ?_
      refine own_w (T' := s₁) (g' := (mkF m 45 #[.val (.ref ax), .val (.ref ay), .val (.int (3 : Int32))] [(.ref ax)])) (fun _ k_ => XS.aloadN X0.here hx rfl (hb hby own_d4_44) rfl rfl k_) ?_
      refine own_w (T' := s₁) (g' := (mkF m 46 #[.val (.ref ax), .val (.ref ay), .val (.int (3 : Int32))] [(.int (2 : Int32)), (.ref ax)])) (fun _ k_ => XS.iconst X0.here hx rfl (hb hby own_d4_45) k_) ?_
      obtain ⟨cl6, Ar6, hs6⟩ := id Vx
      refine own_w (T' := s₁) (g' := (mkF m 47 #[.val (.ref ax), .val (.ref ay), .val (.int (3 : Int32))] [(.int x2)])) (fun t_ k_ => X0.baloadBytes hx (j := (2 : Int32)) (v := .int x2) (by rw [e0]; exact Ar6.1) (State.isArrayOf_alike hZ.alike Ar6.2.1) Ar6.2.2 (own_Ar_in (i := 2) hs6 (by decide) (own_get_lt (show _ = some x2 from rfl))) (own_Ar_at (i := 2) hs6 (by decide) (show _ = some x2 from rfl)) (g := (mkF m 46 #[.val (.ref ax), .val (.ref ay), .val (.int (3 : Int32))] [(.int (2 : Int32)), (.ref ax)])) rfl rfl (hb hby own_d4_46) t_ k_) ?_
      refine own_w (T' := s₁) (g' := (mkF m 48 #[.val (.ref ax), .val (.ref ay), .val (.int (3 : Int32))] [(.ref ay), (.int x2)])) (fun _ k_ => XS.aloadN X0.here hx rfl (hb hby own_d4_47) rfl rfl k_) ?_
      refine own_w (T' := s₁) (g' := (mkF m 49 #[.val (.ref ax), .val (.ref ay), .val (.int (3 : Int32))] [(.int (2 : Int32)), (.ref ay), (.int x2)])) (fun _ k_ => XS.iconst X0.here hx rfl (hb hby own_d4_48) k_) ?_
      obtain ⟨cl7, Ar7, hs7⟩ := id Vy
      refine own_w (T' := s₁) (g' := (mkF m 50 #[.val (.ref ax), .val (.ref ay), .val (.int (3 : Int32))] [(.int y2), (.int x2)])) (fun t_ k_ => X0.baloadBytes hx (j := (2 : Int32)) (v := .int y2) (by rw [e0]; exact Ar7.1) (State.isArrayOf_alike hZ.alike Ar7.2.1) Ar7.2.2 (own_Ar_in (i := 2) hs7 (by decide) (own_get_lt (show _ = some y2 from rfl))) (own_Ar_at (i := 2) hs7 (by decide) (show _ = some y2 from rfl)) (g := (mkF m 49 #[.val (.ref ax), .val (.ref ay), .val (.int (3 : Int32))] [(.int (2 : Int32)), (.ref ay), (.int x2)])) rfl rfl (hb hby own_d4_49) t_ k_) ?_
      by_cases hc50 : x2 = y2
      · refine own_w (T' := s₁) (g' := (mkF m 55 #[.val (.ref ax), .val (.ref ay), .val (.int (3 : Int32))] [])) (fun _ k_ => XS.icmpYes X0.here hx rfl (pc0 := 50) (pc' := 55) rfl (hb hby own_d4_50) rfl (teq hc50).1 (by decide) (by decide) k_) ?_
        refine own_w (T' := s₁) (g' := (mkF m 56 #[.val (.ref ax), .val (.ref ay), .val (.int (3 : Int32))] [(.int (1 : Int32))])) (fun _ k_ => XS.iconst X0.here hx rfl (hb hby own_d4_55) k_) ?_
        obtain ⟨fs, hr, hrun, hended, hW, hsame⟩ := X0.leave (v := some (.int (1 : Int32))) (fun h => by rw [Bd.returns] at h; cases h)
        exact ⟨_, _, retOut X0 hx Bd.returns rfl (Or.inl ⟨rfl, Or.inr (Or.inl rfl), _, rfl⟩) (hb hby own_d4_56) hr, hrun, hended, _, _, rfl, (by show own_Q4_3 Z ax ay x0 x1 x2 y0 y1 y2 h0 n0 _ s₁.heap _; rw [e0]; exact ⟨(by simp [hc18, hc34, hc50]), N0, rfl⟩), ⟨_, rfl⟩, hW, hsame.mono (by decide) (by decide)⟩
      · refine own_w (T' := s₁) (g' := (mkF m 53 #[.val (.ref ax), .val (.ref ay), .val (.int (3 : Int32))] [])) (fun _ k_ => XS.icmpNo X0.here hx rfl (hb hby own_d4_50) rfl (feq hc50).1 k_) ?_
        refine own_w (T' := s₁) (g' := (mkF m 54 #[.val (.ref ax), .val (.ref ay), .val (.int (3 : Int32))] [(.int (0 : Int32))])) (fun _ k_ => XS.iconst X0.here hx rfl (hb hby own_d4_53) k_) ?_
        obtain ⟨fs, hr, hrun, hended, hW, hsame⟩ := X0.leave (v := some (.int (0 : Int32))) (fun h => by rw [Bd.returns] at h; cases h)
        exact ⟨_, _, retOut X0 hx Bd.returns rfl (Or.inl ⟨rfl, Or.inr (Or.inl rfl), _, rfl⟩) (hb hby own_d4_54) hr, hrun, hended, _, _, rfl, (by show own_Q4_3 Z ax ay x0 x1 x2 y0 y1 y2 h0 n0 _ s₁.heap _; rw [e0]; exact ⟨(by simp [hc18, hc34, hc50]), N0, rfl⟩), ⟨_, rfl⟩, hW, hsame.mono (by decide) (by decide)⟩
    · refine own_w (T' := s₁) (g' := (mkF m 37 #[.val (.ref ax), .val (.ref ay), .val (.int (3 : Int32))] [])) (fun _ k_ => XS.icmpNo X0.here hx rfl (hb hby own_d4_34) rfl (feq hc34).1 k_) ?_
      refine own_w (T' := s₁) (g' := (mkF m 38 #[.val (.ref ax), .val (.ref ay), .val (.int (3 : Int32))] [(.int (0 : Int32))])) (fun _ k_ => XS.iconst X0.here hx rfl (hb hby own_d4_37) k_) ?_
      obtain ⟨fs, hr, hrun, hended, hW, hsame⟩ := X0.leave (v := some (.int (0 : Int32))) (fun h => by rw [Bd.returns] at h; cases h)
      exact ⟨_, _, retOut X0 hx Bd.returns rfl (Or.inl ⟨rfl, Or.inr (Or.inl rfl), _, rfl⟩) (hb hby own_d4_38) hr, hrun, hended, _, _, rfl, (by show own_Q4_3 Z ax ay x0 x1 x2 y0 y1 y2 h0 n0 _ s₁.heap _; rw [e0]; exact ⟨(by simp [hc18, hc34]), N0, rfl⟩), ⟨_, rfl⟩, hW, hsame.mono (by decide) (by decide)⟩
  · refine own_w (T' := s₁) (g' := (mkF m 21 #[.val (.ref ax), .val (.ref ay), .val (.int (3 : Int32))] [])) (fun _ k_ => XS.icmpNo X0.here hx rfl (hb hby own_d4_18) rfl (feq hc18).1 k_) ?_
    refine own_w (T' := s₁) (g' := (mkF m 22 #[.val (.ref ax), .val (.ref ay), .val (.int (3 : Int32))] [(.int (0 : Int32))])) (fun _ k_ => XS.iconst X0.here hx rfl (hb hby own_d4_21) k_) ?_
    obtain ⟨fs, hr, hrun, hended, hW, hsame⟩ := X0.leave (v := some (.int (0 : Int32))) (fun h => by rw [Bd.returns] at h; cases h)
    exact ⟨_, _, retOut X0 hx Bd.returns rfl (Or.inl ⟨rfl, Or.inr (Or.inl rfl), _, rfl⟩) (hb hby own_d4_22) hr, hrun, hended, _, _, rfl, (by show own_Q4_3 Z ax ay x0 x1 x2 y0 y1 y2 h0 n0 _ s₁.heap _; rw [e0]; exact ⟨(by simp [hc18]), N0, rfl⟩), ⟨_, rfl⟩, hW, hsame.mono (by decide) (by decide)⟩
theorem own_rm12_3_ef (m : MethodId) (ax : Addr) (ay : Addr) : entryFrame m #[(.ref ax), (.int (0 : Int32)), (.ref ay), (.int (0 : Int32)), (.int (3 : Int32))] 8 = mkF m 0 #[.val (.ref ax), .val (.int (0 : Int32)), .val (.ref ay), .val (.int (0 : Int32)), .val (.int (3 : Int32)), .unset, .unset, .unset] [] := by first | (simp [entryFrame, mkF, argsToLocals, Value.category]; done) | rfl
def own_Q12_3 (Z : State) (ax : Addr) (ay : Addr) (x0 : Int32) (x1 : Int32) (x2 : Int32) (y0 : Int32) (y1 : Int32) (y2 : Int32) (h0 : Heap) (n0 : Nat) (v_ : Option Value) (h : Heap) (L_ : List Loc) : Prop := v_ = some (.int (if x0 = y0 then (if x1 = y1 then (if x2 = y2 then (-1 : Int32) else (2 : Int32)) else (1 : Int32)) else (0 : Int32))) ∧ Fr n0 L_ ∧ (h = h0)
set_option maxRecDepth 65536 in
set_option maxHeartbeats 40000000 in
theorem own_rm12_3 (l : Launch) (Z : State) (a0 : Array Value) (hw : ∀ d ∈ tables_1, d.before a0 Z = true) (ws : List Jvm.Cond) (ax : Addr) (ay : Addr) (x0 : Int32) (x1 : Int32) (x2 : Int32) (y0 : Int32) (y1 : Int32) (y2 : Int32) (h0 : Heap) (n0 : Nat) (Z0 : n0 ≤ h0.size) (Vx : own_Ar Z h0 ax .byte [x0, x1, x2]) (Vy : own_Ar Z h0 ay .byte [y0, y1, y2]) :
    MetFree l (⟨"jdk/internal/util/ArraysSupport", "mismatch", "([BI[BII)I"⟩ : MethodName) (head1 (Jvm.Cond.code (⟨"jdk/internal/util/ArraysSupport", "mismatch", "([BI[BII)I"⟩ : MethodName) jdk_48_method_14_code 8 (some .int) :: ws) ({ frames := 0, cells := 0, slots := 0, locals := 0 } : Room)) (fun a_ U_ => a_ = #[(.ref ax), (.int (0 : Int32)), (.ref ay), (.int (0 : Int32)), (.int (3 : Int32))] ∧ Z.Warmed39 U_.vm ∧ U_.heap = h0) (fun _ _ _ _ _ => True) (fun _ U_ o_ V_ => ∃ v_ L_, o_ = .returned v_ ∧ own_Q12_3 Z ax ay x0 x1 x2 y0 y1 y2 h0 n0 v_ V_.heap L_ ∧ FrameEnd U_ o_ V_ L_ ({ frames := 0, cells := 0, slots := 0, locals := 0 } : Room).cells ({ frames := 0, cells := 0, slots := 0, locals := 0 } : Room).slots) := by
  refine MetFree.of_bodySF (plainFor_of_name own_pn_jdk_internal_util_ArraysSupport) hisR ?_
  intro p e s m args below meth c s₁ Bd hml0 hP hK
  obtain ⟨rfl, hZ, hh⟩ := hP
  have hx := Bd.exec
  have hby := Bd.bytes
  have hml : c.maxLocals = 8 := hml0
  have hown : s.vm.findClass "jdk/internal/util/ArraysSupport" = some m.cls := findClass_of_methodNamed Bd.named
  have hnm := (name_of_methodNamed Bd.named Bd.method).1
  have X0 : Stand p l e ({ frames := 0, cells := 0, slots := 0, locals := 0 } : Room) s m #[(.ref ax), (.int (0 : Int32)), (.ref ay), (.int (0 : Int32)), (.int (3 : Int32))] below meth c s₁ [] 0 0 := Stand.of_body Bd
  have e0 : s₁.heap = h0 := by rw [← hh, Bd.state]; rfl
  have N0 := Fr.nil n0
  show own_G p e below s (own_Q12_3 Z ax ay x0 x1 x2 y0 y1 y2 h0 n0) ({ frames := 0, cells := 0, slots := 0, locals := 0 } : Room).cells ({ frames := 0, cells := 0, slots := 0, locals := 0 } : Room).slots s₁ (entryFrame m #[(.ref ax), (.int (0 : Int32)), (.ref ay), (.int (0 : Int32)), (.int (3 : Int32))] 8)
  rw [own_rm12_3_ef]
  refine own_w (T' := s₁) (g' := (mkF m 1 #[.val (.ref ax), .val (.int (0 : Int32)), .val (.ref ay), .val (.int (0 : Int32)), .val (.int (3 : Int32)), .unset, .unset, .unset] [(.int (0 : Int32))])) (fun _ k_ => XS.iconst X0.here hx rfl (hb hby own_d12_0) k_) ?_
  refine own_w (T' := s₁) (g' := (mkF m 3 #[.val (.ref ax), .val (.int (0 : Int32)), .val (.ref ay), .val (.int (0 : Int32)), .val (.int (3 : Int32)), .val (.int (0 : Int32)), .unset, .unset] [])) (fun _ k_ => XS.istore X0.here hx rfl (hb hby own_d12_1) rfl (l' := #[.val (.ref ax), .val (.int (0 : Int32)), .val (.ref ay), .val (.int (0 : Int32)), .val (.int (3 : Int32)), .val (.int (0 : Int32)), .unset, .unset]) rfl k_) ?_
  refine own_w (T' := s₁) (g' := (mkF m 5 #[.val (.ref ax), .val (.int (0 : Int32)), .val (.ref ay), .val (.int (0 : Int32)), .val (.int (3 : Int32)), .val (.int (0 : Int32)), .unset, .unset] [(.int (3 : Int32))])) (fun _ k_ => XS.iload X0.here hx rfl (hb hby own_d12_3) rfl k_) ?_
  refine own_w (T' := s₁) (g' := (mkF m 7 #[.val (.ref ax), .val (.int (0 : Int32)), .val (.ref ay), .val (.int (0 : Int32)), .val (.int (3 : Int32)), .val (.int (0 : Int32)), .unset, .unset] [(.int (7 : Int32)), (.int (3 : Int32))])) (fun _ k_ => XS.bipush X0.here hx rfl (hb hby own_d12_5) k_) ?_
  refine own_w (T' := s₁) (g' := (mkF m 70 #[.val (.ref ax), .val (.int (0 : Int32)), .val (.ref ay), .val (.int (0 : Int32)), .val (.int (3 : Int32)), .val (.int (0 : Int32)), .unset, .unset] [])) (fun _ k_ => XS.icmpYes X0.here hx rfl (pc0 := 7) (pc' := 70) rfl (hb hby own_d12_7) rfl (flt (by decide)).2.2.2 (by decide) (by decide) k_) ?_
  refine own_w (T' := s₁) (g' := (mkF m 72 #[.val (.ref ax), .val (.int (0 : Int32)), .val (.ref ay), .val (.int (0 : Int32)), .val (.int (3 : Int32)), .val (.int (0 : Int32)), .unset, .unset] [(.int (0 : Int32))])) (fun _ k_ => XS.iload X0.here hx rfl (hb hby own_d12_70) rfl k_) ?_
  refine own_w (T' := s₁) (g' := (mkF m 74 #[.val (.ref ax), .val (.int (0 : Int32)), .val (.ref ay), .val (.int (0 : Int32)), .val (.int (3 : Int32)), .val (.int (0 : Int32)), .unset, .unset] [(.int (3 : Int32)), (.int (0 : Int32))])) (fun _ k_ => XS.iload X0.here hx rfl (hb hby own_d12_72) rfl k_) ?_
  refine own_w (T' := s₁) (g' := (mkF m 77 #[.val (.ref ax), .val (.int (0 : Int32)), .val (.ref ay), .val (.int (0 : Int32)), .val (.int (3 : Int32)), .val (.int (0 : Int32)), .unset, .unset] [])) (fun _ k_ => XS.icmpNo X0.here hx rfl (hb hby own_d12_74) rfl (tlt (by decide)).2.1 k_) ?_
  refine own_w (T' := s₁) (g' := (mkF m 78 #[.val (.ref ax), .val (.int (0 : Int32)), .val (.ref ay), .val (.int (0 : Int32)), .val (.int (3 : Int32)), .val (.int (0 : Int32)), .unset, .unset] [(.ref ax)])) (fun _ k_ => XS.aloadN X0.here hx rfl (hb hby own_d12_77) rfl rfl k_) ?_
  refine own_w (T' := s₁) (g' := (mkF m 79 #[.val (.ref ax), .val (.int (0 : Int32)), .val (.ref ay), .val (.int (0 : Int32)), .val (.int (3 : Int32)), .val (.int (0 : Int32)), .unset, .unset] [(.int (0 : Int32)), (.ref ax)])) (fun _ k_ => XS.iloadN X0.here hx rfl (hb hby own_d12_78) rfl k_) ?_
  refine own_w (T' := s₁) (g' := (mkF m 81 #[.val (.ref ax), .val (.int (0 : Int32)), .val (.ref ay), .val (.int (0 : Int32)), .val (.int (3 : Int32)), .val (.int (0 : Int32)), .unset, .unset] [(.int (0 : Int32)), (.int (0 : Int32)), (.ref ax)])) (fun _ k_ => XS.iload X0.here hx rfl (hb hby own_d12_79) rfl k_) ?_
  refine own_w (T' := s₁) (g' := (mkF m 82 #[.val (.ref ax), .val (.int (0 : Int32)), .val (.ref ay), .val (.int (0 : Int32)), .val (.int (3 : Int32)), .val (.int (0 : Int32)), .unset, .unset] [(.int (0 : Int32)), (.ref ax)])) (fun _ k_ => XS.iadd X0.here hx rfl (hb hby own_d12_81) rfl k_) ?_
  obtain ⟨cl1, Ar1, hs1⟩ := id Vx
  refine own_w (T' := s₁) (g' := (mkF m 83 #[.val (.ref ax), .val (.int (0 : Int32)), .val (.ref ay), .val (.int (0 : Int32)), .val (.int (3 : Int32)), .val (.int (0 : Int32)), .unset, .unset] [(.int x0)])) (fun t_ k_ => X0.baloadBytes hx (j := (0 : Int32)) (v := .int x0) (by rw [e0]; exact Ar1.1) (State.isArrayOf_alike hZ.alike Ar1.2.1) Ar1.2.2 (own_Ar_in (i := 0) hs1 (by decide) (own_get_lt (show _ = some x0 from rfl))) (own_Ar_at (i := 0) hs1 (by decide) (show _ = some x0 from rfl)) (g := (mkF m 82 #[.val (.ref ax), .val (.int (0 : Int32)), .val (.ref ay), .val (.int (0 : Int32)), .val (.int (3 : Int32)), .val (.int (0 : Int32)), .unset, .unset] [(.int (0 : Int32)), (.ref ax)])) rfl rfl (hb hby own_d12_82) t_ k_) ?_
  refine own_w (T' := s₁) (g' := (mkF m 84 #[.val (.ref ax), .val (.int (0 : Int32)), .val (.ref ay), .val (.int (0 : Int32)), .val (.int (3 : Int32)), .val (.int (0 : Int32)), .unset, .unset] [(.ref ay), (.int x0)])) (fun _ k_ => XS.aloadN X0.here hx rfl (hb hby own_d12_83) rfl rfl k_) ?_
  refine own_w (T' := s₁) (g' := (mkF m 85 #[.val (.ref ax), .val (.int (0 : Int32)), .val (.ref ay), .val (.int (0 : Int32)), .val (.int (3 : Int32)), .val (.int (0 : Int32)), .unset, .unset] [(.int (0 : Int32)), (.ref ay), (.int x0)])) (fun _ k_ => XS.iloadN X0.here hx rfl (hb hby own_d12_84) rfl k_) ?_
  refine own_w (T' := s₁) (g' := (mkF m 87 #[.val (.ref ax), .val (.int (0 : Int32)), .val (.ref ay), .val (.int (0 : Int32)), .val (.int (3 : Int32)), .val (.int (0 : Int32)), .unset, .unset] [(.int (0 : Int32)), (.int (0 : Int32)), (.ref ay), (.int x0)])) (fun _ k_ => XS.iload X0.here hx rfl (hb hby own_d12_85) rfl k_) ?_
  refine own_w (T' := s₁) (g' := (mkF m 88 #[.val (.ref ax), .val (.int (0 : Int32)), .val (.ref ay), .val (.int (0 : Int32)), .val (.int (3 : Int32)), .val (.int (0 : Int32)), .unset, .unset] [(.int (0 : Int32)), (.ref ay), (.int x0)])) (fun _ k_ => XS.iadd X0.here hx rfl (hb hby own_d12_87) rfl k_) ?_
  obtain ⟨cl2, Ar2, hs2⟩ := id Vy
  refine own_w (T' := s₁) (g' := (mkF m 89 #[.val (.ref ax), .val (.int (0 : Int32)), .val (.ref ay), .val (.int (0 : Int32)), .val (.int (3 : Int32)), .val (.int (0 : Int32)), .unset, .unset] [(.int y0), (.int x0)])) (fun t_ k_ => X0.baloadBytes hx (j := (0 : Int32)) (v := .int y0) (by rw [e0]; exact Ar2.1) (State.isArrayOf_alike hZ.alike Ar2.2.1) Ar2.2.2 (own_Ar_in (i := 0) hs2 (by decide) (own_get_lt (show _ = some y0 from rfl))) (own_Ar_at (i := 0) hs2 (by decide) (show _ = some y0 from rfl)) (g := (mkF m 88 #[.val (.ref ax), .val (.int (0 : Int32)), .val (.ref ay), .val (.int (0 : Int32)), .val (.int (3 : Int32)), .val (.int (0 : Int32)), .unset, .unset] [(.int (0 : Int32)), (.ref ay), (.int x0)])) rfl rfl (hb hby own_d12_88) t_ k_) ?_
  by_cases hc89 : x0 = y0
  · refine own_w (T' := s₁) (g' := (mkF m 95 #[.val (.ref ax), .val (.int (0 : Int32)), .val (.ref ay), .val (.int (0 : Int32)), .val (.int (3 : Int32)), .val (.int (0 : Int32)), .unset, .unset] [])) (fun _ k_ => XS.icmpYes X0.here hx rfl (pc0 := 89) (pc' := 95) rfl (hb hby own_d12_89) rfl (teq hc89).1 (by decide) (by decide) k_) ?_
    refine own_w (T' := s₁) (g' := (mkF m 98 #[.val (.ref ax), .val (.int (0 : Int32)), .val (.ref ay), .val (.int (0 : Int32)), .val (.int (3 : Int32)), .val (.int (1 : Int32)), .unset, .unset] [])) (fun _ k_ => XS.iinc X0.here hx rfl (hb hby own_d12_95) rfl (l' := #[.val (.ref ax), .val (.int (0 : Int32)), .val (.ref ay), .val (.int (0 : Int32)), .val (.int (3 : Int32)), .val (.int (1 : Int32)), .unset, .unset]) rfl k_) ?_
    refine own_w (T' := s₁) (g' := (mkF m 70 #[.val (.ref ax), .val (.int (0 : Int32)), .val (.ref ay), .val (.int (0 : Int32)), .val (.int (3 : Int32)), .val (.int (1 : Int32)), .unset, .unset] [])) (fun _ k_ => XS.goto X0.here hx rfl (pc0 := 98) (pc' := 70) rfl (hb hby own_d12_98) (by decide) (by decide) k_) ?_
    refine own_w (T' := s₁) (g' := (mkF m 72 #[.val (.ref ax), .val (.int (0 : Int32)), .val (.ref ay), .val (.int (0 : Int32)), .val (.int (3 : Int32)), .val (.int (1 : Int32)), .unset, .unset] [(.int (1 : Int32))])) (fun _ k_ => XS.iload X0.here hx rfl (hb hby own_d12_70) rfl k_) ?_
    refine own_w (T' := s₁) (g' := (mkF m 74 #[.val (.ref ax), .val (.int (0 : Int32)), .val (.ref ay), .val (.int (0 : Int32)), .val (.int (3 : Int32)), .val (.int (1 : Int32)), .unset, .unset] [(.int (3 : Int32)), (.int (1 : Int32))])) (fun _ k_ => XS.iload X0.here hx rfl (hb hby own_d12_72) rfl k_) ?_
    refine own_w (T' := s₁) (g' := (mkF m 77 #[.val (.ref ax), .val (.int (0 : Int32)), .val (.ref ay), .val (.int (0 : Int32)), .val (.int (3 : Int32)), .val (.int (1 : Int32)), .unset, .unset] [])) (fun _ k_ => XS.icmpNo X0.here hx rfl (hb hby own_d12_74) rfl (tlt (by decide)).2.1 k_) ?_
    refine own_w (T' := s₁) (g' := (mkF m 78 #[.val (.ref ax), .val (.int (0 : Int32)), .val (.ref ay), .val (.int (0 : Int32)), .val (.int (3 : Int32)), .val (.int (1 : Int32)), .unset, .unset] [(.ref ax)])) (fun _ k_ => XS.aloadN X0.here hx rfl (hb hby own_d12_77) rfl rfl k_) ?_
    refine own_w (T' := s₁) (g' := (mkF m 79 #[.val (.ref ax), .val (.int (0 : Int32)), .val (.ref ay), .val (.int (0 : Int32)), .val (.int (3 : Int32)), .val (.int (1 : Int32)), .unset, .unset] [(.int (0 : Int32)), (.ref ax)])) (fun _ k_ => XS.iloadN X0.here hx rfl (hb hby own_d12_78) rfl k_) ?_
    refine own_w (T' := s₁) (g' := (mkF m 81 #[.val (.ref ax), .val (.int (0 : Int32)), .val (.ref ay), .val (.int (0 : Int32)), .val (.int (3 : Int32)), .val (.int (1 : Int32)), .unset, .unset] [(.int (1 : Int32)), (.int (0 : Int32)), (.ref ax)])) (fun _ k_ => XS.iload X0.here hx rfl (hb hby own_d12_79) rfl k_) ?_
    refine own_w (T' := s₁) (g' := (mkF m 82 #[.val (.ref ax), .val (.int (0 : Int32)), .val (.ref ay), .val (.int (0 : Int32)), .val (.int (3 : Int32)), .val (.int (1 : Int32)), .unset, .unset] [(.int (1 : Int32)), (.ref ax)])) (fun _ k_ => XS.iadd X0.here hx rfl (hb hby own_d12_81) rfl k_) ?_
    obtain ⟨cl3, Ar3, hs3⟩ := id Vx
    refine own_w (T' := s₁) (g' := (mkF m 83 #[.val (.ref ax), .val (.int (0 : Int32)), .val (.ref ay), .val (.int (0 : Int32)), .val (.int (3 : Int32)), .val (.int (1 : Int32)), .unset, .unset] [(.int x1)])) (fun t_ k_ => X0.baloadBytes hx (j := (1 : Int32)) (v := .int x1) (by rw [e0]; exact Ar3.1) (State.isArrayOf_alike hZ.alike Ar3.2.1) Ar3.2.2 (own_Ar_in (i := 1) hs3 (by decide) (own_get_lt (show _ = some x1 from rfl))) (own_Ar_at (i := 1) hs3 (by decide) (show _ = some x1 from rfl)) (g := (mkF m 82 #[.val (.ref ax), .val (.int (0 : Int32)), .val (.ref ay), .val (.int (0 : Int32)), .val (.int (3 : Int32)), .val (.int (1 : Int32)), .unset, .unset] [(.int (1 : Int32)), (.ref ax)])) rfl rfl (hb hby own_d12_82) t_ k_) ?_
    refine own_w (T' := s₁) (g' := (mkF m 84 #[.val (.ref ax), .val (.int (0 : Int32)), .val (.ref ay), .val (.int (0 : Int32)), .val (.int (3 : Int32)), .val (.int (1 : Int32)), .unset, .unset] [(.ref ay), (.int x1)])) (fun _ k_ => XS.aloadN X0.here hx rfl (hb hby own_d12_83) rfl rfl k_) ?_
    refine own_w (T' := s₁) (g' := (mkF m 85 #[.val (.ref ax), .val (.int (0 : Int32)), .val (.ref ay), .val (.int (0 : Int32)), .val (.int (3 : Int32)), .val (.int (1 : Int32)), .unset, .unset] [(.int (0 : Int32)), (.ref ay), (.int x1)])) (fun _ k_ => XS.iloadN X0.here hx rfl (hb hby own_d12_84) rfl k_) ?_
    refine own_w (T' := s₁) (g' := (mkF m 87 #[.val (.ref ax), .val (.int (0 : Int32)), .val (.ref ay), .val (.int (0 : Int32)), .val (.int (3 : Int32)), .val (.int (1 : Int32)), .unset, .unset] [(.int (1 : Int32)), (.int (0 : Int32)), (.ref ay), (.int x1)])) (fun _ k_ => XS.iload X0.here hx rfl (hb hby own_d12_85) rfl k_) ?_
    refine own_w (T' := s₁) (g' := (mkF m 88 #[.val (.ref ax), .val (.int (0 : Int32)), .val (.ref ay), .val (.int (0 : Int32)), .val (.int (3 : Int32)), .val (.int (1 : Int32)), .unset, .unset] [(.int (1 : Int32)), (.ref ay), (.int x1)])) (fun _ k_ => XS.iadd X0.here hx rfl (hb hby own_d12_87) rfl k_) ?_
    obtain ⟨cl4, Ar4, hs4⟩ := id Vy
    refine own_w (T' := s₁) (g' := (mkF m 89 #[.val (.ref ax), .val (.int (0 : Int32)), .val (.ref ay), .val (.int (0 : Int32)), .val (.int (3 : Int32)), .val (.int (1 : Int32)), .unset, .unset] [(.int y1), (.int x1)])) (fun t_ k_ => X0.baloadBytes hx (j := (1 : Int32)) (v := .int y1) (by rw [e0]; exact Ar4.1) (State.isArrayOf_alike hZ.alike Ar4.2.1) Ar4.2.2 (own_Ar_in (i := 1) hs4 (by decide) (own_get_lt (show _ = some y1 from rfl))) (own_Ar_at (i := 1) hs4 (by decide) (show _ = some y1 from rfl)) (g := (mkF m 88 #[.val (.ref ax), .val (.int (0 : Int32)), .val (.ref ay), .val (.int (0 : Int32)), .val (.int (3 : Int32)), .val (.int (1 : Int32)), .unset, .unset] [(.int (1 : Int32)), (.ref ay), (.int x1)])) rfl rfl (hb hby own_d12_88) t_ k_) ?_
    by_cases hc89' : x1 = y1
    · refine own_w (T' := s₁) (g' := (mkF m 95 #[.val (.ref ax), .val (.int (0 : Int32)), .val (.ref ay), .val (.int (0 : Int32)), .val (.int (3 : Int32)), .val (.int (1 : Int32)), .unset, .unset] [])) (fun _ k_ => XS.icmpYes X0.here hx rfl (pc0 := 89) (pc' := 95) rfl (hb hby own_d12_89) rfl (teq hc89').1 (by decide) (by decide) k_) ?_
      refine own_w (T' := s₁) (g' := (mkF m 98 #[.val (.ref ax), .val (.int (0 : Int32)), .val (.ref ay), .val (.int (0 : Int32)), .val (.int (3 : Int32)), .val (.int (2 : Int32)), .unset, .unset] [])) (fun _ k_ => XS.iinc X0.here hx rfl (hb hby own_d12_95) rfl (l' := #[.val (.ref ax), .val (.int (0 : Int32)), .val (.ref ay), .val (.int (0 : Int32)), .val (.int (3 : Int32)), .val (.int (2 : Int32)), .unset, .unset]) rfl k_) ?_
      refine own_w (T' := s₁) (g' := (mkF m 70 #[.val (.ref ax), .val (.int (0 : Int32)), .val (.ref ay), .val (.int (0 : Int32)), .val (.int (3 : Int32)), .val (.int (2 : Int32)), .unset, .unset] [])) (fun _ k_ => XS.goto X0.here hx rfl (pc0 := 98) (pc' := 70) rfl (hb hby own_d12_98) (by decide) (by decide) k_) ?_
      refine own_w (T' := s₁) (g' := (mkF m 72 #[.val (.ref ax), .val (.int (0 : Int32)), .val (.ref ay), .val (.int (0 : Int32)), .val (.int (3 : Int32)), .val (.int (2 : Int32)), .unset, .unset] [(.int (2 : Int32))])) (fun _ k_ => XS.iload X0.here hx rfl (hb hby own_d12_70) rfl k_) ?_
      refine own_w (T' := s₁) (g' := (mkF m 74 #[.val (.ref ax), .val (.int (0 : Int32)), .val (.ref ay), .val (.int (0 : Int32)), .val (.int (3 : Int32)), .val (.int (2 : Int32)), .unset, .unset] [(.int (3 : Int32)), (.int (2 : Int32))])) (fun _ k_ => XS.iload X0.here hx rfl (hb hby own_d12_72) rfl k_) ?_
      refine own_w (T' := s₁) (g' := (mkF m 77 #[.val (.ref ax), .val (.int (0 : Int32)), .val (.ref ay), .val (.int (0 : Int32)), .val (.int (3 : Int32)), .val (.int (2 : Int32)), .unset, .unset] [])) (fun _ k_ => XS.icmpNo X0.here hx rfl (hb hby own_d12_74) rfl (tlt (by decide)).2.1 k_) ?_
      refine own_w (T' := s₁) (g' := (mkF m 78 #[.val (.ref ax), .val (.int (0 : Int32)), .val (.ref ay), .val (.int (0 : Int32)), .val (.int (3 : Int32)), .val (.int (2 : Int32)), .unset, .unset] [(.ref ax)])) (fun _ k_ => XS.aloadN X0.here hx rfl (hb hby own_d12_77) rfl rfl k_) ?_
      refine own_w (T' := s₁) (g' := (mkF m 79 #[.val (.ref ax), .val (.int (0 : Int32)), .val (.ref ay), .val (.int (0 : Int32)), .val (.int (3 : Int32)), .val (.int (2 : Int32)), .unset, .unset] [(.int (0 : Int32)), (.ref ax)])) (fun _ k_ => XS.iloadN X0.here hx rfl (hb hby own_d12_78) rfl k_) ?_
      refine own_w (T' := s₁) (g' := (mkF m 81 #[.val (.ref ax), .val (.int (0 : Int32)), .val (.ref ay), .val (.int (0 : Int32)), .val (.int (3 : Int32)), .val (.int (2 : Int32)), .unset, .unset] [(.int (2 : Int32)), (.int (0 : Int32)), (.ref ax)])) (fun _ k_ => XS.iload X0.here hx rfl (hb hby own_d12_79) rfl k_) ?_
      refine own_w (T' := s₁) (g' := (mkF m 82 #[.val (.ref ax), .val (.int (0 : Int32)), .val (.ref ay), .val (.int (0 : Int32)), .val (.int (3 : Int32)), .val (.int (2 : Int32)), .unset, .unset] [(.int (2 : Int32)), (.ref ax)])) (fun _ k_ => XS.iadd X0.here hx rfl (hb hby own_d12_81) rfl k_) ?_
      obtain ⟨cl5, Ar5, hs5⟩ := id Vx
      refine own_w (T' := s₁) (g' := (mkF m 83 #[.val (.ref ax), .val (.int (0 : Int32)), .val (.ref ay), .val (.int (0 : Int32)), .val (.int (3 : Int32)), .val (.int (2 : Int32)), .unset, .unset] [(.int x2)])) (fun t_ k_ => X0.baloadBytes hx (j := (2 : Int32)) (v := .int x2) (by rw [e0]; exact Ar5.1) (State.isArrayOf_alike hZ.alike Ar5.2.1) Ar5.2.2 (own_Ar_in (i := 2) hs5 (by decide) (own_get_lt (show _ = some x2 from rfl))) (own_Ar_at (i := 2) hs5 (by decide) (show _ = some x2 from rfl)) (g := (mkF m 82 #[.val (.ref ax), .val (.int (0 : Int32)), .val (.ref ay), .val (.int (0 : Int32)), .val (.int (3 : Int32)), .val (.int (2 : Int32)), .unset, .unset] [(.int (2 : Int32)), (.ref ax)])) rfl rfl (hb hby own_d12_82) t_ k_) ?_
      refine own_w (T' := s₁) (g' := (mkF m 84 #[.val (.ref ax), .val (.int (0 : Int32)), .val (.ref ay), .val (.int (0 : Int32)), .val (.int (3 : Int32)), .val (.int (2 : Int32)), .unset, .unset] [(.ref ay), (.int x2)])) (fun _ k_ => XS.aloadN X0.here hx rfl (hb hby own_d12_83) rfl rfl k_) ?_
      refine own_w (T' := s₁) (g' := (mkF m 85 #[.val (.ref ax), .val (.int (0 : Int32)), .val (.ref ay), .val (.int (0 : Int32)), .val (.int (3 : Int32)), .val (.int (2 : Int32)), .unset, .unset] [(.int (0 : Int32)), (.ref ay), (.int x2)])) (fun _ k_ => XS.iloadN X0.here hx rfl (hb hby own_d12_84) rfl k_) ?_
      refine own_w (T' := s₁) (g' := (mkF m 87 #[.val (.ref ax), .val (.int (0 : Int32)), .val (.ref ay), .val (.int (0 : Int32)), .val (.int (3 : Int32)), .val (.int (2 : Int32)), .unset, .unset] [(.int (2 : Int32)), (.int (0 : Int32)), (.ref ay), (.int x2)])) (fun _ k_ => XS.iload X0.here hx rfl (hb hby own_d12_85) rfl k_) ?_
      refine own_w (T' := s₁) (g' := (mkF m 88 #[.val (.ref ax), .val (.int (0 : Int32)), .val (.ref ay), .val (.int (0 : Int32)), .val (.int (3 : Int32)), .val (.int (2 : Int32)), .unset, .unset] [(.int (2 : Int32)), (.ref ay), (.int x2)])) (fun _ k_ => XS.iadd X0.here hx rfl (hb hby own_d12_87) rfl k_) ?_
      obtain ⟨cl6, Ar6, hs6⟩ := id Vy
      refine own_w (T' := s₁) (g' := (mkF m 89 #[.val (.ref ax), .val (.int (0 : Int32)), .val (.ref ay), .val (.int (0 : Int32)), .val (.int (3 : Int32)), .val (.int (2 : Int32)), .unset, .unset] [(.int y2), (.int x2)])) (fun t_ k_ => X0.baloadBytes hx (j := (2 : Int32)) (v := .int y2) (by rw [e0]; exact Ar6.1) (State.isArrayOf_alike hZ.alike Ar6.2.1) Ar6.2.2 (own_Ar_in (i := 2) hs6 (by decide) (own_get_lt (show _ = some y2 from rfl))) (own_Ar_at (i := 2) hs6 (by decide) (show _ = some y2 from rfl)) (g := (mkF m 88 #[.val (.ref ax), .val (.int (0 : Int32)), .val (.ref ay), .val (.int (0 : Int32)), .val (.int (3 : Int32)), .val (.int (2 : Int32)), .unset, .unset] [(.int (2 : Int32)), (.ref ay), (.int x2)])) rfl rfl (hb hby own_d12_88) t_ k_) ?_
      by_cases hc89'' : x2 = y2
      · refine own_w (T' := s₁) (g' := (mkF m 95 #[.val (.ref ax), .val (.int (0 : Int32)), .val (.ref ay), .val (.int (0 : Int32)), .val (.int (3 : Int32)), .val (.int (2 : Int32)), .unset, .unset] [])) (fun _ k_ => XS.icmpYes X0.here hx rfl (pc0 := 89) (pc' := 95) rfl (hb hby own_d12_89) rfl (teq hc89'').1 (by decide) (by decide) k_) ?_
        refine own_w (T' := s₁) (g' := (mkF m 98 #[.val (.ref ax), .val (.int (0 : Int32)), .val (.ref ay), .val (.int (0 : Int32)), .val (.int (3 : Int32)), .val (.int (3 : Int32)), .unset, .unset] [])) (fun _ k_ => XS.iinc X0.here hx rfl (hb hby own_d12_95) rfl (l' := #[.val (.ref ax), .val (.int (0 : Int32)), .val (.ref ay), .val (.int (0 : Int32)), .val (.int (3 : Int32)), .val (.int (3 : Int32)), .unset, .unset]) rfl k_) ?_
        refine own_w (T' := s₁) (g' := (mkF m 70 #[.val (.ref ax), .val (.int (0 : Int32)), .val (.ref ay), .val (.int (0 : Int32)), .val (.int (3 : Int32)), .val (.int (3 : Int32)), .unset, .unset] [])) (fun _ k_ => XS.goto X0.here hx rfl (pc0 := 98) (pc' := 70) rfl (hb hby own_d12_98) (by decide) (by decide) k_) ?_
        refine own_w (T' := s₁) (g' := (mkF m 72 #[.val (.ref ax), .val (.int (0 : Int32)), .val (.ref ay), .val (.int (0 : Int32)), .val (.int (3 : Int32)), .val (.int (3 : Int32)), .unset, .unset] [(.int (3 : Int32))])) (fun _ k_ => XS.iload X0.here hx rfl (hb hby own_d12_70) rfl k_) ?_
        refine own_w (T' := s₁) (g' := (mkF m 74 #[.val (.ref ax), .val (.int (0 : Int32)), .val (.ref ay), .val (.int (0 : Int32)), .val (.int (3 : Int32)), .val (.int (3 : Int32)), .unset, .unset] [(.int (3 : Int32)), (.int (3 : Int32))])) (fun _ k_ => XS.iload X0.here hx rfl (hb hby own_d12_72) rfl k_) ?_
        refine own_w (T' := s₁) (g' := (mkF m 101 #[.val (.ref ax), .val (.int (0 : Int32)), .val (.ref ay), .val (.int (0 : Int32)), .val (.int (3 : Int32)), .val (.int (3 : Int32)), .unset, .unset] [])) (fun _ k_ => XS.icmpYes X0.here hx rfl (pc0 := 74) (pc' := 101) rfl (hb hby own_d12_74) rfl (flt (by decide)).2.1 (by decide) (by decide) k_) ?_
        refine own_w (T' := s₁) (g' := (mkF m 102 #[.val (.ref ax), .val (.int (0 : Int32)), .val (.ref ay), .val (.int (0 : Int32)), .val (.int (3 : Int32)), .val (.int (3 : Int32)), .unset, .unset] [(.int (-1 : Int32))])) (fun _ k_ => XS.iconst X0.here hx rfl (hb hby own_d12_101) k_) ?_
        obtain ⟨fs, hr, hrun, hended, hW, hsame⟩ := X0.leave (v := some (.int (-1 : Int32))) (fun h => by rw [Bd.returns] at h; cases h)
        exact ⟨_, _, retOut X0 hx Bd.returns rfl (Or.inl ⟨rfl, Or.inl rfl, _, rfl⟩) (hb hby own_d12_102) hr, hrun, hended, _, _, rfl, (by show own_Q12_3 Z ax ay x0 x1 x2 y0 y1 y2 h0 n0 _ s₁.heap _; rw [e0]; exact ⟨(by simp [hc89, hc89', hc89'']), N0, rfl⟩), ⟨_, rfl⟩, hW, hsame.mono (by decide) (by decide)⟩
      · refine own_w (T' := s₁) (g' := (mkF m 92 #[.val (.ref ax), .val (.int (0 : Int32)), .val (.ref ay), .val (.int (0 : Int32)), .val (.int (3 : Int32)), .val (.int (2 : Int32)), .unset, .unset] [])) (fun _ k_ => XS.icmpNo X0.here hx rfl (hb hby own_d12_89) rfl (feq hc89'').1 k_) ?_
        refine own_w (T' := s₁) (g' := (mkF m 94 #[.val (.ref ax), .val (.int (0 : Int32)), .val (.ref ay), .val (.int (0 : Int32)), .val (.int (3 : Int32)), .val (.int (2 : Int32)), .unset, .unset] [(.int (2 : Int32))])) (fun _ k_ => XS.iload X0.here hx rfl (hb hby own_d12_92) rfl k_) ?_
        obtain ⟨fs, hr, hrun, hended, hW, hsame⟩ := X0.leave (v := some (.int (2 : Int32))) (fun h => by rw [Bd.returns] at h; cases h)
        exact ⟨_, _, retOut X0 hx Bd.returns rfl (Or.inl ⟨rfl, Or.inl rfl, _, rfl⟩) (hb hby own_d12_94) hr, hrun, hended, _, _, rfl, (by show own_Q12_3 Z ax ay x0 x1 x2 y0 y1 y2 h0 n0 _ s₁.heap _; rw [e0]; exact ⟨(by simp [hc89, hc89', hc89'']), N0, rfl⟩), ⟨_, rfl⟩, hW, hsame.mono (by decide) (by decide)⟩
    · refine own_w (T' := s₁) (g' := (mkF m 92 #[.val (.ref ax), .val (.int (0 : Int32)), .val (.ref ay), .val (.int (0 : Int32)), .val (.int (3 : Int32)), .val (.int (1 : Int32)), .unset, .unset] [])) (fun _ k_ => XS.icmpNo X0.here hx rfl (hb hby own_d12_89) rfl (feq hc89').1 k_) ?_
      refine own_w (T' := s₁) (g' := (mkF m 94 #[.val (.ref ax), .val (.int (0 : Int32)), .val (.ref ay), .val (.int (0 : Int32)), .val (.int (3 : Int32)), .val (.int (1 : Int32)), .unset, .unset] [(.int (1 : Int32))])) (fun _ k_ => XS.iload X0.here hx rfl (hb hby own_d12_92) rfl k_) ?_
      obtain ⟨fs, hr, hrun, hended, hW, hsame⟩ := X0.leave (v := some (.int (1 : Int32))) (fun h => by rw [Bd.returns] at h; cases h)
      exact ⟨_, _, retOut X0 hx Bd.returns rfl (Or.inl ⟨rfl, Or.inl rfl, _, rfl⟩) (hb hby own_d12_94) hr, hrun, hended, _, _, rfl, (by show own_Q12_3 Z ax ay x0 x1 x2 y0 y1 y2 h0 n0 _ s₁.heap _; rw [e0]; exact ⟨(by simp [hc89, hc89']), N0, rfl⟩), ⟨_, rfl⟩, hW, hsame.mono (by decide) (by decide)⟩
  · refine own_w (T' := s₁) (g' := (mkF m 92 #[.val (.ref ax), .val (.int (0 : Int32)), .val (.ref ay), .val (.int (0 : Int32)), .val (.int (3 : Int32)), .val (.int (0 : Int32)), .unset, .unset] [])) (fun _ k_ => XS.icmpNo X0.here hx rfl (hb hby own_d12_89) rfl (feq hc89).1 k_) ?_
    refine own_w (T' := s₁) (g' := (mkF m 94 #[.val (.ref ax), .val (.int (0 : Int32)), .val (.ref ay), .val (.int (0 : Int32)), .val (.int (3 : Int32)), .val (.int (0 : Int32)), .unset, .unset] [(.int (0 : Int32))])) (fun _ k_ => XS.iload X0.here hx rfl (hb hby own_d12_92) rfl k_) ?_
    obtain ⟨fs, hr, hrun, hended, hW, hsame⟩ := X0.leave (v := some (.int (0 : Int32))) (fun h => by rw [Bd.returns] at h; cases h)
    exact ⟨_, _, retOut X0 hx Bd.returns rfl (Or.inl ⟨rfl, Or.inl rfl, _, rfl⟩) (hb hby own_d12_94) hr, hrun, hended, _, _, rfl, (by show own_Q12_3 Z ax ay x0 x1 x2 y0 y1 y2 h0 n0 _ s₁.heap _; rw [e0]; exact ⟨(by simp [hc89]), N0, rfl⟩), ⟨_, rfl⟩, hW, hsame.mono (by decide) (by decide)⟩
theorem own_mm3 (x0 y0 : Int32) (x1 y1 : Int32) (x2 y2 : Int32) : (if x0 = y0 then (if x1 = y1 then (if x2 = y2 then (-1 : Int32) else (2 : Int32)) else (1 : Int32)) else (0 : Int32)) < (0 : Int32) ↔ ([x0, x1, x2] = [y0, y1, y2]) := by
  
  
  (repeat' split) <;> simp_all <;> decide
theorem own_rm11_3_ef (m : MethodId)  : entryFrame m #[(.int (3 : Int32)), (.int (0 : Int32)), (.int (3 : Int32))] 3 = mkF m 0 #[.val (.int (3 : Int32)), .val (.int (0 : Int32)), .val (.int (3 : Int32))] [] := by first | (simp [entryFrame, mkF, argsToLocals, Value.category]; done) | rfl
def own_Q11_3 (Z : State)  (h0 : Heap) (n0 : Nat) (v_ : Option Value) (h : Heap) (L_ : List Loc) : Prop := v_ = none ∧ Fr n0 L_ ∧ (h = h0)
set_option maxRecDepth 65536 in
set_option maxHeartbeats 40000000 in
theorem own_rm11_3 (l : Launch) (Z : State) (a0 : Array Value) (hw : ∀ d ∈ tables_1, d.before a0 Z = true) (ws : List Jvm.Cond)  (h0 : Heap) (n0 : Nat) (Z0 : n0 ≤ h0.size)  :
    MetFree l (⟨"java/util/Arrays", "rangeCheck", "(III)V"⟩ : MethodName) (head1 (Jvm.Cond.code (⟨"java/util/Arrays", "rangeCheck", "(III)V"⟩ : MethodName) jdk_65_method_30_code 3 none :: ws) ({ frames := 0, cells := 0, slots := 0, locals := 0 } : Room)) (fun a_ U_ => a_ = #[(.int (3 : Int32)), (.int (0 : Int32)), (.int (3 : Int32))] ∧ Z.Warmed39 U_.vm ∧ U_.heap = h0) (fun _ _ _ _ _ => True) (fun _ U_ o_ V_ => ∃ v_ L_, o_ = .returned v_ ∧ own_Q11_3 Z  h0 n0 v_ V_.heap L_ ∧ FrameEnd U_ o_ V_ L_ ({ frames := 0, cells := 0, slots := 0, locals := 0 } : Room).cells ({ frames := 0, cells := 0, slots := 0, locals := 0 } : Room).slots) := by
  refine MetFree.of_bodySF (plainFor_of_name own_pn_java_util_Arrays) hisR ?_
  intro p e s m args below meth c s₁ Bd hml0 hP hK
  obtain ⟨rfl, hZ, hh⟩ := hP
  have hx := Bd.exec
  have hby := Bd.bytes
  have hml : c.maxLocals = 3 := hml0
  have hown : s.vm.findClass "java/util/Arrays" = some m.cls := findClass_of_methodNamed Bd.named
  have hnm := (name_of_methodNamed Bd.named Bd.method).1
  have X0 : Stand p l e ({ frames := 0, cells := 0, slots := 0, locals := 0 } : Room) s m #[(.int (3 : Int32)), (.int (0 : Int32)), (.int (3 : Int32))] below meth c s₁ [] 0 0 := Stand.of_body Bd
  have e0 : s₁.heap = h0 := by rw [← hh, Bd.state]; rfl
  have N0 := Fr.nil n0
  show own_G p e below s (own_Q11_3 Z  h0 n0) ({ frames := 0, cells := 0, slots := 0, locals := 0 } : Room).cells ({ frames := 0, cells := 0, slots := 0, locals := 0 } : Room).slots s₁ (entryFrame m #[(.int (3 : Int32)), (.int (0 : Int32)), (.int (3 : Int32))] 3)
  rw [own_rm11_3_ef]
  refine own_w (T' := s₁) (g' := (mkF m 1 #[.val (.int (3 : Int32)), .val (.int (0 : Int32)), .val (.int (3 : Int32))] [(.int (0 : Int32))])) (fun _ k_ => XS.iloadN X0.here hx rfl (hb hby own_d11_0) rfl k_) ?_
  refine own_w (T' := s₁) (g' := (mkF m 2 #[.val (.int (3 : Int32)), .val (.int (0 : Int32)), .val (.int (3 : Int32))] [(.int (3 : Int32)), (.int (0 : Int32))])) (fun _ k_ => XS.iloadN X0.here hx rfl (hb hby own_d11_1) rfl k_) ?_
  refine own_w (T' := s₁) (g' := (mkF m 46 #[.val (.int (3 : Int32)), .val (.int (0 : Int32)), .val (.int (3 : Int32))] [])) (fun _ k_ => XS.icmpYes X0.here hx rfl (pc0 := 2) (pc' := 46) rfl (hb hby own_d11_2) rfl (flt (by decide)).2.2.2 (by decide) (by decide) k_) ?_
  refine own_w (T' := s₁) (g' := (mkF m 47 #[.val (.int (3 : Int32)), .val (.int (0 : Int32)), .val (.int (3 : Int32))] [(.int (0 : Int32))])) (fun _ k_ => XS.iloadN X0.here hx rfl (hb hby own_d11_46) rfl k_) ?_
  refine own_w (T' := s₁) (g' := (mkF m 59 #[.val (.int (3 : Int32)), .val (.int (0 : Int32)), .val (.int (3 : Int32))] [])) (fun _ k_ => XS.ifYes X0.here hx rfl (pc0 := 47) (pc' := 59) rfl (hb hby own_d11_47) rfl ((if0 _ _).trans (flt (by decide)).2.1) (by decide) (by decide) k_) ?_
  refine own_w (T' := s₁) (g' := (mkF m 60 #[.val (.int (3 : Int32)), .val (.int (0 : Int32)), .val (.int (3 : Int32))] [(.int (3 : Int32))])) (fun _ k_ => XS.iloadN X0.here hx rfl (hb hby own_d11_59) rfl k_) ?_
  refine own_w (T' := s₁) (g' := (mkF m 61 #[.val (.int (3 : Int32)), .val (.int (0 : Int32)), .val (.int (3 : Int32))] [(.int (3 : Int32)), (.int (3 : Int32))])) (fun _ k_ => XS.iloadN X0.here hx rfl (hb hby own_d11_60) rfl k_) ?_
  refine own_w (T' := s₁) (g' := (mkF m 73 #[.val (.int (3 : Int32)), .val (.int (0 : Int32)), .val (.int (3 : Int32))] [])) (fun _ k_ => XS.icmpYes X0.here hx rfl (pc0 := 61) (pc' := 73) rfl (hb hby own_d11_61) rfl (flt (by decide)).2.2.2 (by decide) (by decide) k_) ?_
  obtain ⟨fs, hr, hrun, hended, hW, hsame⟩ := X0.leave (v := none) (fun _ => rfl)
  exact ⟨_, _, X0.returnOut hx Bd.returns (hb hby own_d11_73) hr, hrun, hended, _, _, rfl, (by show own_Q11_3 Z  h0 n0 _ s₁.heap _; rw [e0]; exact ⟨rfl, N0, rfl⟩), ⟨_, rfl⟩, hW, hsame.mono (by decide) (by decide)⟩
theorem own_rm10_3_ef (m : MethodId) (ax : Addr) (ay : Addr) : entryFrame m #[(.ref ax), (.int (0 : Int32)), (.int (3 : Int32)), (.ref ay), (.int (0 : Int32)), (.int (3 : Int32))] 8 = mkF m 0 #[.val (.ref ax), .val (.int (0 : Int32)), .val (.int (3 : Int32)), .val (.ref ay), .val (.int (0 : Int32)), .val (.int (3 : Int32)), .unset, .unset] [] := by first | (simp [entryFrame, mkF, argsToLocals, Value.category]; done) | rfl
def own_Q10_3 (Z : State) (ax : Addr) (ay : Addr) (x0 : Int32) (x1 : Int32) (x2 : Int32) (y0 : Int32) (y1 : Int32) (y2 : Int32) (h0 : Heap) (n0 : Nat) (v_ : Option Value) (h : Heap) (L_ : List Loc) : Prop := v_ = some (.int (if ([x0, x1, x2] = [y0, y1, y2]) then (1 : Int32) else 0)) ∧ Fr n0 L_ ∧ (h = h0)
set_option maxRecDepth 65536 in
set_option maxHeartbeats 40000000 in
theorem own_rm10_3 (l : Launch) (Z : State) (a0 : Array Value) (hw : ∀ d ∈ tables_1, d.before a0 Z = true) (ws : List Jvm.Cond) (ax : Addr) (ay : Addr) (x0 : Int32) (x1 : Int32) (x2 : Int32) (y0 : Int32) (y1 : Int32) (y2 : Int32) (h0 : Heap) (n0 : Nat) (Z0 : n0 ≤ h0.size) (Vx : own_Ar Z h0 ax .byte [x0, x1, x2]) (Vy : own_Ar Z h0 ay .byte [y0, y1, y2]) :
    MetFree l (⟨"java/util/Arrays", "equals", "([BII[BII)Z"⟩ : MethodName) (head1 (Jvm.Cond.code (⟨"java/util/Arrays", "equals", "([BII[BII)Z"⟩ : MethodName) jdk_65_method_90_code 8 (some .boolean) :: ws) ({ frames := 1, cells := 0, slots := 0, locals := 19 } : Room)) (fun a_ U_ => a_ = #[(.ref ax), (.int (0 : Int32)), (.int (3 : Int32)), (.ref ay), (.int (0 : Int32)), (.int (3 : Int32))] ∧ Z.Warmed39 U_.vm ∧ U_.heap = h0) (fun _ _ _ _ _ => True) (fun _ U_ o_ V_ => ∃ v_ L_, o_ = .returned v_ ∧ own_Q10_3 Z ax ay x0 x1 x2 y0 y1 y2 h0 n0 v_ V_.heap L_ ∧ FrameEnd U_ o_ V_ L_ ({ frames := 1, cells := 0, slots := 0, locals := 19 } : Room).cells ({ frames := 1, cells := 0, slots := 0, locals := 19 } : Room).slots) := by
  refine MetFree.of_bodySF (plainFor_of_name own_pn_java_util_Arrays) hisR ?_
  intro p e s m args below meth c s₁ Bd hml0 hP hK
  obtain ⟨rfl, hZ, hh⟩ := hP
  have hx := Bd.exec
  have hby := Bd.bytes
  have hml : c.maxLocals = 8 := hml0
  have hown : s.vm.findClass "java/util/Arrays" = some m.cls := findClass_of_methodNamed Bd.named
  have hnm := (name_of_methodNamed Bd.named Bd.method).1
  have X0 : Stand p l e ({ frames := 1, cells := 0, slots := 0, locals := 19 } : Room) s m #[(.ref ax), (.int (0 : Int32)), (.int (3 : Int32)), (.ref ay), (.int (0 : Int32)), (.int (3 : Int32))] below meth c s₁ [] 0 0 := Stand.of_body Bd
  have e0 : s₁.heap = h0 := by rw [← hh, Bd.state]; rfl
  have N0 := Fr.nil n0
  show own_G p e below s (own_Q10_3 Z ax ay x0 x1 x2 y0 y1 y2 h0 n0) ({ frames := 1, cells := 0, slots := 0, locals := 19 } : Room).cells ({ frames := 1, cells := 0, slots := 0, locals := 19 } : Room).slots s₁ (entryFrame m #[(.ref ax), (.int (0 : Int32)), (.int (3 : Int32)), (.ref ay), (.int (0 : Int32)), (.int (3 : Int32))] 8)
  rw [own_rm10_3_ef]
  refine own_w (T' := s₁) (g' := (mkF m 1 #[.val (.ref ax), .val (.int (0 : Int32)), .val (.int (3 : Int32)), .val (.ref ay), .val (.int (0 : Int32)), .val (.int (3 : Int32)), .unset, .unset] [(.ref ax)])) (fun _ k_ => XS.aloadN X0.here hx rfl (hb hby own_d10_0) rfl rfl k_) ?_
  obtain ⟨cl1, Ar1, hs1⟩ := id Vx
  have hl1 : cl1.slots.size.toInt32 = (3 : Int32) := by rw [hs1]; rfl
  refine own_w (T' := s₁) (g' := (mkF m 2 #[.val (.ref ax), .val (.int (0 : Int32)), .val (.int (3 : Int32)), .val (.ref ay), .val (.int (0 : Int32)), .val (.int (3 : Int32)), .unset, .unset] [(.int (3 : Int32))])) (fun t_ k_ => X0.arraylength hx (by rw [e0]; exact Ar1.1) (State.isArrayOf_alike hZ.alike Ar1.2.1) (g := (mkF m 1 #[.val (.ref ax), .val (.int (0 : Int32)), .val (.int (3 : Int32)), .val (.ref ay), .val (.int (0 : Int32)), .val (.int (3 : Int32)), .unset, .unset] [(.ref ax)])) rfl rfl (hb hby own_d10_1) t_ (by rw [hl1]; exact k_)) ?_
  refine own_w (T' := s₁) (g' := (mkF m 3 #[.val (.ref ax), .val (.int (0 : Int32)), .val (.int (3 : Int32)), .val (.ref ay), .val (.int (0 : Int32)), .val (.int (3 : Int32)), .unset, .unset] [(.int (0 : Int32)), (.int (3 : Int32))])) (fun _ k_ => XS.iloadN X0.here hx rfl (hb hby own_d10_2) rfl k_) ?_
  refine own_w (T' := s₁) (g' := (mkF m 4 #[.val (.ref ax), .val (.int (0 : Int32)), .val (.int (3 : Int32)), .val (.ref ay), .val (.int (0 : Int32)), .val (.int (3 : Int32)), .unset, .unset] [(.int (3 : Int32)), (.int (0 : Int32)), (.int (3 : Int32))])) (fun _ k_ => XS.iloadN X0.here hx rfl (hb hby own_d10_3) rfl k_) ?_
  obtain ⟨_, _, ⟨T2, L2, k2, n2⟩, -, X2, ⟨Lc2, hQ2, l2, y2, z2⟩, st2⟩ := Jvm.LawKit.callS X0 hx (y := (⟨"java/util/Arrays", "rangeCheck", "(III)V"⟩ : MethodName)) hown (mvT hZ (hw _ (List.mem_of_getElem? (i := 61) rfl))) (mvT hZ (hw _ (List.mem_of_getElem? (i := 62) rfl))) (mvT hZ (hw _ (List.mem_of_getElem? (i := 49) rfl))) (mvT hZ (hw _ (List.mem_of_getElem? (i := 63) rfl))) (by decide) (backOf (W := 0) (own_rm11_3 l Z a0 hw []   h0 n0 Z0 ) hZ (hw _ (List.mem_of_getElem? (i := 63) rfl)) (hw _ (List.mem_of_getElem? (i := 49) rfl)) (by decide) (by decide)) (g := (mkF m 4 #[.val (.ref ax), .val (.int (0 : Int32)), .val (.int (3 : Int32)), .val (.ref ay), .val (.int (0 : Int32)), .val (.int (3 : Int32)), .unset, .unset] [(.int (3 : Int32)), (.int (0 : Int32)), (.int (3 : Int32))])) rfl (by rw [hml]; rfl) (argsL := [(.int (3 : Int32)), (.int (0 : Int32)), (.int (3 : Int32))]) (rest := []) (lenOf own_pd0 rfl) rfl (by show 2 * 0 + _ ≤ _; exact Nat.le_of_eq rfl) (hb hby own_d10_4) (fun _ _ => ⟨rfl, e0, (by decide : 0 + 0 ≤ _), (by decide : 0 + 0 ≤ _)⟩)
  dsimp only [Pt.U, Pt.locs, Pt.cells, Pt.slots] at X2 l2 y2 z2 st2 hQ2
  subst l2 y2 z2
  obtain ⟨rfl, N2q, e2⟩ := hQ2
  have N2 := Fr.app N0 N2q
  refine own_w (T' := T2) (g' := (mkF m 7 #[.val (.ref ax), .val (.int (0 : Int32)), .val (.int (3 : Int32)), .val (.ref ay), .val (.int (0 : Int32)), .val (.int (3 : Int32)), .unset, .unset] [])) st2 ?_
  refine own_w (T' := T2) (g' := (mkF m 8 #[.val (.ref ax), .val (.int (0 : Int32)), .val (.int (3 : Int32)), .val (.ref ay), .val (.int (0 : Int32)), .val (.int (3 : Int32)), .unset, .unset] [(.ref ay)])) (fun _ k_ => XS.aloadN X2.here hx rfl (hb hby own_d10_7) rfl rfl k_) ?_
  obtain ⟨cl3, Ar3, hs3⟩ := id Vy
  have hl3 : cl3.slots.size.toInt32 = (3 : Int32) := by rw [hs3]; rfl
  refine own_w (T' := T2) (g' := (mkF m 9 #[.val (.ref ax), .val (.int (0 : Int32)), .val (.int (3 : Int32)), .val (.ref ay), .val (.int (0 : Int32)), .val (.int (3 : Int32)), .unset, .unset] [(.int (3 : Int32))])) (fun t_ k_ => X2.arraylength hx (by rw [e2]; exact Ar3.1) (State.isArrayOf_alike hZ.alike Ar3.2.1) (g := (mkF m 8 #[.val (.ref ax), .val (.int (0 : Int32)), .val (.int (3 : Int32)), .val (.ref ay), .val (.int (0 : Int32)), .val (.int (3 : Int32)), .unset, .unset] [(.ref ay)])) rfl rfl (hb hby own_d10_8) t_ (by rw [hl3]; exact k_)) ?_
  refine own_w (T' := T2) (g' := (mkF m 11 #[.val (.ref ax), .val (.int (0 : Int32)), .val (.int (3 : Int32)), .val (.ref ay), .val (.int (0 : Int32)), .val (.int (3 : Int32)), .unset, .unset] [(.int (0 : Int32)), (.int (3 : Int32))])) (fun _ k_ => XS.iload X2.here hx rfl (hb hby own_d10_9) rfl k_) ?_
  refine own_w (T' := T2) (g' := (mkF m 13 #[.val (.ref ax), .val (.int (0 : Int32)), .val (.int (3 : Int32)), .val (.ref ay), .val (.int (0 : Int32)), .val (.int (3 : Int32)), .unset, .unset] [(.int (3 : Int32)), (.int (0 : Int32)), (.int (3 : Int32))])) (fun _ k_ => XS.iload X2.here hx rfl (hb hby own_d10_11) rfl k_) ?_
  obtain ⟨_, _, ⟨T4, L4, k4, n4⟩, -, X4, ⟨Lc4, hQ4, l4, y4, z4⟩, st4⟩ := Jvm.LawKit.callS X2 hx (y := (⟨"java/util/Arrays", "rangeCheck", "(III)V"⟩ : MethodName)) hown (mvT hZ (hw _ (List.mem_of_getElem? (i := 61) rfl))) (mvT hZ (hw _ (List.mem_of_getElem? (i := 62) rfl))) (mvT hZ (hw _ (List.mem_of_getElem? (i := 49) rfl))) (mvT hZ (hw _ (List.mem_of_getElem? (i := 63) rfl))) (by decide) (backOf (W := 0) (own_rm11_3 l Z a0 hw []   h0 n0 Z0 ) hZ (hw _ (List.mem_of_getElem? (i := 63) rfl)) (hw _ (List.mem_of_getElem? (i := 49) rfl)) (by decide) (by decide)) (g := (mkF m 13 #[.val (.ref ax), .val (.int (0 : Int32)), .val (.int (3 : Int32)), .val (.ref ay), .val (.int (0 : Int32)), .val (.int (3 : Int32)), .unset, .unset] [(.int (3 : Int32)), (.int (0 : Int32)), (.int (3 : Int32))])) rfl (by rw [hml]; rfl) (argsL := [(.int (3 : Int32)), (.int (0 : Int32)), (.int (3 : Int32))]) (rest := []) (lenOf own_pd0 rfl) rfl (by show 2 * 0 + _ ≤ _; exact Nat.le_of_eq rfl) (hb hby own_d10_13) (fun _ _ => ⟨rfl, e2, (by decide : 0 + 0 ≤ _), (by decide : 0 + 0 ≤ _)⟩)
  dsimp only [Pt.U, Pt.locs, Pt.cells, Pt.slots] at X4 l4 y4 z4 st4 hQ4
  subst l4 y4 z4
  obtain ⟨rfl, N4q, e4⟩ := hQ4
  have N4 := Fr.app N2 N4q
  refine own_w (T' := T4) (g' := (mkF m 16 #[.val (.ref ax), .val (.int (0 : Int32)), .val (.int (3 : Int32)), .val (.ref ay), .val (.int (0 : Int32)), .val (.int (3 : Int32)), .unset, .unset] [])) st4 ?_
  refine own_w (T' := T4) (g' := (mkF m 17 #[.val (.ref ax), .val (.int (0 : Int32)), .val (.int (3 : Int32)), .val (.ref ay), .val (.int (0 : Int32)), .val (.int (3 : Int32)), .unset, .unset] [(.int (3 : Int32))])) (fun _ k_ => XS.iloadN X4.here hx rfl (hb hby own_d10_16) rfl k_) ?_
  refine own_w (T' := T4) (g' := (mkF m 18 #[.val (.ref ax), .val (.int (0 : Int32)), .val (.int (3 : Int32)), .val (.ref ay), .val (.int (0 : Int32)), .val (.int (3 : Int32)), .unset, .unset] [(.int (0 : Int32)), (.int (3 : Int32))])) (fun _ k_ => XS.iloadN X4.here hx rfl (hb hby own_d10_17) rfl k_) ?_
  refine own_w (T' := T4) (g' := (mkF m 19 #[.val (.ref ax), .val (.int (0 : Int32)), .val (.int (3 : Int32)), .val (.ref ay), .val (.int (0 : Int32)), .val (.int (3 : Int32)), .unset, .unset] [(.int (3 : Int32))])) (fun _ k_ => XS.isub X4.here hx rfl (hb hby own_d10_18) rfl k_) ?_
  refine own_w (T' := T4) (g' := (mkF m 21 #[.val (.ref ax), .val (.int (0 : Int32)), .val (.int (3 : Int32)), .val (.ref ay), .val (.int (0 : Int32)), .val (.int (3 : Int32)), .val (.int (3 : Int32)), .unset] [])) (fun _ k_ => XS.istore X4.here hx rfl (hb hby own_d10_19) rfl (l' := #[.val (.ref ax), .val (.int (0 : Int32)), .val (.int (3 : Int32)), .val (.ref ay), .val (.int (0 : Int32)), .val (.int (3 : Int32)), .val (.int (3 : Int32)), .unset]) rfl k_) ?_
  refine own_w (T' := T4) (g' := (mkF m 23 #[.val (.ref ax), .val (.int (0 : Int32)), .val (.int (3 : Int32)), .val (.ref ay), .val (.int (0 : Int32)), .val (.int (3 : Int32)), .val (.int (3 : Int32)), .unset] [(.int (3 : Int32))])) (fun _ k_ => XS.iload X4.here hx rfl (hb hby own_d10_21) rfl k_) ?_
  refine own_w (T' := T4) (g' := (mkF m 25 #[.val (.ref ax), .val (.int (0 : Int32)), .val (.int (3 : Int32)), .val (.ref ay), .val (.int (0 : Int32)), .val (.int (3 : Int32)), .val (.int (3 : Int32)), .unset] [(.int (0 : Int32)), (.int (3 : Int32))])) (fun _ k_ => XS.iload X4.here hx rfl (hb hby own_d10_23) rfl k_) ?_
  refine own_w (T' := T4) (g' := (mkF m 26 #[.val (.ref ax), .val (.int (0 : Int32)), .val (.int (3 : Int32)), .val (.ref ay), .val (.int (0 : Int32)), .val (.int (3 : Int32)), .val (.int (3 : Int32)), .unset] [(.int (3 : Int32))])) (fun _ k_ => XS.isub X4.here hx rfl (hb hby own_d10_25) rfl k_) ?_
  refine own_w (T' := T4) (g' := (mkF m 28 #[.val (.ref ax), .val (.int (0 : Int32)), .val (.int (3 : Int32)), .val (.ref ay), .val (.int (0 : Int32)), .val (.int (3 : Int32)), .val (.int (3 : Int32)), .val (.int (3 : Int32))] [])) (fun _ k_ => XS.istore X4.here hx rfl (hb hby own_d10_26) rfl (l' := #[.val (.ref ax), .val (.int (0 : Int32)), .val (.int (3 : Int32)), .val (.ref ay), .val (.int (0 : Int32)), .val (.int (3 : Int32)), .val (.int (3 : Int32)), .val (.int (3 : Int32))]) rfl k_) ?_
  refine own_w (T' := T4) (g' := (mkF m 30 #[.val (.ref ax), .val (.int (0 : Int32)), .val (.int (3 : Int32)), .val (.ref ay), .val (.int (0 : Int32)), .val (.int (3 : Int32)), .val (.int (3 : Int32)), .val (.int (3 : Int32))] [(.int (3 : Int32))])) (fun _ k_ => XS.iload X4.here hx rfl (hb hby own_d10_28) rfl k_) ?_
  refine own_w (T' := T4) (g' := (mkF m 32 #[.val (.ref ax), .val (.int (0 : Int32)), .val (.int (3 : Int32)), .val (.ref ay), .val (.int (0 : Int32)), .val (.int (3 : Int32)), .val (.int (3 : Int32)), .val (.int (3 : Int32))] [(.int (3 : Int32)), (.int (3 : Int32))])) (fun _ k_ => XS.iload X4.here hx rfl (hb hby own_d10_30) rfl k_) ?_
  refine own_w (T' := T4) (g' := (mkF m 37 #[.val (.ref ax), .val (.int (0 : Int32)), .val (.int (3 : Int32)), .val (.ref ay), .val (.int (0 : Int32)), .val (.int (3 : Int32)), .val (.int (3 : Int32)), .val (.int (3 : Int32))] [])) (fun _ k_ => XS.icmpYes X4.here hx rfl (pc0 := 32) (pc' := 37) rfl (hb hby own_d10_32) rfl (teq rfl).1 (by decide) (by decide) k_) ?_
  refine own_w (T' := T4) (g' := (mkF m 38 #[.val (.ref ax), .val (.int (0 : Int32)), .val (.int (3 : Int32)), .val (.ref ay), .val (.int (0 : Int32)), .val (.int (3 : Int32)), .val (.int (3 : Int32)), .val (.int (3 : Int32))] [(.ref ax)])) (fun _ k_ => XS.aloadN X4.here hx rfl (hb hby own_d10_37) rfl rfl k_) ?_
  refine own_w (T' := T4) (g' := (mkF m 39 #[.val (.ref ax), .val (.int (0 : Int32)), .val (.int (3 : Int32)), .val (.ref ay), .val (.int (0 : Int32)), .val (.int (3 : Int32)), .val (.int (3 : Int32)), .val (.int (3 : Int32))] [(.int (0 : Int32)), (.ref ax)])) (fun _ k_ => XS.iloadN X4.here hx rfl (hb hby own_d10_38) rfl k_) ?_
  refine own_w (T' := T4) (g' := (mkF m 40 #[.val (.ref ax), .val (.int (0 : Int32)), .val (.int (3 : Int32)), .val (.ref ay), .val (.int (0 : Int32)), .val (.int (3 : Int32)), .val (.int (3 : Int32)), .val (.int (3 : Int32))] [(.ref ay), (.int (0 : Int32)), (.ref ax)])) (fun _ k_ => XS.aloadN X4.here hx rfl (hb hby own_d10_39) rfl rfl k_) ?_
  refine own_w (T' := T4) (g' := (mkF m 42 #[.val (.ref ax), .val (.int (0 : Int32)), .val (.int (3 : Int32)), .val (.ref ay), .val (.int (0 : Int32)), .val (.int (3 : Int32)), .val (.int (3 : Int32)), .val (.int (3 : Int32))] [(.int (0 : Int32)), (.ref ay), (.int (0 : Int32)), (.ref ax)])) (fun _ k_ => XS.iload X4.here hx rfl (hb hby own_d10_40) rfl k_) ?_
  refine own_w (T' := T4) (g' := (mkF m 44 #[.val (.ref ax), .val (.int (0 : Int32)), .val (.int (3 : Int32)), .val (.ref ay), .val (.int (0 : Int32)), .val (.int (3 : Int32)), .val (.int (3 : Int32)), .val (.int (3 : Int32))] [(.int (3 : Int32)), (.int (0 : Int32)), (.ref ay), (.int (0 : Int32)), (.ref ax)])) (fun _ k_ => XS.iload X4.here hx rfl (hb hby own_d10_42) rfl k_) ?_
  obtain ⟨_, _, ⟨T5, L5, k5, n5⟩, -, X5, ⟨Lc5, hQ5, l5, y5, z5⟩, st5⟩ := Jvm.LawKit.callS X4 hx (y := (⟨"jdk/internal/util/ArraysSupport", "mismatch", "([BI[BII)I"⟩ : MethodName)) hown (mvT hZ (hw _ (List.mem_of_getElem? (i := 64) rfl))) (mvT hZ (hw _ (List.mem_of_getElem? (i := 65) rfl))) (mvT hZ (hw _ (List.mem_of_getElem? (i := 66) rfl))) (mvT hZ (hw _ (List.mem_of_getElem? (i := 67) rfl))) (by decide) (backOf (W := 0) (own_rm12_3 l Z a0 hw [] ax ay x0 x1 x2 y0 y1 y2 h0 n0 Z0 Vx Vy) hZ (hw _ (List.mem_of_getElem? (i := 67) rfl)) (hw _ (List.mem_of_getElem? (i := 66) rfl)) (by decide) (by decide)) (g := (mkF m 44 #[.val (.ref ax), .val (.int (0 : Int32)), .val (.int (3 : Int32)), .val (.ref ay), .val (.int (0 : Int32)), .val (.int (3 : Int32)), .val (.int (3 : Int32)), .val (.int (3 : Int32))] [(.int (3 : Int32)), (.int (0 : Int32)), (.ref ay), (.int (0 : Int32)), (.ref ax)])) rfl (by rw [hml]; rfl) (argsL := [(.ref ax), (.int (0 : Int32)), (.ref ay), (.int (0 : Int32)), (.int (3 : Int32))]) (rest := []) (lenOf own_pd1 rfl) rfl (by show 2 * 0 + _ ≤ _; exact Nat.le_of_eq rfl) (hb hby own_d10_44) (fun _ _ => ⟨rfl, e4, (by decide : 0 + 0 ≤ _), (by decide : 0 + 0 ≤ _)⟩)
  dsimp only [Pt.U, Pt.locs, Pt.cells, Pt.slots] at X5 l5 y5 z5 st5 hQ5
  subst l5 y5 z5
  obtain ⟨rfl, N5q, e5⟩ := hQ5
  have N5 := Fr.app N4 N5q
  refine own_w (T' := T5) (g' := (mkF m 47 #[.val (.ref ax), .val (.int (0 : Int32)), .val (.int (3 : Int32)), .val (.ref ay), .val (.int (0 : Int32)), .val (.int (3 : Int32)), .val (.int (3 : Int32)), .val (.int (3 : Int32))] [(.int (if x0 = y0 then (if x1 = y1 then (if x2 = y2 then (-1 : Int32) else (2 : Int32)) else (1 : Int32)) else (0 : Int32)))])) st5 ?_
  by_cases hc47 : (if x0 = y0 then (if x1 = y1 then (if x2 = y2 then (-1 : Int32) else (2 : Int32)) else (1 : Int32)) else (0 : Int32)) < (0 : Int32)
  · refine own_w (T' := T5) (g' := (mkF m 50 #[.val (.ref ax), .val (.int (0 : Int32)), .val (.int (3 : Int32)), .val (.ref ay), .val (.int (0 : Int32)), .val (.int (3 : Int32)), .val (.int (3 : Int32)), .val (.int (3 : Int32))] [])) (fun _ k_ => XS.ifNo X5.here hx rfl (hb hby own_d10_47) rfl ((if0 _ _).trans (tlt hc47).2.1) k_) ?_
    refine own_w (T' := T5) (g' := (mkF m 51 #[.val (.ref ax), .val (.int (0 : Int32)), .val (.int (3 : Int32)), .val (.ref ay), .val (.int (0 : Int32)), .val (.int (3 : Int32)), .val (.int (3 : Int32)), .val (.int (3 : Int32))] [(.int (1 : Int32))])) (fun _ k_ => XS.iconst X5.here hx rfl (hb hby own_d10_50) k_) ?_
    refine own_w (T' := T5) (g' := (mkF m 55 #[.val (.ref ax), .val (.int (0 : Int32)), .val (.int (3 : Int32)), .val (.ref ay), .val (.int (0 : Int32)), .val (.int (3 : Int32)), .val (.int (3 : Int32)), .val (.int (3 : Int32))] [(.int (1 : Int32))])) (fun _ k_ => XS.goto X5.here hx rfl (pc0 := 51) (pc' := 55) rfl (hb hby own_d10_51) (by decide) (by decide) k_) ?_
    obtain ⟨fs, hr, hrun, hended, hW, hsame⟩ := X5.leave (v := some (.int (1 : Int32))) (fun h => by rw [Bd.returns] at h; cases h)
    exact ⟨_, _, retOut X5 hx Bd.returns rfl (Or.inl ⟨rfl, Or.inr (Or.inl rfl), _, rfl⟩) (hb hby own_d10_55) hr, hrun, hended, _, _, rfl, (by show own_Q10_3 Z ax ay x0 x1 x2 y0 y1 y2 h0 n0 _ T5.heap _; rw [e5]; exact ⟨(by rw [if_pos ((own_mm3 x0 y0 x1 y1 x2 y2).mp hc47)]), N5, rfl⟩), ⟨_, rfl⟩, hW, hsame.mono (by decide) (by decide)⟩
  · refine own_w (T' := T5) (g' := (mkF m 54 #[.val (.ref ax), .val (.int (0 : Int32)), .val (.int (3 : Int32)), .val (.ref ay), .val (.int (0 : Int32)), .val (.int (3 : Int32)), .val (.int (3 : Int32)), .val (.int (3 : Int32))] [])) (fun _ k_ => XS.ifYes X5.here hx rfl (pc0 := 47) (pc' := 54) rfl (hb hby own_d10_47) rfl ((if0 _ _).trans (flt hc47).2.1) (by decide) (by decide) k_) ?_
    refine own_w (T' := T5) (g' := (mkF m 55 #[.val (.ref ax), .val (.int (0 : Int32)), .val (.int (3 : Int32)), .val (.ref ay), .val (.int (0 : Int32)), .val (.int (3 : Int32)), .val (.int (3 : Int32)), .val (.int (3 : Int32))] [(.int (0 : Int32))])) (fun _ k_ => XS.iconst X5.here hx rfl (hb hby own_d10_54) k_) ?_
    obtain ⟨fs, hr, hrun, hended, hW, hsame⟩ := X5.leave (v := some (.int (0 : Int32))) (fun h => by rw [Bd.returns] at h; cases h)
    exact ⟨_, _, retOut X5 hx Bd.returns rfl (Or.inl ⟨rfl, Or.inr (Or.inl rfl), _, rfl⟩) (hb hby own_d10_55) hr, hrun, hended, _, _, rfl, (by show own_Q10_3 Z ax ay x0 x1 x2 y0 y1 y2 h0 n0 _ T5.heap _; rw [e5]; exact ⟨(by rw [if_neg (mt (own_mm3 x0 y0 x1 y1 x2 y2).mpr hc47)]), N5, rfl⟩), ⟨_, rfl⟩, hW, hsame.mono (by decide) (by decide)⟩
theorem own_rm9_3_ef (m : MethodId) (pp : Addr) (ay : Addr) : entryFrame m #[(.ref pp), (.ref ay)] 2 = mkF m 0 #[.val (.ref pp), .val (.ref ay)] [] := by first | (simp [entryFrame, mkF, argsToLocals, Value.category]; done) | rfl
def own_Q9_3 (Z : State) (pp : Addr) (ay : Addr) (ax : Addr) (x0 : Int32) (x1 : Int32) (x2 : Int32) (y0 : Int32) (y1 : Int32) (y2 : Int32) (h0 : Heap) (n0 : Nat) (v_ : Option Value) (h : Heap) (L_ : List Loc) : Prop := v_ = some (.int (if ([x0, x1, x2] = [y0, y1, y2]) then (1 : Int32) else 0)) ∧ Fr n0 L_ ∧ (h = h0)
set_option maxRecDepth 65536 in
set_option maxHeartbeats 40000000 in
theorem own_rm9_3 (l : Launch) (Z : State) (a0 : Array Value) (hw : ∀ d ∈ tables_1, d.before a0 Z = true) (ws : List Jvm.Cond) (pp : Addr) (ay : Addr) (ax : Addr) (x0 : Int32) (x1 : Int32) (x2 : Int32) (y0 : Int32) (y1 : Int32) (y2 : Int32) (h0 : Heap) (n0 : Nat) (Z0 : n0 ≤ h0.size) (F0 : Fld Z h0 pp "com/example/adjacency/adjacency/wire/PrefixedBytes" "array" "[B" (.ref ax)) (F1 : Fld Z h0 pp "com/example/adjacency/adjacency/wire/PrefixedBytes" "offset" "I" (.int (0 : Int32))) (F2 : Fld Z h0 pp "com/example/adjacency/adjacency/wire/PrefixedBytes" "length" "I" (.int (3 : Int32))) (Vx : own_Ar Z h0 ax .byte [x0, x1, x2]) (Vy : own_Ar Z h0 ay .byte [y0, y1, y2]) :
    MetFree l (⟨"com/example/adjacency/adjacency/wire/PrefixedBytes", "isSameAs", "([B)Z"⟩ : MethodName) (head1 (Jvm.Cond.code (⟨"com/example/adjacency/adjacency/wire/PrefixedBytes", "isSameAs", "([B)Z"⟩ : MethodName) prog_31_method_8_code 2 (some .boolean) :: ws) ({ frames := 2, cells := 0, slots := 0, locals := 38 } : Room)) (fun a_ U_ => a_ = #[(.ref pp), (.ref ay)] ∧ Z.Warmed39 U_.vm ∧ U_.heap = h0) (fun _ _ _ _ _ => True) (fun _ U_ o_ V_ => ∃ v_ L_, o_ = .returned v_ ∧ own_Q9_3 Z pp ay ax x0 x1 x2 y0 y1 y2 h0 n0 v_ V_.heap L_ ∧ FrameEnd U_ o_ V_ L_ ({ frames := 2, cells := 0, slots := 0, locals := 38 } : Room).cells ({ frames := 2, cells := 0, slots := 0, locals := 38 } : Room).slots) := by
  refine MetFree.of_bodySF (plainFor_of_name own_pn_com_example_adjacency_adjacency_wire_PrefixedBytes) hisR ?_
  intro p e s m args below meth c s₁ Bd hml0 hP hK
  obtain ⟨rfl, hZ, hh⟩ := hP
  have hx := Bd.exec
  have hby := Bd.bytes
  have hml : c.maxLocals = 2 := hml0
  have hown : s.vm.findClass "com/example/adjacency/adjacency/wire/PrefixedBytes" = some m.cls := findClass_of_methodNamed Bd.named
  have hnm := (name_of_methodNamed Bd.named Bd.method).1
  have X0 : Stand p l e ({ frames := 2, cells := 0, slots := 0, locals := 38 } : Room) s m #[(.ref pp), (.ref ay)] below meth c s₁ [] 0 0 := Stand.of_body Bd
  have e0 : s₁.heap = h0 := by rw [← hh, Bd.state]; rfl
  have N0 := Fr.nil n0
  show own_G p e below s (own_Q9_3 Z pp ay ax x0 x1 x2 y0 y1 y2 h0 n0) ({ frames := 2, cells := 0, slots := 0, locals := 38 } : Room).cells ({ frames := 2, cells := 0, slots := 0, locals := 38 } : Room).slots s₁ (entryFrame m #[(.ref pp), (.ref ay)] 2)
  rw [own_rm9_3_ef]
  refine own_w (T' := s₁) (g' := (mkF m 1 #[.val (.ref pp), .val (.ref ay)] [(.ref pp)])) (fun _ k_ => XS.aloadN X0.here hx rfl (hb hby own_d9_0) rfl rfl k_) ?_
  obtain ⟨T1, X1, e1, st1⟩ := getF X0 hx hZ hown (host := "") (Or.inl (hw _ (List.mem_of_getElem? (i := 22) rfl))) Via.refl e0 F0 (g := (mkF m 1 #[.val (.ref pp), .val (.ref ay)] [(.ref pp)])) rfl rfl (hb hby own_d9_1)
  refine own_w (T' := T1) (g' := (mkF m 4 #[.val (.ref pp), .val (.ref ay)] [(.ref ax)])) st1 ?_
  refine own_w (T' := T1) (g' := (mkF m 5 #[.val (.ref pp), .val (.ref ay)] [(.ref pp), (.ref ax)])) (fun _ k_ => XS.aloadN X1.here hx rfl (hb hby own_d9_4) rfl rfl k_) ?_
  obtain ⟨T2, X2, e2, st2⟩ := getF X1 hx hZ hown (host := "") (Or.inl (hw _ (List.mem_of_getElem? (i := 24) rfl))) Via.refl e1 F1 (g := (mkF m 5 #[.val (.ref pp), .val (.ref ay)] [(.ref pp), (.ref ax)])) rfl rfl (hb hby own_d9_5)
  refine own_w (T' := T2) (g' := (mkF m 8 #[.val (.ref pp), .val (.ref ay)] [(.int (0 : Int32)), (.ref ax)])) st2 ?_
  refine own_w (T' := T2) (g' := (mkF m 9 #[.val (.ref pp), .val (.ref ay)] [(.ref pp), (.int (0 : Int32)), (.ref ax)])) (fun _ k_ => XS.aloadN X2.here hx rfl (hb hby own_d9_8) rfl rfl k_) ?_
  obtain ⟨T3, X3, e3, st3⟩ := getF X2 hx hZ hown (host := "") (Or.inl (hw _ (List.mem_of_getElem? (i := 24) rfl))) Via.refl e2 F1 (g := (mkF m 9 #[.val (.ref pp), .val (.ref ay)] [(.ref pp), (.int (0 : Int32)), (.ref ax)])) rfl rfl (hb hby own_d9_9)
  refine own_w (T' := T3) (g' := (mkF m 12 #[.val (.ref pp), .val (.ref ay)] [(.int (0 : Int32)), (.int (0 : Int32)), (.ref ax)])) st3 ?_
  refine own_w (T' := T3) (g' := (mkF m 13 #[.val (.ref pp), .val (.ref ay)] [(.ref pp), (.int (0 : Int32)), (.int (0 : Int32)), (.ref ax)])) (fun _ k_ => XS.aloadN X3.here hx rfl (hb hby own_d9_12) rfl rfl k_) ?_
  obtain ⟨T4, X4, e4, st4⟩ := getF X3 hx hZ hown (host := "") (Or.inl (hw _ (List.mem_of_getElem? (i := 26) rfl))) Via.refl e3 F2 (g := (mkF m 13 #[.val (.ref pp), .val (.ref ay)] [(.ref pp), (.int (0 : Int32)), (.int (0 : Int32)), (.ref ax)])) rfl rfl (hb hby own_d9_13)
  refine own_w (T' := T4) (g' := (mkF m 16 #[.val (.ref pp), .val (.ref ay)] [(.int (3 : Int32)), (.int (0 : Int32)), (.int (0 : Int32)), (.ref ax)])) st4 ?_
  refine own_w (T' := T4) (g' := (mkF m 17 #[.val (.ref pp), .val (.ref ay)] [(.int (3 : Int32)), (.int (0 : Int32)), (.ref ax)])) (fun _ k_ => XS.iadd X4.here hx rfl (hb hby own_d9_16) rfl k_) ?_
  refine own_w (T' := T4) (g' := (mkF m 18 #[.val (.ref pp), .val (.ref ay)] [(.ref ay), (.int (3 : Int32)), (.int (0 : Int32)), (.ref ax)])) (fun _ k_ => XS.aloadN X4.here hx rfl (hb hby own_d9_17) rfl rfl k_) ?_
  refine own_w (T' := T4) (g' := (mkF m 19 #[.val (.ref pp), .val (.ref ay)] [(.int (0 : Int32)), (.ref ay), (.int (3 : Int32)), (.int (0 : Int32)), (.ref ax)])) (fun _ k_ => XS.iconst X4.here hx rfl (hb hby own_d9_18) k_) ?_
  refine own_w (T' := T4) (g' := (mkF m 20 #[.val (.ref pp), .val (.ref ay)] [(.ref ay), (.int (0 : Int32)), (.ref ay), (.int (3 : Int32)), (.int (0 : Int32)), (.ref ax)])) (fun _ k_ => XS.aloadN X4.here hx rfl (hb hby own_d9_19) rfl rfl k_) ?_
  obtain ⟨cl5, Ar5, hs5⟩ := id Vy
  have hl5 : cl5.slots.size.toInt32 = (3 : Int32) := by rw [hs5]; rfl
  refine own_w (T' := T4) (g' := (mkF m 21 #[.val (.ref pp), .val (.ref ay)] [(.int (3 : Int32)), (.int (0 : Int32)), (.ref ay), (.int (3 : Int32)), (.int (0 : Int32)), (.ref ax)])) (fun t_ k_ => X4.arraylength hx (by rw [e4]; exact Ar5.1) (State.isArrayOf_alike hZ.alike Ar5.2.1) (g := (mkF m 20 #[.val (.ref pp), .val (.ref ay)] [(.ref ay), (.int (0 : Int32)), (.ref ay), (.int (3 : Int32)), (.int (0 : Int32)), (.ref ax)])) rfl rfl (hb hby own_d9_20) t_ (by rw [hl5]; exact k_)) ?_
  obtain ⟨_, _, ⟨T6, L6, k6, n6⟩, -, X6, ⟨Lc6, hQ6, l6, y6, z6⟩, st6⟩ := Jvm.LawKit.callS X4 hx (y := (⟨"java/util/Arrays", "equals", "([BII[BII)Z"⟩ : MethodName)) hown (mvT hZ (hw _ (List.mem_of_getElem? (i := 58) rfl))) (mvT hZ (hw _ (List.mem_of_getElem? (i := 59) rfl))) (mvT hZ (hw _ (List.mem_of_getElem? (i := 49) rfl))) (mvT hZ (hw _ (List.mem_of_getElem? (i := 60) rfl))) (by decide) (backOf (W := 0) (own_rm10_3 l Z a0 hw [] ax ay x0 x1 x2 y0 y1 y2 h0 n0 Z0 Vx Vy) hZ (hw _ (List.mem_of_getElem? (i := 60) rfl)) (hw _ (List.mem_of_getElem? (i := 49) rfl)) (by decide) (by decide)) (g := (mkF m 21 #[.val (.ref pp), .val (.ref ay)] [(.int (3 : Int32)), (.int (0 : Int32)), (.ref ay), (.int (3 : Int32)), (.int (0 : Int32)), (.ref ax)])) rfl (by rw [hml]; rfl) (argsL := [(.ref ax), (.int (0 : Int32)), (.int (3 : Int32)), (.ref ay), (.int (0 : Int32)), (.int (3 : Int32))]) (rest := []) (lenOf own_pd2 rfl) rfl (by show 2 * 0 + _ ≤ _; exact Nat.le_of_eq rfl) (hb hby own_d9_21) (fun _ _ => ⟨rfl, e4, (by decide : 0 + 0 ≤ _), (by decide : 0 + 0 ≤ _)⟩)
  dsimp only [Pt.U, Pt.locs, Pt.cells, Pt.slots] at X6 l6 y6 z6 st6 hQ6
  subst l6 y6 z6
  obtain ⟨rfl, N6q, e6⟩ := hQ6
  have N6 := Fr.app N0 N6q
  refine own_w (T' := T6) (g' := (mkF m 24 #[.val (.ref pp), .val (.ref ay)] [(.int (if ([x0, x1, x2] = [y0, y1, y2]) then (1 : Int32) else 0))])) st6 ?_
  obtain ⟨fs, hr, hrun, hended, hW, hsame⟩ := X6.leave (v := some (.int (if ([x0, x1, x2] = [y0, y1, y2]) then (1 : Int32) else 0))) (fun h => by rw [Bd.returns] at h; cases h)
  exact ⟨_, _, retOut X6 hx Bd.returns own_nb (Or.inl ⟨rfl, Or.inr (Or.inl rfl), _, rfl⟩) (hb hby own_d9_24) hr, hrun, hended, _, _, rfl, (by show own_Q9_3 Z pp ay ax x0 x1 x2 y0 y1 y2 h0 n0 _ T6.heap _; rw [e6]; exact ⟨rfl, N6, rfl⟩), ⟨_, rfl⟩, hW, hsame.mono (by decide) (by decide)⟩
theorem own_rm5_3_ef (m : MethodId) (pp : Addr) : entryFrame m #[(.ref pp)] 1 = mkF m 0 #[.val (.ref pp)] [] := by first | (simp [entryFrame, mkF, argsToLocals, Value.category]; done) | rfl
def own_Q5_3 (Z : State) (pp : Addr) (h0 : Heap) (n0 : Nat) (v_ : Option Value) (h : Heap) (L_ : List Loc) : Prop := v_ = some (.int (3 : Int32)) ∧ Fr n0 L_ ∧ (h = h0)
set_option maxRecDepth 65536 in
set_option maxHeartbeats 40000000 in
theorem own_rm5_3 (l : Launch) (Z : State) (a0 : Array Value) (hw : ∀ d ∈ tables_1, d.before a0 Z = true) (ws : List Jvm.Cond) (pp : Addr) (h0 : Heap) (n0 : Nat) (Z0 : n0 ≤ h0.size) (F2 : Fld Z h0 pp "com/example/adjacency/adjacency/wire/PrefixedBytes" "length" "I" (.int (3 : Int32))) :
    MetFree l (⟨"com/example/adjacency/adjacency/wire/PrefixedBytes", "length", "()I"⟩ : MethodName) (head1 (Jvm.Cond.code (⟨"com/example/adjacency/adjacency/wire/PrefixedBytes", "length", "()I"⟩ : MethodName) prog_31_method_4_code 1 (some .int) :: ws) ({ frames := 0, cells := 0, slots := 0, locals := 0 } : Room)) (fun a_ U_ => a_ = #[(.ref pp)] ∧ Z.Warmed39 U_.vm ∧ U_.heap = h0) (fun _ _ _ _ _ => True) (fun _ U_ o_ V_ => ∃ v_ L_, o_ = .returned v_ ∧ own_Q5_3 Z pp h0 n0 v_ V_.heap L_ ∧ FrameEnd U_ o_ V_ L_ ({ frames := 0, cells := 0, slots := 0, locals := 0 } : Room).cells ({ frames := 0, cells := 0, slots := 0, locals := 0 } : Room).slots) := by
  refine MetFree.of_bodySF (plainFor_of_name own_pn_com_example_adjacency_adjacency_wire_PrefixedBytes) hisR ?_
  intro p e s m args below meth c s₁ Bd hml0 hP hK
  obtain ⟨rfl, hZ, hh⟩ := hP
  have hx := Bd.exec
  have hby := Bd.bytes
  have hml : c.maxLocals = 1 := hml0
  have hown : s.vm.findClass "com/example/adjacency/adjacency/wire/PrefixedBytes" = some m.cls := findClass_of_methodNamed Bd.named
  have hnm := (name_of_methodNamed Bd.named Bd.method).1
  have X0 : Stand p l e ({ frames := 0, cells := 0, slots := 0, locals := 0 } : Room) s m #[(.ref pp)] below meth c s₁ [] 0 0 := Stand.of_body Bd
  have e0 : s₁.heap = h0 := by rw [← hh, Bd.state]; rfl
  have N0 := Fr.nil n0
  show own_G p e below s (own_Q5_3 Z pp h0 n0) ({ frames := 0, cells := 0, slots := 0, locals := 0 } : Room).cells ({ frames := 0, cells := 0, slots := 0, locals := 0 } : Room).slots s₁ (entryFrame m #[(.ref pp)] 1)
  rw [own_rm5_3_ef]
  refine own_w (T' := s₁) (g' := (mkF m 1 #[.val (.ref pp)] [(.ref pp)])) (fun _ k_ => XS.aloadN X0.here hx rfl (hb hby own_d5_0) rfl rfl k_) ?_
  obtain ⟨T1, X1, e1, st1⟩ := getF X0 hx hZ hown (host := "") (Or.inl (hw _ (List.mem_of_getElem? (i := 26) rfl))) Via.refl e0 F2 (g := (mkF m 1 #[.val (.ref pp)] [(.ref pp)])) rfl rfl (hb hby own_d5_1)
  refine own_w (T' := T1) (g' := (mkF m 4 #[.val (.ref pp)] [(.int (3 : Int32))])) st1 ?_
  obtain ⟨fs, hr, hrun, hended, hW, hsame⟩ := X1.leave (v := some (.int (3 : Int32))) (fun h => by rw [Bd.returns] at h; cases h)
  exact ⟨_, _, retOut X1 hx Bd.returns rfl (Or.inl ⟨rfl, Or.inl rfl, _, rfl⟩) (hb hby own_d5_4) hr, hrun, hended, _, _, rfl, (by show own_Q5_3 Z pp h0 n0 _ T1.heap _; rw [e1]; exact ⟨rfl, N0, rfl⟩), ⟨_, rfl⟩, hW, hsame.mono (by decide) (by decide)⟩
theorem own_rm6_3_ef (m : MethodId) (pp : Addr) : entryFrame m #[(.ref pp)] 1 = mkF m 0 #[.val (.ref pp)] [] := by first | (simp [entryFrame, mkF, argsToLocals, Value.category]; done) | rfl
def own_Q6_3 (Z : State) (pp : Addr) (h0 : Heap) (n0 : Nat) (v_ : Option Value) (h : Heap) (L_ : List Loc) : Prop := v_ = some (.int (5 : Int32)) ∧ Fr n0 L_ ∧ (h = h0)
set_option maxRecDepth 65536 in
set_option maxHeartbeats 40000000 in
theorem own_rm6_3 (l : Launch) (Z : State) (a0 : Array Value) (hw : ∀ d ∈ tables_1, d.before a0 Z = true) (ws : List Jvm.Cond) (pp : Addr) (h0 : Heap) (n0 : Nat) (Z0 : n0 ≤ h0.size) (F2 : Fld Z h0 pp "com/example/adjacency/adjacency/wire/PrefixedBytes" "length" "I" (.int (3 : Int32))) :
    MetFree l (⟨"com/example/adjacency/adjacency/wire/PrefixedBytes", "prefixedLength", "()I"⟩ : MethodName) (head1 (Jvm.Cond.code (⟨"com/example/adjacency/adjacency/wire/PrefixedBytes", "prefixedLength", "()I"⟩ : MethodName) prog_31_method_5_code 1 (some .int) :: ws) ({ frames := 0, cells := 0, slots := 0, locals := 0 } : Room)) (fun a_ U_ => a_ = #[(.ref pp)] ∧ Z.Warmed39 U_.vm ∧ U_.heap = h0) (fun _ _ _ _ _ => True) (fun _ U_ o_ V_ => ∃ v_ L_, o_ = .returned v_ ∧ own_Q6_3 Z pp h0 n0 v_ V_.heap L_ ∧ FrameEnd U_ o_ V_ L_ ({ frames := 0, cells := 0, slots := 0, locals := 0 } : Room).cells ({ frames := 0, cells := 0, slots := 0, locals := 0 } : Room).slots) := by
  refine MetFree.of_bodySF (plainFor_of_name own_pn_com_example_adjacency_adjacency_wire_PrefixedBytes) hisR ?_
  intro p e s m args below meth c s₁ Bd hml0 hP hK
  obtain ⟨rfl, hZ, hh⟩ := hP
  have hx := Bd.exec
  have hby := Bd.bytes
  have hml : c.maxLocals = 1 := hml0
  have hown : s.vm.findClass "com/example/adjacency/adjacency/wire/PrefixedBytes" = some m.cls := findClass_of_methodNamed Bd.named
  have hnm := (name_of_methodNamed Bd.named Bd.method).1
  have X0 : Stand p l e ({ frames := 0, cells := 0, slots := 0, locals := 0 } : Room) s m #[(.ref pp)] below meth c s₁ [] 0 0 := Stand.of_body Bd
  have e0 : s₁.heap = h0 := by rw [← hh, Bd.state]; rfl
  have N0 := Fr.nil n0
  show own_G p e below s (own_Q6_3 Z pp h0 n0) ({ frames := 0, cells := 0, slots := 0, locals := 0 } : Room).cells ({ frames := 0, cells := 0, slots := 0, locals := 0 } : Room).slots s₁ (entryFrame m #[(.ref pp)] 1)
  rw [own_rm6_3_ef]
  refine own_w (T' := s₁) (g' := (mkF m 1 #[.val (.ref pp)] [(.int (2 : Int32))])) (fun _ k_ => XS.iconst X0.here hx rfl (hb hby own_d6_0) k_) ?_
  refine own_w (T' := s₁) (g' := (mkF m 2 #[.val (.ref pp)] [(.ref pp), (.int (2 : Int32))])) (fun _ k_ => XS.aloadN X0.here hx rfl (hb hby own_d6_1) rfl rfl k_) ?_
  obtain ⟨T1, X1, e1, st1⟩ := getF X0 hx hZ hown (host := "") (Or.inl (hw _ (List.mem_of_getElem? (i := 26) rfl))) Via.refl e0 F2 (g := (mkF m 2 #[.val (.ref pp)] [(.ref pp), (.int (2 : Int32))])) rfl rfl (hb hby own_d6_2)
  refine own_w (T' := T1) (g' := (mkF m 5 #[.val (.ref pp)] [(.int (3 : Int32)), (.int (2 : Int32))])) st1 ?_
  refine own_w (T' := T1) (g' := (mkF m 6 #[.val (.ref pp)] [(.int (5 : Int32))])) (fun _ k_ => XS.iadd X1.here hx rfl (hb hby own_d6_5) rfl k_) ?_
  obtain ⟨fs, hr, hrun, hended, hW, hsame⟩ := X1.leave (v := some (.int (5 : Int32))) (fun h => by rw [Bd.returns] at h; cases h)
  exact ⟨_, _, retOut X1 hx Bd.returns rfl (Or.inl ⟨rfl, Or.inl rfl, _, rfl⟩) (hb hby own_d6_6) hr, hrun, hended, _, _, rfl, (by show own_Q6_3 Z pp h0 n0 _ T1.heap _; rw [e1]; exact ⟨rfl, N0, rfl⟩), ⟨_, rfl⟩, hW, hsame.mono (by decide) (by decide)⟩
theorem own_rm8_3_ef (m : MethodId) (ax : Addr) : entryFrame m #[(.ref ax), (.int (0 : Int32)), (.int (3 : Int32))] 3 = mkF m 0 #[.val (.ref ax), .val (.int (0 : Int32)), .val (.int (3 : Int32))] [] := by first | (simp [entryFrame, mkF, argsToLocals, Value.category]; done) | rfl
def own_Q8_3 (Z : State) (ax : Addr) (x0 : Int32) (x1 : Int32) (x2 : Int32) (h0 : Heap) (n0 : Nat) (v_ : Option Value) (h : Heap) (L_ : List Loc) : Prop := v_ = some (.ref h0.size) ∧ Fr n0 L_ ∧ (Keep h0 h []) ∧ (own_Ar Z h h0.size .byte [x0, x1, x2])
set_option maxRecDepth 65536 in
set_option maxHeartbeats 40000000 in
theorem own_rm8_3 (l : Launch) (Z : State) (a0 : Array Value) (hw : ∀ d ∈ tables_1, d.before a0 Z = true) (ws : List Jvm.Cond) (ax : Addr) (x0 : Int32) (x1 : Int32) (x2 : Int32) (h0 : Heap) (n0 : Nat) (Z0 : n0 ≤ h0.size) (Vx : own_Ar Z h0 ax .byte [x0, x1, x2]) (Ex : Exa Z h0 ax "[B") (hf : ∀ x ∈ [x0, x1, x2], fits .byte (.int x) = true) :
    MetFree l (⟨"java/util/Arrays", "copyOfRange", "([BII)[B"⟩ : MethodName) (head1 (Jvm.Cond.code (⟨"java/util/Arrays", "copyOfRange", "([BII)[B"⟩ : MethodName) jdk_65_method_132_code 3 (some (.array .byte)) :: ws) ({ frames := 1, cells := 1, slots := 3, locals := 14 } : Room)) (fun a_ U_ => a_ = #[(.ref ax), (.int (0 : Int32)), (.int (3 : Int32))] ∧ Z.Warmed39 U_.vm ∧ U_.heap = h0) (fun _ _ _ _ _ => True) (fun _ U_ o_ V_ => ∃ v_ L_, o_ = .returned v_ ∧ own_Q8_3 Z ax x0 x1 x2 h0 n0 v_ V_.heap L_ ∧ FrameEnd U_ o_ V_ L_ ({ frames := 1, cells := 1, slots := 3, locals := 14 } : Room).cells ({ frames := 1, cells := 1, slots := 3, locals := 14 } : Room).slots) := by
  refine MetFree.of_bodySF (plainFor_of_name own_pn_java_util_Arrays) hisR ?_
  intro p e s m args below meth c s₁ Bd hml0 hP hK
  obtain ⟨rfl, hZ, hh⟩ := hP
  have hx := Bd.exec
  have hby := Bd.bytes
  have hml : c.maxLocals = 3 := hml0
  have hown : s.vm.findClass "java/util/Arrays" = some m.cls := findClass_of_methodNamed Bd.named
  have hnm := (name_of_methodNamed Bd.named Bd.method).1
  have X0 : Stand p l e ({ frames := 1, cells := 1, slots := 3, locals := 14 } : Room) s m #[(.ref ax), (.int (0 : Int32)), (.int (3 : Int32))] below meth c s₁ [] 0 0 := Stand.of_body Bd
  have e0 : s₁.heap = h0 := by rw [← hh, Bd.state]; rfl
  have N0 := Fr.nil n0
  show own_G p e below s (own_Q8_3 Z ax x0 x1 x2 h0 n0) ({ frames := 1, cells := 1, slots := 3, locals := 14 } : Room).cells ({ frames := 1, cells := 1, slots := 3, locals := 14 } : Room).slots s₁ (entryFrame m #[(.ref ax), (.int (0 : Int32)), (.int (3 : Int32))] 3)
  rw [own_rm8_3_ef]
  refine own_w (T' := s₁) (g' := (mkF m 1 #[.val (.ref ax), .val (.int (0 : Int32)), .val (.int (3 : Int32))] [(.int (0 : Int32))])) (fun _ k_ => XS.iloadN X0.here hx rfl (hb hby own_d8_0) rfl k_) ?_
  refine own_w (T' := s₁) (g' := (mkF m 4 #[.val (.ref ax), .val (.int (0 : Int32)), .val (.int (3 : Int32))] [])) (fun _ k_ => XS.ifNo X0.here hx rfl (hb hby own_d8_1) rfl ((if0 _ _).trans (teq rfl).2) k_) ?_
  refine own_w (T' := s₁) (g' := (mkF m 5 #[.val (.ref ax), .val (.int (0 : Int32)), .val (.int (3 : Int32))] [(.int (3 : Int32))])) (fun _ k_ => XS.iloadN X0.here hx rfl (hb hby own_d8_4) rfl k_) ?_
  refine own_w (T' := s₁) (g' := (mkF m 6 #[.val (.ref ax), .val (.int (0 : Int32)), .val (.int (3 : Int32))] [(.ref ax), (.int (3 : Int32))])) (fun _ k_ => XS.aloadN X0.here hx rfl (hb hby own_d8_5) rfl rfl k_) ?_
  obtain ⟨cl1, Ar1, hs1⟩ := id Vx
  have hl1 : cl1.slots.size.toInt32 = (3 : Int32) := by rw [hs1]; rfl
  refine own_w (T' := s₁) (g' := (mkF m 7 #[.val (.ref ax), .val (.int (0 : Int32)), .val (.int (3 : Int32))] [(.int (3 : Int32)), (.int (3 : Int32))])) (fun t_ k_ => X0.arraylength hx (by rw [e0]; exact Ar1.1) (State.isArrayOf_alike hZ.alike Ar1.2.1) (g := (mkF m 6 #[.val (.ref ax), .val (.int (0 : Int32)), .val (.int (3 : Int32))] [(.ref ax), (.int (3 : Int32))])) rfl rfl (hb hby own_d8_6) t_ (by rw [hl1]; exact k_)) ?_
  refine own_w (T' := s₁) (g' := (mkF m 17 #[.val (.ref ax), .val (.int (0 : Int32)), .val (.int (3 : Int32))] [])) (fun _ k_ => XS.icmpYes X0.here hx rfl (pc0 := 7) (pc' := 17) rfl (hb hby own_d8_7) rfl (teq rfl).1 (by decide) (by decide) k_) ?_
  refine own_w (T' := s₁) (g' := (mkF m 18 #[.val (.ref ax), .val (.int (0 : Int32)), .val (.int (3 : Int32))] [(.ref ax)])) (fun _ k_ => XS.aloadN X0.here hx rfl (hb hby own_d8_17) rfl rfl k_) ?_
  obtain ⟨cl2, Ar2, hs2⟩ := id Vx
  obtain ⟨T2, h2, X2, e2, E2, A2, Xa2, st2⟩ := cloneA X0 hx hZ hown (hw _ (List.mem_of_getElem? (i := 51) rfl)) (hw _ (List.mem_of_getElem? (i := 8) rfl)) (hw _ (List.mem_of_getElem? (i := 12) rfl)) (hw _ (List.mem_of_getElem? (i := 10) rfl)) (hw _ (List.mem_of_getElem? (i := 11) rfl)) (hw _ (List.mem_of_getElem? (i := 13) rfl)) e0 Ar2 Ex (own_fitc Ar2 hs2 hf) (g := (mkF m 18 #[.val (.ref ax), .val (.int (0 : Int32)), .val (.int (3 : Int32))] [(.ref ax)])) rfl (by rw [hml]; rfl) rfl (hb hby own_d8_18) (by decide) (W := 0) (cap := 3) (by show 2 * 0 + _ ≤ _; exact Nat.le_of_eq rfl) (by decide) (by rw [hs2]; simp) (by decide) (by decide)
  obtain ⟨b2, gq2⟩ : ∃ z, z = h0.size := ⟨_, rfl⟩
  rw [← gq2] at A2 Xa2 st2
  have V_b2 : own_Ar Z h2 b2 _ _ := ⟨_, A2, hs2⟩
  have X_b2 := Xa2
  have g_b2 : n0 ≤ b2 := Nat.le_trans Z0 (Nat.le_of_eq gq2.symm)
  have Z2 : n0 ≤ h2.size := Nat.le_trans Z0 E2.1
  refine own_w (T' := T2) (g' := (mkF m 21 #[.val (.ref ax), .val (.int (0 : Int32)), .val (.int (3 : Int32))] [(.ref b2)])) st2 ?_
  obtain ⟨T3, X3, e3, st3⟩ := castY X2 hx hZ hown (hw _ (List.mem_of_getElem? (i := 52) rfl)) e2 (Ins.self X_b2) (g := (mkF m 21 #[.val (.ref ax), .val (.int (0 : Int32)), .val (.int (3 : Int32))] [(.ref b2)])) rfl rfl (hb hby own_d8_21)
  refine own_w (T' := T3) (g' := (mkF m 24 #[.val (.ref ax), .val (.int (0 : Int32)), .val (.int (3 : Int32))] [(.ref b2)])) st3 ?_
  obtain ⟨fs, hr, hrun, hended, hW, hsame⟩ := X3.leave (v := some (.ref b2)) (fun h => by rw [Bd.returns] at h; cases h)
  exact ⟨_, _, retOut X3 hx Bd.returns rfl (Or.inr (Or.inr (Or.inr (Or.inr ⟨rfl, rfl, rfl⟩)))) (hb hby own_d8_24) hr, hrun, hended, _, _, rfl, (by show own_Q8_3 Z ax x0 x1 x2 h0 n0 _ T3.heap _; rw [e3]; exact ⟨(by rw [gq2]), N0, (Keep.refl _ _).ext E2, gq2 ▸ V_b2⟩), ⟨_, rfl⟩, hW, hsame.mono (by decide) (by decide)⟩
theorem own_rm7_3_ef (m : MethodId) (pp : Addr) : entryFrame m #[(.ref pp)] 1 = mkF m 0 #[.val (.ref pp)] [] := by first | (simp [entryFrame, mkF, argsToLocals, Value.category]; done) | rfl
def own_Q7_3 (Z : State) (pp : Addr) (ax : Addr) (x0 : Int32) (x1 : Int32) (x2 : Int32) (h0 : Heap) (n0 : Nat) (v_ : Option Value) (h : Heap) (L_ : List Loc) : Prop := v_ = some (.ref h0.size) ∧ Fr n0 L_ ∧ (Keep h0 h []) ∧ (own_Ar Z h h0.size .byte [x0, x1, x2])
set_option maxRecDepth 65536 in
set_option maxHeartbeats 40000000 in
theorem own_rm7_3 (l : Launch) (Z : State) (a0 : Array Value) (hw : ∀ d ∈ tables_1, d.before a0 Z = true) (ws : List Jvm.Cond) (pp : Addr) (ax : Addr) (x0 : Int32) (x1 : Int32) (x2 : Int32) (h0 : Heap) (n0 : Nat) (Z0 : n0 ≤ h0.size) (F0 : Fld Z h0 pp "com/example/adjacency/adjacency/wire/PrefixedBytes" "array" "[B" (.ref ax)) (F1 : Fld Z h0 pp "com/example/adjacency/adjacency/wire/PrefixedBytes" "offset" "I" (.int (0 : Int32))) (F2 : Fld Z h0 pp "com/example/adjacency/adjacency/wire/PrefixedBytes" "length" "I" (.int (3 : Int32))) (Vx : own_Ar Z h0 ax .byte [x0, x1, x2]) (Ex : Exa Z h0 ax "[B") (hf : ∀ x ∈ [x0, x1, x2], fits .byte (.int x) = true) :
    MetFree l (⟨"com/example/adjacency/adjacency/wire/PrefixedBytes", "toArray", "()[B"⟩ : MethodName) (head1 (Jvm.Cond.code (⟨"com/example/adjacency/adjacency/wire/PrefixedBytes", "toArray", "()[B"⟩ : MethodName) prog_31_method_7_code 1 (some (.array .byte)) :: ws) ({ frames := 2, cells := 1, slots := 3, locals := 28 } : Room)) (fun a_ U_ => a_ = #[(.ref pp)] ∧ Z.Warmed39 U_.vm ∧ U_.heap = h0) (fun _ _ _ _ _ => True) (fun _ U_ o_ V_ => ∃ v_ L_, o_ = .returned v_ ∧ own_Q7_3 Z pp ax x0 x1 x2 h0 n0 v_ V_.heap L_ ∧ FrameEnd U_ o_ V_ L_ ({ frames := 2, cells := 1, slots := 3, locals := 28 } : Room).cells ({ frames := 2, cells := 1, slots := 3, locals := 28 } : Room).slots) := by
  refine MetFree.of_bodySF (plainFor_of_name own_pn_com_example_adjacency_adjacency_wire_PrefixedBytes) hisR ?_
  intro p e s m args below meth c s₁ Bd hml0 hP hK
  obtain ⟨rfl, hZ, hh⟩ := hP
  have hx := Bd.exec
  have hby := Bd.bytes
  have hml : c.maxLocals = 1 := hml0
  have hown : s.vm.findClass "com/example/adjacency/adjacency/wire/PrefixedBytes" = some m.cls := findClass_of_methodNamed Bd.named
  have hnm := (name_of_methodNamed Bd.named Bd.method).1
  have X0 : Stand p l e ({ frames := 2, cells := 1, slots := 3, locals := 28 } : Room) s m #[(.ref pp)] below meth c s₁ [] 0 0 := Stand.of_body Bd
  have e0 : s₁.heap = h0 := by rw [← hh, Bd.state]; rfl
  have N0 := Fr.nil n0
  show own_G p e below s (own_Q7_3 Z pp ax x0 x1 x2 h0 n0) ({ frames := 2, cells := 1, slots := 3, locals := 28 } : Room).cells ({ frames := 2, cells := 1, slots := 3, locals := 28 } : Room).slots s₁ (entryFrame m #[(.ref pp)] 1)
  rw [own_rm7_3_ef]
  refine own_w (T' := s₁) (g' := (mkF m 1 #[.val (.ref pp)] [(.ref pp)])) (fun _ k_ => XS.aloadN X0.here hx rfl (hb hby own_d7_0) rfl rfl k_) ?_
  obtain ⟨T1, X1, e1, st1⟩ := getF X0 hx hZ hown (host := "") (Or.inl (hw _ (List.mem_of_getElem? (i := 22) rfl))) Via.refl e0 F0 (g := (mkF m 1 #[.val (.ref pp)] [(.ref pp)])) rfl rfl (hb hby own_d7_1)
  refine own_w (T' := T1) (g' := (mkF m 4 #[.val (.ref pp)] [(.ref ax)])) st1 ?_
  refine own_w (T' := T1) (g' := (mkF m 5 #[.val (.ref pp)] [(.ref pp), (.ref ax)])) (fun _ k_ => XS.aloadN X1.here hx rfl (hb hby own_d7_4) rfl rfl k_) ?_
  obtain ⟨T2, X2, e2, st2⟩ := getF X1 hx hZ hown (host := "") (Or.inl (hw _ (List.mem_of_getElem? (i := 24) rfl))) Via.refl e1 F1 (g := (mkF m 5 #[.val (.ref pp)] [(.ref pp), (.ref ax)])) rfl rfl (hb hby own_d7_5)
  refine own_w (T' := T2) (g' := (mkF m 8 #[.val (.ref pp)] [(.int (0 : Int32)), (.ref ax)])) st2 ?_
  refine own_w (T' := T2) (g' := (mkF m 9 #[.val (.ref pp)] [(.ref pp), (.int (0 : Int32)), (.ref ax)])) (fun _ k_ => XS.aloadN X2.here hx rfl (hb hby own_d7_8) rfl rfl k_) ?_
  obtain ⟨T3, X3, e3, st3⟩ := getF X2 hx hZ hown (host := "") (Or.inl (hw _ (List.mem_of_getElem? (i := 24) rfl))) Via.refl e2 F1 (g := (mkF m 9 #[.val (.ref pp)] [(.ref pp), (.int (0 : Int32)), (.ref ax)])) rfl rfl (hb hby own_d7_9)
  refine own_w (T' := T3) (g' := (mkF m 12 #[.val (.ref pp)] [(.int (0 : Int32)), (.int (0 : Int32)), (.ref ax)])) st3 ?_
  refine own_w (T' := T3) (g' := (mkF m 13 #[.val (.ref pp)] [(.ref pp), (.int (0 : Int32)), (.int (0 : Int32)), (.ref ax)])) (fun _ k_ => XS.aloadN X3.here hx rfl (hb hby own_d7_12) rfl rfl k_) ?_
  obtain ⟨T4, X4, e4, st4⟩ := getF X3 hx hZ hown (host := "") (Or.inl (hw _ (List.mem_of_getElem? (i := 26) rfl))) Via.refl e3 F2 (g := (mkF m 13 #[.val (.ref pp)] [(.ref pp), (.int (0 : Int32)), (.int (0 : Int32)), (.ref ax)])) rfl rfl (hb hby own_d7_13)
  refine own_w (T' := T4) (g' := (mkF m 16 #[.val (.ref pp)] [(.int (3 : Int32)), (.int (0 : Int32)), (.int (0 : Int32)), (.ref ax)])) st4 ?_
  refine own_w (T' := T4) (g' := (mkF m 17 #[.val (.ref pp)] [(.int (3 : Int32)), (.int (0 : Int32)), (.ref ax)])) (fun _ k_ => XS.iadd X4.here hx rfl (hb hby own_d7_16) rfl k_) ?_
  obtain ⟨_, _, ⟨T5, L5, k5, n5⟩, -, X5, ⟨Lc5, hQ5, l5, y5, z5⟩, st5⟩ := Jvm.LawKit.callS X4 hx (y := (⟨"java/util/Arrays", "copyOfRange", "([BII)[B"⟩ : MethodName)) hown (mvT hZ (hw _ (List.mem_of_getElem? (i := 47) rfl))) (mvT hZ (hw _ (List.mem_of_getElem? (i := 48) rfl))) (mvT hZ (hw _ (List.mem_of_getElem? (i := 49) rfl))) (mvT hZ (hw _ (List.mem_of_getElem? (i := 50) rfl))) (by decide) (backOf (W := 0) (own_rm8_3 l Z a0 hw [] ax x0 x1 x2 h0 n0 Z0 Vx Ex hf) hZ (hw _ (List.mem_of_getElem? (i := 50) rfl)) (hw _ (List.mem_of_getElem? (i := 49) rfl)) (by decide) (by decide)) (g := (mkF m 17 #[.val (.ref pp)] [(.int (3 : Int32)), (.int (0 : Int32)), (.ref ax)])) rfl (by rw [hml]; rfl) (argsL := [(.ref ax), (.int (0 : Int32)), (.int (3 : Int32))]) (rest := []) (lenOf own_pd3 rfl) rfl (by show 2 * 0 + _ ≤ _; exact Nat.le_of_eq rfl) (hb hby own_d7_17) (fun _ _ => ⟨rfl, e4, (by decide : 0 + 1 ≤ _), (by decide : 0 + 3 ≤ _)⟩)
  dsimp only [Pt.U, Pt.locs, Pt.cells, Pt.slots] at X5 l5 y5 z5 st5 hQ5
  subst l5 y5 z5
  obtain ⟨h5, e5⟩ : ∃ h, T5.heap = h := ⟨_, rfl⟩
  rw [e5] at hQ5
  obtain ⟨rfl, N5q, K5, V5⟩ := hQ5
  have N5 := Fr.app N0 N5q
  refine own_w (T' := T5) (g' := (mkF m 20 #[.val (.ref pp)] [(.ref h0.size)])) st5 ?_
  obtain ⟨fs, hr, hrun, hended, hW, hsame⟩ := X5.leave (v := some (.ref h0.size)) (fun h => by rw [Bd.returns] at h; cases h)
  exact ⟨_, _, retOut X5 hx Bd.returns rfl (Or.inr (Or.inr (Or.inr (Or.inr ⟨rfl, rfl, rfl⟩)))) (hb hby own_d7_20) hr, hrun, hended, _, _, rfl, (by show own_Q7_3 Z pp ax x0 x1 x2 h0 n0 _ T5.heap _; rw [e5]; exact ⟨rfl, N5, K5, V5⟩), ⟨_, rfl⟩, hW, hsame.mono (by decide) (by decide)⟩
theorem own_rm1_3_ef (m : MethodId) (ax : Addr) : entryFrame m #[(.ref ax)] 1 = mkF m 0 #[.val (.ref ax)] [] := by first | (simp [entryFrame, mkF, argsToLocals, Value.category]; done) | rfl
def own_Q1_3 (Z : State) (ax : Addr) (x0 : Int32) (x1 : Int32) (x2 : Int32) (h0 : Heap) (n0 : Nat) (v_ : Option Value) (h : Heap) (L_ : List Loc) : Prop := v_ = some (.ref h0.size) ∧ Fr n0 L_ ∧ (Keep h0 h []) ∧ (Exa Z h h0.size "com/example/adjacency/adjacency/wire/PrefixedBytes") ∧ (∃ ar, h0.size < ar ∧ Fld Z h h0.size "com/example/adjacency/adjacency/wire/PrefixedBytes" "array" "[B" (.ref ar) ∧ Fld Z h h0.size "com/example/adjacency/adjacency/wire/PrefixedBytes" "offset" "I" (.int (0 : Int32)) ∧ Fld Z h h0.size "com/example/adjacency/adjacency/wire/PrefixedBytes" "length" "I" (.int (3 : Int32)) ∧ own_Ar Z h ar .byte [x0, x1, x2] ∧ Exa Z h ar "[B")
set_option maxRecDepth 65536 in
set_option maxHeartbeats 40000000 in
theorem own_rm1_3 (l : Launch) (Z : State) (a0 : Array Value) (hw : ∀ d ∈ tables_1, d.before a0 Z = true) (ws : List Jvm.Cond) (ax : Addr) (x0 : Int32) (x1 : Int32) (x2 : Int32) (h0 : Heap) (n0 : Nat) (Z0 : n0 ≤ h0.size) (Vx : own_Ar Z h0 ax .byte [x0, x1, x2]) (Ex : Exa Z h0 ax "[B") (hf : ∀ x ∈ [x0, x1, x2], fits .byte (.int x) = true) :
    MetFree l (⟨"com/example/adjacency/adjacency/wire/PrefixedBytes", "copyOf", "([B)Lcom/example/adjacency/adjacency/wire/PrefixedBytes;"⟩ : MethodName) (head1 (Jvm.Cond.code (⟨"com/example/adjacency/adjacency/wire/PrefixedBytes", "copyOf", "([B)Lcom/example/adjacency/adjacency/wire/PrefixedBytes;"⟩ : MethodName) prog_31_method_2_code 1 (some (.object "com/example/adjacency/adjacency/wire/PrefixedBytes")) :: ws) ({ frames := 2, cells := 2, slots := 6, locals := 28 } : Room)) (fun a_ U_ => a_ = #[(.ref ax)] ∧ Z.Warmed39 U_.vm ∧ U_.heap = h0) (fun _ _ _ _ _ => True) (fun _ U_ o_ V_ => ∃ v_ L_, o_ = .returned v_ ∧ own_Q1_3 Z ax x0 x1 x2 h0 n0 v_ V_.heap L_ ∧ FrameEnd U_ o_ V_ L_ ({ frames := 2, cells := 2, slots := 6, locals := 28 } : Room).cells ({ frames := 2, cells := 2, slots := 6, locals := 28 } : Room).slots) := by
  refine MetFree.of_bodySF (plainFor_of_name own_pn_com_example_adjacency_adjacency_wire_PrefixedBytes) hisR ?_
  intro p e s m args below meth c s₁ Bd hml0 hP hK
  obtain ⟨rfl, hZ, hh⟩ := hP
  have hx := Bd.exec
  have hby := Bd.bytes
  have hml : c.maxLocals = 1 := hml0
  have hown : s.vm.findClass "com/example/adjacency/adjacency/wire/PrefixedBytes" = some m.cls := findClass_of_methodNamed Bd.named
  have hnm := (name_of_methodNamed Bd.named Bd.method).1
  have X0 : Stand p l e ({ frames := 2, cells := 2, slots := 6, locals := 28 } : Room) s m #[(.ref ax)] below meth c s₁ [] 0 0 := Stand.of_body Bd
  have e0 : s₁.heap = h0 := by rw [← hh, Bd.state]; rfl
  have N0 := Fr.nil n0
  show own_G p e below s (own_Q1_3 Z ax x0 x1 x2 h0 n0) ({ frames := 2, cells := 2, slots := 6, locals := 28 } : Room).cells ({ frames := 2, cells := 2, slots := 6, locals := 28 } : Room).slots s₁ (entryFrame m #[(.ref ax)] 1)
  rw [own_rm1_3_ef]
  obtain ⟨T1, h1, X1, e1, E1, A1, D1, -, st1⟩ := newO X0 hx hZ hown (hw _ (List.mem_of_getElem? (i := 5) rfl)) (hw _ (List.mem_of_getElem? (i := 6) rfl)) (hw _ (List.mem_of_getElem? (i := 3) rfl)) e0 (g := (mkF m 0 #[.val (.ref ax)] [])) rfl (hb hby own_d1_0) (by decide) (by decide)
  obtain ⟨b1, gq1⟩ : ∃ z, z = h0.size := ⟨_, rfl⟩
  rw [← gq1] at A1 D1 st1
  have g_b1 : n0 ≤ b1 := Nat.le_trans Z0 (Nat.le_of_eq gq1.symm)
  have Z1 : n0 ≤ h1.size := Nat.le_trans Z0 E1.1
  refine own_w (T' := T1) (g' := (mkF m 3 #[.val (.ref ax)] [(.ref b1)])) st1 ?_
  refine own_w (T' := T1) (g' := (mkF m 4 #[.val (.ref ax)] [(.ref b1), (.ref b1)])) (fun _ k_ => XS.dup X1.here hx rfl (hb hby own_d1_3) rfl rfl k_) ?_
  refine own_w (T' := T1) (g' := (mkF m 5 #[.val (.ref ax)] [(.ref ax), (.ref b1), (.ref b1)])) (fun _ k_ => XS.aloadN X1.here hx rfl (hb hby own_d1_4) rfl rfl k_) ?_
  obtain ⟨cl2, Ar2, hs2⟩ := id (own_Ar_ext Vx E1)
  obtain ⟨T2, h2, X2, e2, E2, A2, Xa2, st2⟩ := cloneA X1 hx hZ hown (hw _ (List.mem_of_getElem? (i := 7) rfl)) (hw _ (List.mem_of_getElem? (i := 8) rfl)) (hw _ (List.mem_of_getElem? (i := 12) rfl)) (hw _ (List.mem_of_getElem? (i := 10) rfl)) (hw _ (List.mem_of_getElem? (i := 11) rfl)) (hw _ (List.mem_of_getElem? (i := 13) rfl)) e1 Ar2 (Ex.ext E1) (own_fitc Ar2 hs2 hf) (g := (mkF m 5 #[.val (.ref ax)] [(.ref ax), (.ref b1), (.ref b1)])) rfl (by rw [hml]; rfl) rfl (hb hby own_d1_5) (by decide) (W := 2) (cap := 3) (by show 2 * 0 + _ ≤ _; exact Nat.le_of_eq rfl) (by decide) (by rw [hs2]; simp) (by decide) (by decide)
  obtain ⟨b2, gq2⟩ : ∃ z, z = h1.size := ⟨_, rfl⟩
  rw [← gq2] at A2 Xa2 st2
  have V_b2 : own_Ar Z h2 b2 _ _ := ⟨_, A2, hs2⟩
  have X_b2 := Xa2
  have g_b2 : n0 ≤ b2 := Nat.le_trans Z1 (Nat.le_of_eq gq2.symm)
  have Z2 : n0 ≤ h2.size := Nat.le_trans Z1 E2.1
  refine own_w (T' := T2) (g' := (mkF m 8 #[.val (.ref ax)] [(.ref b2), (.ref b1), (.ref b1)])) st2 ?_
  obtain ⟨T3, X3, e3, st3⟩ := castY X2 hx hZ hown (hw _ (List.mem_of_getElem? (i := 14) rfl)) e2 (Ins.self X_b2) (g := (mkF m 8 #[.val (.ref ax)] [(.ref b2), (.ref b1), (.ref b1)])) rfl rfl (hb hby own_d1_8)
  refine own_w (T' := T3) (g' := (mkF m 11 #[.val (.ref ax)] [(.ref b2), (.ref b1), (.ref b1)])) st3 ?_
  refine own_w (T' := T3) (g' := (mkF m 12 #[.val (.ref ax)] [(.int (0 : Int32)), (.ref b2), (.ref b1), (.ref b1)])) (fun _ k_ => XS.iconst X3.here hx rfl (hb hby own_d1_11) k_) ?_
  refine own_w (T' := T3) (g' := (mkF m 13 #[.val (.ref ax)] [(.ref ax), (.int (0 : Int32)), (.ref b2), (.ref b1), (.ref b1)])) (fun _ k_ => XS.aloadN X3.here hx rfl (hb hby own_d1_12) rfl rfl k_) ?_
  obtain ⟨cl4, Ar4, hs4⟩ := id (own_Ar_ext (own_Ar_ext Vx E1) E2)
  have hl4 : cl4.slots.size.toInt32 = (3 : Int32) := by rw [hs4]; rfl
  refine own_w (T' := T3) (g' := (mkF m 14 #[.val (.ref ax)] [(.int (3 : Int32)), (.int (0 : Int32)), (.ref b2), (.ref b1), (.ref b1)])) (fun t_ k_ => X3.arraylength hx (by rw [e3]; exact Ar4.1) (State.isArrayOf_alike hZ.alike Ar4.2.1) (g := (mkF m 13 #[.val (.ref ax)] [(.ref ax), (.int (0 : Int32)), (.ref b2), (.ref b1), (.ref b1)])) rfl rfl (hb hby own_d1_13) t_ (by rw [hl4]; exact k_)) ?_
  obtain ⟨_, _, ⟨T5, L5, k5, n5⟩, -, X5, ⟨Lc5, hQ5, l5, y5, z5⟩, st5⟩ := X3.specialBack hx (y := (⟨"com/example/adjacency/adjacency/wire/PrefixedBytes", "<init>", "([BII)V"⟩ : MethodName)) rfl hown (mvT hZ (hw _ (List.mem_of_getElem? (i := 16) rfl))) (mvT hZ (hw _ (List.mem_of_getElem? (i := 17) rfl))) (mvT hZ (hw _ (List.mem_of_getElem? (i := 18) rfl))) (by decide) (backOf (W := 1) (own_rm2 l Z a0 hw [] b1 b2 (0 : Int32) (3 : Int32) _ _ _ h2 n0 Z2 ((D1 (Or.inr (hw _ (List.mem_of_getElem? (i := 23) rfl))) (ty := (.array .byte)) (by decide)).ext E2) ((D1 (Or.inr (hw _ (List.mem_of_getElem? (i := 25) rfl))) (ty := .int) (by decide)).ext E2) ((D1 (Or.inr (hw _ (List.mem_of_getElem? (i := 27) rfl))) (ty := .int) (by decide)).ext E2) (A1.ext E2) g_b1) hZ (hw _ (List.mem_of_getElem? (i := 18) rfl)) (hw _ (List.mem_of_getElem? (i := 3) rfl)) (by decide) (by decide)) (g := (mkF m 14 #[.val (.ref ax)] [(.int (3 : Int32)), (.int (0 : Int32)), (.ref b2), (.ref b1), (.ref b1)])) rfl (by rw [hml]; rfl) (Steps.refl _) (a := b1) (argsL := [(.ref b2), (.int (0 : Int32)), (.int (3 : Int32))]) (rest := [(.ref b1)]) (lenOf own_pd4 rfl) rfl (by show 2 * 0 + _ ≤ _; exact Nat.le_of_eq rfl) (hb hby own_d1_14) (fun _ _ => ⟨rfl, e3, (by decide : 2 + 0 ≤ _), (by decide : 6 + 0 ≤ _)⟩)
  dsimp only [Pt.U, Pt.locs, Pt.cells, Pt.slots] at X5 l5 y5 z5 st5 hQ5
  subst l5 y5 z5
  obtain ⟨h5, e5⟩ : ∃ h, T5.heap = h := ⟨_, rfl⟩
  rw [e5] at hQ5
  obtain ⟨rfl, N5q, K5, P50, P51, P52⟩ := hQ5
  have N5 := Fr.app N0 N5q
  refine own_t (T' := T5) (g' := (mkF m 17 #[.val (.ref ax)] [(.ref b1)])) st5 ?_
  have lt : b1 < b2 := Nat.lt_of_lt_of_le A1.lt (Nat.le_of_eq gq2.symm)
  have KA : Keep h0 h5 [] := (((Keep.refl h0 []).ext E1).ext E2).trans K5 (fun x hx => Or.inr (by have q := List.mem_singleton.mp hx; rw [q]; exact Nat.le_of_eq gq1.symm))
  have VA := own_Ar_keep V_b2 K5 (by simpa using Nat.ne_of_gt lt)
  have XA := X_b2.keep K5
  have EA := (A1.ext E2).keep K5
  obtain ⟨fs, hr, hrun, hended, hW, hsame⟩ := X5.leave (v := some (.ref b1)) (fun h => by rw [Bd.returns] at h; cases h)
  exact ⟨_, _, retOut X5 hx Bd.returns rfl (Or.inr (Or.inr (Or.inr (Or.inr ⟨rfl, rfl, rfl⟩)))) (hb hby own_d1_17) hr, hrun, hended, _, _, rfl, (by show own_Q1_3 Z ax x0 x1 x2 h0 n0 _ T5.heap _; rw [e5]; exact ⟨(by rw [gq1]), N5, KA, gq1 ▸ EA, ⟨b2, gq1 ▸ lt, gq1 ▸ P50, gq1 ▸ P51, gq1 ▸ P52, VA, XA⟩⟩), ⟨_, rfl⟩, hW, hsame.mono (by decide) (by decide)⟩
theorem own_m3 (x : Int32) {n : Int32} (h : (x &&& (3 : Int32)) = n) : n = 0 ∨ n = 1 ∨ n = 2 ∨ n = 3 := by
  have q := c_and x 3 (by decide)
  rw [h] at q
  simp only [← Int32.toInt_inj, show (0 : Int32).toInt = 0 by decide, show (1 : Int32).toInt = 1 by decide, show (2 : Int32).toInt = 2 by decide, show (3 : Int32).toInt = 3 by decide] at *
  omega
theorem own_pd5 : parseMethodDescriptor "([B)Lcom/example/adjacency/adjacency/wire/PrefixedBytes;" = some ⟨[(.array .byte)], some (.object "com/example/adjacency/adjacency/wire/PrefixedBytes")⟩ := by decide +kernel
theorem own_pd6 : parseMethodDescriptor "([B[BI)Z" = some ⟨[(.array .byte), (.array .byte), .int], some .boolean⟩ := by decide +kernel
theorem own_pd7 : parseMethodDescriptor "()I" = some ⟨[], some .int⟩ := by decide +kernel
theorem own_pd8 : parseMethodDescriptor "()[B" = some ⟨[], some (.array .byte)⟩ := by decide +kernel
theorem own_pd9 : parseMethodDescriptor "([B)Z" = some ⟨[(.array .byte)], some .boolean⟩ := by decide +kernel
theorem own_rm0_ef (m : MethodId) (sel : Int32) (p0 : Int32) (p1 : Int32) (p2 : Int32) : entryFrame m #[(.int sel), (.int p0), (.int p1), (.int p2)] maxLocals = mkF m 0 #[.val (.int sel), .val (.int p0), .val (.int p1), .val (.int p2), .unset, .unset, .unset, .unset] [] := by first | (simp [entryFrame, mkF, argsToLocals, Value.category, maxLocals]; done) | rfl
def own_Q0 (Z : State) (sel : Int32) (p0 : Int32) (p1 : Int32) (p2 : Int32) (h0 : Heap) (n0 : Nat) (v_ : Option Value) (h : Heap) (L_ : List Loc) : Prop := v_ = some (.int (1 : Int32)) ∧ Fr n0 L_
set_option maxRecDepth 65536 in
set_option maxHeartbeats 40000000 in
theorem own_rm0 (l : Launch) (Z : State) (a0 : Array Value) (hw : ∀ d ∈ tables_1, d.before a0 Z = true) (ws : List Jvm.Cond) (sel : Int32) (p0 : Int32) (p1 : Int32) (p2 : Int32) (h0 : Heap) (n0 : Nat) (Z0 : n0 ≤ h0.size)  :
    MetFree l x (head1 (Jvm.Cond.code x code maxLocals ret :: ws) room_1) (fun a_ U_ => a_ = #[(.int sel), (.int p0), (.int p1), (.int p2)] ∧ Z.Warmed39 U_.vm ∧ U_.heap = h0) (fun _ _ _ _ _ => True) (fun _ U_ o_ V_ => ∃ v_ L_, o_ = .returned v_ ∧ own_Q0 Z sel p0 p1 p2 h0 n0 v_ V_.heap L_ ∧ FrameEnd U_ o_ V_ L_ room_1.cells room_1.slots) := by
  refine MetFree.of_bodySF (plainFor_of_name own_pn_com_example_adjacency_adjacency_wire_PrefixedBytesCopyOfPinLaw) hisR ?_
  intro p e s m args below meth c s₁ Bd hml0 hP hK
  obtain ⟨rfl, hZ, hh⟩ := hP
  have hx := Bd.exec
  have hby := Bd.bytes
  have hml : c.maxLocals = 8 := hml0
  have hown : s.vm.findClass "com/example/adjacency/adjacency/wire/PrefixedBytesCopyOfPinLaw" = some m.cls := findClass_of_methodNamed Bd.named
  have hnm := (name_of_methodNamed Bd.named Bd.method).1
  have X0 : Stand p l e room_1 s m #[(.int sel), (.int p0), (.int p1), (.int p2)] below meth c s₁ [] 0 0 := Stand.of_body Bd
  have e0 : s₁.heap = h0 := by rw [← hh, Bd.state]; rfl
  have N0 := Fr.nil n0
  show own_G p e below s (own_Q0 Z sel p0 p1 p2 h0 n0) room_1.cells room_1.slots s₁ (entryFrame m #[(.int sel), (.int p0), (.int p1), (.int p2)] maxLocals)
  rw [own_rm0_ef]
  refine own_w (T' := s₁) (g' := (mkF m 1 #[.val (.int sel), .val (.int p0), .val (.int p1), .val (.int p2), .unset, .unset, .unset, .unset] [(.int sel)])) (fun _ k_ => XS.iloadN X0.here hx rfl (hb hby at_0) rfl k_) ?_
  refine own_w (T' := s₁) (g' := (mkF m 2 #[.val (.int sel), .val (.int p0), .val (.int p1), .val (.int p2), .unset, .unset, .unset, .unset] [(.int (3 : Int32)), (.int sel)])) (fun _ k_ => XS.iconst X0.here hx rfl (hb hby at_1) k_) ?_
  refine own_w (T' := s₁) (g' := (mkF m 3 #[.val (.int sel), .val (.int p0), .val (.int p1), .val (.int p2), .unset, .unset, .unset, .unset] [(.int (sel &&& (3 : Int32)))])) (fun _ k_ => XS.iand X0.here hx rfl (hb hby at_2) rfl k_) ?_
  refine own_w (T' := s₁) (g' := (mkF m 5 #[.val (.int sel), .val (.int p0), .val (.int p1), .val (.int p2), .val (.int (sel &&& (3 : Int32))), .unset, .unset, .unset] [])) (fun _ k_ => XS.istore X0.here hx rfl (hb hby at_3) rfl (l' := #[.val (.int sel), .val (.int p0), .val (.int p1), .val (.int p2), .val (.int (sel &&& (3 : Int32))), .unset, .unset, .unset]) rfl k_) ?_
  generalize hnn : (sel &&& (3 : Int32)) = nn
  rcases own_m3 sel hnn with rfl | rfl | rfl | rfl
  · refine own_w (T' := s₁) (g' := (mkF m 7 #[.val (.int sel), .val (.int p0), .val (.int p1), .val (.int p2), .val (.int (0 : Int32)), .unset, .unset, .unset] [(.int (0 : Int32))])) (fun _ k_ => XS.iload X0.here hx rfl (hb hby at_5) rfl k_) ?_
    obtain ⟨T1, h1, k1, X1, e1, E1, A1, Xa1, st1⟩ := newPE X0 hx hZ (hw _ (List.mem_of_getElem? (i := 0) rfl)) e0 (g := (mkF m 7 #[.val (.int sel), .val (.int p0), .val (.int p1), .val (.int p2), .val (.int (0 : Int32)), .unset, .unset, .unset] [(.int (0 : Int32))])) rfl (hb hby at_7) rfl (by decide) (cap := 0) (by decide) (by decide) (by decide) (by decide) (ad := "[B") (by decide)
    obtain ⟨b1, gq1⟩ : ∃ z, z = h0.size := ⟨_, rfl⟩
    rw [← gq1] at A1 Xa1 st1
    have V_b1 := own_Ar_new A1 rfl (k := 0) rfl
    have X_b1 := Xa1
    have g_b1 : n0 ≤ b1 := Nat.le_trans Z0 (Nat.le_of_eq gq1.symm)
    have Z1 : n0 ≤ h1.size := Nat.le_trans Z0 E1.1
    refine own_w (T' := T1) (g' := (mkF m 9 #[.val (.int sel), .val (.int p0), .val (.int p1), .val (.int p2), .val (.int (0 : Int32)), .unset, .unset, .unset] [(.ref b1)])) st1 ?_
    refine own_w (T' := T1) (g' := (mkF m 11 #[.val (.int sel), .val (.int p0), .val (.int p1), .val (.int p2), .val (.int (0 : Int32)), .val (.ref b1), .unset, .unset] [])) (fun _ k_ => XS.astore X1.here hx rfl (hb hby at_9) rfl rfl (l' := #[.val (.int sel), .val (.int p0), .val (.int p1), .val (.int p2), .val (.int (0 : Int32)), .val (.ref b1), .unset, .unset]) rfl k_) ?_
    refine own_w (T' := T1) (g' := (mkF m 13 #[.val (.int sel), .val (.int p0), .val (.int p1), .val (.int p2), .val (.int (0 : Int32)), .val (.ref b1), .unset, .unset] [(.int (0 : Int32))])) (fun _ k_ => XS.iload X1.here hx rfl (hb hby at_11) rfl k_) ?_
    obtain ⟨T2, h2, k2, X2, e2, E2, A2, Xa2, st2⟩ := newPE X1 hx hZ (hw _ (List.mem_of_getElem? (i := 0) rfl)) e1 (g := (mkF m 13 #[.val (.int sel), .val (.int p0), .val (.int p1), .val (.int p2), .val (.int (0 : Int32)), .val (.ref b1), .unset, .unset] [(.int (0 : Int32))])) rfl (hb hby at_13) rfl (by decide) (cap := 0) (by decide) (by decide) (by decide) (by decide) (ad := "[B") (by decide)
    obtain ⟨b2, gq2⟩ : ∃ z, z = h1.size := ⟨_, rfl⟩
    rw [← gq2] at A2 Xa2 st2
    have V_b2 := own_Ar_new A2 rfl (k := 0) rfl
    have X_b2 := Xa2
    have g_b2 : n0 ≤ b2 := Nat.le_trans Z1 (Nat.le_of_eq gq2.symm)
    have Z2 : n0 ≤ h2.size := Nat.le_trans Z1 E2.1
    refine own_w (T' := T2) (g' := (mkF m 15 #[.val (.int sel), .val (.int p0), .val (.int p1), .val (.int p2), .val (.int (0 : Int32)), .val (.ref b1), .unset, .unset] [(.ref b2)])) st2 ?_
    have ne : b1 ≠ b2 := Nat.ne_of_lt (Nat.lt_of_lt_of_le (own_Ar_lt V_b1) (Nat.le_of_eq gq2.symm))
    have Va := own_Ar_ext V_b1 E2
    have Xa := X_b1.ext E2
    have Vb := V_b2
    have Xb := X_b2
    refine own_w (T' := T2) (g' := (mkF m 17 #[.val (.int sel), .val (.int p0), .val (.int p1), .val (.int p2), .val (.int (0 : Int32)), .val (.ref b1), .val (.ref b2), .unset] [])) (fun _ k_ => XS.astore X2.here hx rfl (hb hby at_15) rfl rfl (l' := #[.val (.int sel), .val (.int p0), .val (.int p1), .val (.int p2), .val (.int (0 : Int32)), .val (.ref b1), .val (.ref b2), .unset]) rfl k_) ?_
    refine own_w (T' := T2) (g' := (mkF m 19 #[.val (.int sel), .val (.int p0), .val (.int p1), .val (.int p2), .val (.int (0 : Int32)), .val (.ref b1), .val (.ref b2), .unset] [(.int (0 : Int32))])) (fun _ k_ => XS.iload X2.here hx rfl (hb hby at_17) rfl k_) ?_
    refine own_w (T' := T2) (g' := (mkF m 34 #[.val (.int sel), .val (.int p0), .val (.int p1), .val (.int p2), .val (.int (0 : Int32)), .val (.ref b1), .val (.ref b2), .unset] [])) (fun _ k_ => XS.ifYes X2.here hx rfl (pc0 := 19) (pc' := 34) rfl (hb hby at_19) rfl ((if0 _ _).trans (flt (by decide)).2.2.2) (by decide) (by decide) k_) ?_
    refine own_w (T' := T2) (g' := (mkF m 36 #[.val (.int sel), .val (.int p0), .val (.int p1), .val (.int p2), .val (.int (0 : Int32)), .val (.ref b1), .val (.ref b2), .unset] [(.int (0 : Int32))])) (fun _ k_ => XS.iload X2.here hx rfl (hb hby at_34) rfl k_) ?_
    refine own_w (T' := T2) (g' := (mkF m 37 #[.val (.int sel), .val (.int p0), .val (.int p1), .val (.int p2), .val (.int (0 : Int32)), .val (.ref b1), .val (.ref b2), .unset] [(.int (1 : Int32)), (.int (0 : Int32))])) (fun _ k_ => XS.iconst X2.here hx rfl (hb hby at_36) k_) ?_
    refine own_w (T' := T2) (g' := (mkF m 52 #[.val (.int sel), .val (.int p0), .val (.int p1), .val (.int p2), .val (.int (0 : Int32)), .val (.ref b1), .val (.ref b2), .unset] [])) (fun _ k_ => XS.icmpYes X2.here hx rfl (pc0 := 37) (pc' := 52) rfl (hb hby at_37) rfl (flt (by decide)).2.2.2 (by decide) (by decide) k_) ?_
    refine own_w (T' := T2) (g' := (mkF m 54 #[.val (.int sel), .val (.int p0), .val (.int p1), .val (.int p2), .val (.int (0 : Int32)), .val (.ref b1), .val (.ref b2), .unset] [(.int (0 : Int32))])) (fun _ k_ => XS.iload X2.here hx rfl (hb hby at_52) rfl k_) ?_
    refine own_w (T' := T2) (g' := (mkF m 55 #[.val (.int sel), .val (.int p0), .val (.int p1), .val (.int p2), .val (.int (0 : Int32)), .val (.ref b1), .val (.ref b2), .unset] [(.int (2 : Int32)), (.int (0 : Int32))])) (fun _ k_ => XS.iconst X2.here hx rfl (hb hby at_54) k_) ?_
    refine own_w (T' := T2) (g' := (mkF m 70 #[.val (.int sel), .val (.int p0), .val (.int p1), .val (.int p2), .val (.int (0 : Int32)), .val (.ref b1), .val (.ref b2), .unset] [])) (fun _ k_ => XS.icmpYes X2.here hx rfl (pc0 := 55) (pc' := 70) rfl (hb hby at_55) rfl (flt (by decide)).2.2.2 (by decide) (by decide) k_) ?_
    refine own_w (T' := T2) (g' := (mkF m 72 #[.val (.int sel), .val (.int p0), .val (.int p1), .val (.int p2), .val (.int (0 : Int32)), .val (.ref b1), .val (.ref b2), .unset] [(.ref b1)])) (fun _ k_ => XS.aload X2.here hx rfl (hb hby at_70) rfl rfl k_) ?_
    have Vg : own_Ar Z h2 b1 .byte ([] : List Int32) := Va
    have Ve : own_Ar Z h2 b2 .byte ([] : List Int32) := Vb
    have hf : ∀ x ∈ ([] : List Int32), fits .byte (.int x) = true := by simp
    obtain ⟨_, _, ⟨T3, L3, k3, n3⟩, -, X3, ⟨Lc3, hQ3, l3, y3, z3⟩, st3⟩ := Jvm.LawKit.callS X2 hx (y := (⟨"com/example/adjacency/adjacency/wire/PrefixedBytes", "copyOf", "([B)Lcom/example/adjacency/adjacency/wire/PrefixedBytes;"⟩ : MethodName)) hown (mvT hZ (hw _ (List.mem_of_getElem? (i := 1) rfl))) (mvT hZ (hw _ (List.mem_of_getElem? (i := 2) rfl))) (mvT hZ (hw _ (List.mem_of_getElem? (i := 3) rfl))) (mvT hZ (hw _ (List.mem_of_getElem? (i := 4) rfl))) (by decide) (backOf (W := 0) (own_rm1_0 l Z a0 hw [] b1  h2 n0 Z2 Vg Xa hf) hZ (hw _ (List.mem_of_getElem? (i := 4) rfl)) (hw _ (List.mem_of_getElem? (i := 3) rfl)) (by decide) (by decide)) (g := (mkF m 72 #[.val (.int sel), .val (.int p0), .val (.int p1), .val (.int p2), .val (.int (0 : Int32)), .val (.ref b1), .val (.ref b2), .unset] [(.ref b1)])) rfl (by rw [hml]; rfl) (argsL := [(.ref b1)]) (rest := []) (lenOf own_pd5 rfl) rfl (by show 2 * 0 + _ ≤ _; exact Nat.le_of_eq rfl) (hb hby at_72) (fun _ _ => ⟨rfl, e2, (by decide : 2 + 2 ≤ _), (by decide : 0 + 6 ≤ _)⟩)
    dsimp only [Pt.U, Pt.locs, Pt.cells, Pt.slots] at X3 l3 y3 z3 st3 hQ3
    subst l3 y3 z3
    obtain ⟨h3, e3⟩ : ∃ h, T3.heap = h := ⟨_, rfl⟩
    rw [e3] at hQ3
    obtain ⟨rfl, N3q, K3, EP3, ar, lt3, P30, P31, P32, VA3, XA3⟩ := hQ3
    have N3 := Fr.app N0 N3q
    refine own_w (T' := T3) (g' := (mkF m 75 #[.val (.int sel), .val (.int p0), .val (.int p1), .val (.int p2), .val (.int (0 : Int32)), .val (.ref b1), .val (.ref b2), .unset] [(.ref h2.size)])) st3 ?_
    have Z3 : n0 ≤ h3.size := Nat.le_trans Z2 K3.1
    generalize hp : h2.size = pp at *
    have Vg3 := own_Ar_keep Vg K3 (by simp)
    have Ve3 := own_Ar_keep Ve K3 (by simp)
    have na : ar ≠ b1 := fun q => Nat.lt_irrefl _ (Nat.lt_trans (hp ▸ own_Ar_lt Vg) (q ▸ lt3))
    have np : pp ≠ b1 := fun q => Nat.lt_irrefl _ (q ▸ hp ▸ own_Ar_lt Vg)
    refine own_w (T' := T3) (g' := (mkF m 77 #[.val (.int sel), .val (.int p0), .val (.int p1), .val (.int p2), .val (.int (0 : Int32)), .val (.ref b1), .val (.ref b2), .val (.ref pp)] [])) (fun _ k_ => XS.astore X3.here hx rfl (hb hby at_75) rfl rfl (l' := #[.val (.int sel), .val (.int p0), .val (.int p1), .val (.int p2), .val (.int (0 : Int32)), .val (.ref b1), .val (.ref b2), .val (.ref pp)]) rfl k_) ?_
    refine own_w (T' := T3) (g' := (mkF m 79 #[.val (.int sel), .val (.int p0), .val (.int p1), .val (.int p2), .val (.int (0 : Int32)), .val (.ref b1), .val (.ref b2), .val (.ref pp)] [(.ref b1)])) (fun _ k_ => XS.aload X3.here hx rfl (hb hby at_77) rfl rfl k_) ?_
    refine own_w (T' := T3) (g' := (mkF m 81 #[.val (.int sel), .val (.int p0), .val (.int p1), .val (.int p2), .val (.int (0 : Int32)), .val (.ref b1), .val (.ref b2), .val (.ref pp)] [(.ref b2), (.ref b1)])) (fun _ k_ => XS.aload X3.here hx rfl (hb hby at_79) rfl rfl k_) ?_
    refine own_w (T' := T3) (g' := (mkF m 83 #[.val (.int sel), .val (.int p0), .val (.int p1), .val (.int p2), .val (.int (0 : Int32)), .val (.ref b1), .val (.ref b2), .val (.ref pp)] [(.int (0 : Int32)), (.ref b2), (.ref b1)])) (fun _ k_ => XS.iload X3.here hx rfl (hb hby at_81) rfl k_) ?_
    obtain ⟨_, _, ⟨T4, L4, k4, n4⟩, -, X4, ⟨Lc4, hQ4, l4, y4, z4⟩, st4⟩ := Jvm.LawKit.callS X3 hx (y := (⟨"com/example/adjacency/adjacency/wire/PrefixedBytesCopyOfPinLaw", "same", "([B[BI)Z"⟩ : MethodName)) hown (mvT hZ (hw _ (List.mem_of_getElem? (i := 28) rfl))) (mvT hZ (hw _ (List.mem_of_getElem? (i := 29) rfl))) (mvT hZ (hw _ (List.mem_of_getElem? (i := 30) rfl))) (mvT hZ (hw _ (List.mem_of_getElem? (i := 31) rfl))) (by decide) (backOf (W := 0) (own_rm4_0 l Z a0 hw [] b1 b2   h3 n0 Z3 Vg3 Ve3) hZ (hw _ (List.mem_of_getElem? (i := 31) rfl)) (hw _ (List.mem_of_getElem? (i := 30) rfl)) (by decide) (by decide)) (g := (mkF m 83 #[.val (.int sel), .val (.int p0), .val (.int p1), .val (.int p2), .val (.int (0 : Int32)), .val (.ref b1), .val (.ref b2), .val (.ref pp)] [(.int (0 : Int32)), (.ref b2), (.ref b1)])) rfl (by rw [hml]; rfl) (argsL := [(.ref b1), (.ref b2), (.int (0 : Int32))]) (rest := []) (lenOf own_pd6 rfl) rfl (by show 2 * 0 + _ ≤ _; exact Nat.le_of_eq rfl) (hb hby at_83) (fun _ _ => ⟨rfl, e3, (by decide : 4 + 0 ≤ _), (by decide : 6 + 0 ≤ _)⟩)
    dsimp only [Pt.U, Pt.locs, Pt.cells, Pt.slots] at X4 l4 y4 z4 st4 hQ4
    subst l4 y4 z4
    obtain ⟨rfl, N4q, e4⟩ := hQ4
    have N4 := Fr.app N3 N4q
    refine own_w (T' := T4) (g' := (mkF m 86 #[.val (.int sel), .val (.int p0), .val (.int p1), .val (.int p2), .val (.int (0 : Int32)), .val (.ref b1), .val (.ref b2), .val (.ref pp)] [(.int (if (([] : List Int32) = ([] : List Int32)) then (1 : Int32) else 0))])) st4 ?_
    refine own_w (T' := T4) (g' := (mkF m 91 #[.val (.int sel), .val (.int p0), .val (.int p1), .val (.int p2), .val (.int (0 : Int32)), .val (.ref b1), .val (.ref b2), .val (.ref pp)] [])) (fun _ k_ => XS.ifYes X4.here hx rfl (pc0 := 86) (pc' := 91) rfl (hb hby at_86) rfl ((if0 _ _).trans (feq (fun q => (own_ite0.mp q) (show ((([] : List Int32) = ([] : List Int32))) from rfl))).2) (by decide) (by decide) k_) ?_
    refine own_w (T' := T4) (g' := (mkF m 93 #[.val (.int sel), .val (.int p0), .val (.int p1), .val (.int p2), .val (.int (0 : Int32)), .val (.ref b1), .val (.ref b2), .val (.ref pp)] [(.ref pp)])) (fun _ k_ => XS.aload X4.here hx rfl (hb hby at_91) rfl rfl k_) ?_
    obtain ⟨cq5, kq5, q5a, q5b, q5c⟩ := isOf hZ e4 EP3
    obtain ⟨_, _, ⟨T5, L5, k5, n5⟩, -, X5, ⟨Lc5, hQ5, l5, y5, z5⟩, st5⟩ := X4.virtualBack hx (y := (⟨"com/example/adjacency/adjacency/wire/PrefixedBytes", "length", "()I"⟩ : MethodName)) (z := (⟨"com/example/adjacency/adjacency/wire/PrefixedBytes", "length", "()I"⟩ : MethodName)) hown (mvT hZ (hw _ (List.mem_of_getElem? (i := 32) rfl))) (mvT hZ (hw _ (List.mem_of_getElem? (i := 33) rfl))) (notFace_of_selects (args := #[]) (mvT hZ (hw _ (List.mem_of_getElem? (i := 35) rfl)))) (mvT hZ (hw _ (List.mem_of_getElem? (i := 35) rfl))) (mvT hZ (hw _ (List.mem_of_getElem? (i := 34) rfl))) (by decide) (backOf (W := 0) (own_rm5_0 l Z a0 hw [] pp  h3 n0 Z3 P32) hZ (hw _ (List.mem_of_getElem? (i := 36) rfl)) (hw _ (List.mem_of_getElem? (i := 3) rfl)) (by decide) (by decide)) q5a q5c (g := (mkF m 93 #[.val (.int sel), .val (.int p0), .val (.int p1), .val (.int p2), .val (.int (0 : Int32)), .val (.ref b1), .val (.ref b2), .val (.ref pp)] [(.ref pp)])) rfl (by rw [hml]; rfl) (Steps.refl _) (argsL := []) (rest := []) (lenOf own_pd7 rfl) rfl (by show 2 * 0 + _ ≤ _; exact Nat.le_of_eq rfl) (hb hby at_93) (fun _ _ => ⟨rfl, e4, (by decide : 4 + 0 ≤ _), (by decide : 6 + 0 ≤ _)⟩)
    dsimp only [Pt.U, Pt.locs, Pt.cells, Pt.slots] at X5 l5 y5 z5 st5 hQ5
    subst l5 y5 z5
    obtain ⟨rfl, N5q, e5⟩ := hQ5
    have N5 := Fr.app N4 N5q
    refine own_t (T' := T5) (g' := (mkF m 96 #[.val (.int sel), .val (.int p0), .val (.int p1), .val (.int p2), .val (.int (0 : Int32)), .val (.ref b1), .val (.ref b2), .val (.ref pp)] [(.int (0 : Int32))])) st5 ?_
    refine own_w (T' := T5) (g' := (mkF m 98 #[.val (.int sel), .val (.int p0), .val (.int p1), .val (.int p2), .val (.int (0 : Int32)), .val (.ref b1), .val (.ref b2), .val (.ref pp)] [(.int (0 : Int32)), (.int (0 : Int32))])) (fun _ k_ => XS.iload X5.here hx rfl (hb hby at_96) rfl k_) ?_
    refine own_w (T' := T5) (g' := (mkF m 103 #[.val (.int sel), .val (.int p0), .val (.int p1), .val (.int p2), .val (.int (0 : Int32)), .val (.ref b1), .val (.ref b2), .val (.ref pp)] [])) (fun _ k_ => XS.icmpYes X5.here hx rfl (pc0 := 98) (pc' := 103) rfl (hb hby at_98) rfl (teq rfl).1 (by decide) (by decide) k_) ?_
    refine own_w (T' := T5) (g' := (mkF m 105 #[.val (.int sel), .val (.int p0), .val (.int p1), .val (.int p2), .val (.int (0 : Int32)), .val (.ref b1), .val (.ref b2), .val (.ref pp)] [(.ref pp)])) (fun _ k_ => XS.aload X5.here hx rfl (hb hby at_103) rfl rfl k_) ?_
    obtain ⟨cq6, kq6, q6a, q6b, q6c⟩ := isOf hZ e5 EP3
    obtain ⟨_, _, ⟨T6, L6, k6, n6⟩, -, X6, ⟨Lc6, hQ6, l6, y6, z6⟩, st6⟩ := X5.virtualBack hx (y := (⟨"com/example/adjacency/adjacency/wire/PrefixedBytes", "prefixedLength", "()I"⟩ : MethodName)) (z := (⟨"com/example/adjacency/adjacency/wire/PrefixedBytes", "prefixedLength", "()I"⟩ : MethodName)) hown (mvT hZ (hw _ (List.mem_of_getElem? (i := 37) rfl))) (mvT hZ (hw _ (List.mem_of_getElem? (i := 38) rfl))) (notFace_of_selects (args := #[]) (mvT hZ (hw _ (List.mem_of_getElem? (i := 40) rfl)))) (mvT hZ (hw _ (List.mem_of_getElem? (i := 40) rfl))) (mvT hZ (hw _ (List.mem_of_getElem? (i := 39) rfl))) (by decide) (backOf (W := 0) (own_rm6_0 l Z a0 hw [] pp  h3 n0 Z3 P32) hZ (hw _ (List.mem_of_getElem? (i := 41) rfl)) (hw _ (List.mem_of_getElem? (i := 3) rfl)) (by decide) (by decide)) q6a q6c (g := (mkF m 105 #[.val (.int sel), .val (.int p0), .val (.int p1), .val (.int p2), .val (.int (0 : Int32)), .val (.ref b1), .val (.ref b2), .val (.ref pp)] [(.ref pp)])) rfl (by rw [hml]; rfl) (Steps.refl _) (argsL := []) (rest := []) (lenOf own_pd7 rfl) rfl (by show 2 * 0 + _ ≤ _; exact Nat.le_of_eq rfl) (hb hby at_105) (fun _ _ => ⟨rfl, e5, (by decide : 4 + 0 ≤ _), (by decide : 6 + 0 ≤ _)⟩)
    dsimp only [Pt.U, Pt.locs, Pt.cells, Pt.slots] at X6 l6 y6 z6 st6 hQ6
    subst l6 y6 z6
    obtain ⟨rfl, N6q, e6⟩ := hQ6
    have N6 := Fr.app N5 N6q
    refine own_t (T' := T6) (g' := (mkF m 108 #[.val (.int sel), .val (.int p0), .val (.int p1), .val (.int p2), .val (.int (0 : Int32)), .val (.ref b1), .val (.ref b2), .val (.ref pp)] [(.int (2 : Int32))])) st6 ?_
    refine own_w (T' := T6) (g' := (mkF m 110 #[.val (.int sel), .val (.int p0), .val (.int p1), .val (.int p2), .val (.int (0 : Int32)), .val (.ref b1), .val (.ref b2), .val (.ref pp)] [(.int (0 : Int32)), (.int (2 : Int32))])) (fun _ k_ => XS.iload X6.here hx rfl (hb hby at_108) rfl k_) ?_
    refine own_w (T' := T6) (g' := (mkF m 111 #[.val (.int sel), .val (.int p0), .val (.int p1), .val (.int p2), .val (.int (0 : Int32)), .val (.ref b1), .val (.ref b2), .val (.ref pp)] [(.int (2 : Int32)), (.int (0 : Int32)), (.int (2 : Int32))])) (fun _ k_ => XS.iconst X6.here hx rfl (hb hby at_110) k_) ?_
    refine own_w (T' := T6) (g' := (mkF m 112 #[.val (.int sel), .val (.int p0), .val (.int p1), .val (.int p2), .val (.int (0 : Int32)), .val (.ref b1), .val (.ref b2), .val (.ref pp)] [(.int (2 : Int32)), (.int (2 : Int32))])) (fun _ k_ => XS.iadd X6.here hx rfl (hb hby at_111) rfl k_) ?_
    refine own_w (T' := T6) (g' := (mkF m 117 #[.val (.int sel), .val (.int p0), .val (.int p1), .val (.int p2), .val (.int (0 : Int32)), .val (.ref b1), .val (.ref b2), .val (.ref pp)] [])) (fun _ k_ => XS.icmpYes X6.here hx rfl (pc0 := 112) (pc' := 117) rfl (hb hby at_112) rfl (teq rfl).1 (by decide) (by decide) k_) ?_
    refine own_w (T' := T6) (g' := (mkF m 119 #[.val (.int sel), .val (.int p0), .val (.int p1), .val (.int p2), .val (.int (0 : Int32)), .val (.ref b1), .val (.ref b2), .val (.ref pp)] [(.ref pp)])) (fun _ k_ => XS.aload X6.here hx rfl (hb hby at_117) rfl rfl k_) ?_
    obtain ⟨cq7, kq7, q7a, q7b, q7c⟩ := isOf hZ e6 EP3
    obtain ⟨_, _, ⟨T7, L7, k7, n7⟩, -, X7, ⟨Lc7, hQ7, l7, y7, z7⟩, st7⟩ := X6.virtualBack hx (y := (⟨"com/example/adjacency/adjacency/wire/PrefixedBytes", "toArray", "()[B"⟩ : MethodName)) (z := (⟨"com/example/adjacency/adjacency/wire/PrefixedBytes", "toArray", "()[B"⟩ : MethodName)) hown (mvT hZ (hw _ (List.mem_of_getElem? (i := 42) rfl))) (mvT hZ (hw _ (List.mem_of_getElem? (i := 43) rfl))) (notFace_of_selects (args := #[]) (mvT hZ (hw _ (List.mem_of_getElem? (i := 45) rfl)))) (mvT hZ (hw _ (List.mem_of_getElem? (i := 45) rfl))) (mvT hZ (hw _ (List.mem_of_getElem? (i := 44) rfl))) (by decide) (backOf (W := 0) (own_rm7_0 l Z a0 hw [] pp ar  h3 n0 Z3 P30 P31 P32 VA3 XA3 hf) hZ (hw _ (List.mem_of_getElem? (i := 46) rfl)) (hw _ (List.mem_of_getElem? (i := 3) rfl)) (by decide) (by decide)) q7a q7c (g := (mkF m 119 #[.val (.int sel), .val (.int p0), .val (.int p1), .val (.int p2), .val (.int (0 : Int32)), .val (.ref b1), .val (.ref b2), .val (.ref pp)] [(.ref pp)])) rfl (by rw [hml]; rfl) (Steps.refl _) (argsL := []) (rest := []) (lenOf own_pd8 rfl) rfl (by show 2 * 0 + _ ≤ _; exact Nat.le_of_eq rfl) (hb hby at_119) (fun _ _ => ⟨rfl, e6, (by decide : 4 + 1 ≤ _), (by decide : 6 + 3 ≤ _)⟩)
    dsimp only [Pt.U, Pt.locs, Pt.cells, Pt.slots] at X7 l7 y7 z7 st7 hQ7
    subst l7 y7 z7
    obtain ⟨h7, e7⟩ : ∃ h, T7.heap = h := ⟨_, rfl⟩
    rw [e7] at hQ7
    obtain ⟨rfl, N7q, K7, VN7⟩ := hQ7
    have N7 := Fr.app N6 N7q
    refine own_t (T' := T7) (g' := (mkF m 122 #[.val (.int sel), .val (.int p0), .val (.int p1), .val (.int p2), .val (.int (0 : Int32)), .val (.ref b1), .val (.ref b2), .val (.ref pp)] [(.ref h3.size)])) st7 ?_
    have Z7 : n0 ≤ h7.size := Nat.le_trans Z3 K7.1
    have VA_7 := own_Ar_keep VA3 K7 (by simp)
    have Vg_7 := own_Ar_keep Vg3 K7 (by simp)
    have Ve_7 := own_Ar_keep Ve3 K7 (by simp)
    have XA_7 := XA3.keep K7
    have E_7 := EP3.keep K7
    have F_7_0 := P30.keep K7 (by simp)
    have F_7_1 := P31.keep K7 (by simp)
    have F_7_2 := P32.keep K7 (by simp)
    refine own_w (T' := T7) (g' := (mkF m 124 #[.val (.int sel), .val (.int p0), .val (.int p1), .val (.int p2), .val (.int (0 : Int32)), .val (.ref b1), .val (.ref b2), .val (.ref pp)] [(.ref b2), (.ref h3.size)])) (fun _ k_ => XS.aload X7.here hx rfl (hb hby at_122) rfl rfl k_) ?_
    refine own_w (T' := T7) (g' := (mkF m 126 #[.val (.int sel), .val (.int p0), .val (.int p1), .val (.int p2), .val (.int (0 : Int32)), .val (.ref b1), .val (.ref b2), .val (.ref pp)] [(.int (0 : Int32)), (.ref b2), (.ref h3.size)])) (fun _ k_ => XS.iload X7.here hx rfl (hb hby at_124) rfl k_) ?_
    obtain ⟨_, _, ⟨T8, L8, k8, n8⟩, -, X8, ⟨Lc8, hQ8, l8, y8, z8⟩, st8⟩ := Jvm.LawKit.callS X7 hx (y := (⟨"com/example/adjacency/adjacency/wire/PrefixedBytesCopyOfPinLaw", "same", "([B[BI)Z"⟩ : MethodName)) hown (mvT hZ (hw _ (List.mem_of_getElem? (i := 28) rfl))) (mvT hZ (hw _ (List.mem_of_getElem? (i := 29) rfl))) (mvT hZ (hw _ (List.mem_of_getElem? (i := 30) rfl))) (mvT hZ (hw _ (List.mem_of_getElem? (i := 31) rfl))) (by decide) (backOf (W := 0) (own_rm4_0 l Z a0 hw [] h3.size b2   h7 n0 Z7 VN7 Ve_7) hZ (hw _ (List.mem_of_getElem? (i := 31) rfl)) (hw _ (List.mem_of_getElem? (i := 30) rfl)) (by decide) (by decide)) (g := (mkF m 126 #[.val (.int sel), .val (.int p0), .val (.int p1), .val (.int p2), .val (.int (0 : Int32)), .val (.ref b1), .val (.ref b2), .val (.ref pp)] [(.int (0 : Int32)), (.ref b2), (.ref h3.size)])) rfl (by rw [hml]; rfl) (argsL := [(.ref h3.size), (.ref b2), (.int (0 : Int32))]) (rest := []) (lenOf own_pd6 rfl) rfl (by show 2 * 0 + _ ≤ _; exact Nat.le_of_eq rfl) (hb hby at_126) (fun _ _ => ⟨rfl, e7, (by decide : 5 + 0 ≤ _), (by decide : 9 + 0 ≤ _)⟩)
    dsimp only [Pt.U, Pt.locs, Pt.cells, Pt.slots] at X8 l8 y8 z8 st8 hQ8
    subst l8 y8 z8
    obtain ⟨rfl, N8q, e8⟩ := hQ8
    have N8 := Fr.app N7 N8q
    refine own_w (T' := T8) (g' := (mkF m 129 #[.val (.int sel), .val (.int p0), .val (.int p1), .val (.int p2), .val (.int (0 : Int32)), .val (.ref b1), .val (.ref b2), .val (.ref pp)] [(.int (if (([] : List Int32) = ([] : List Int32)) then (1 : Int32) else 0))])) st8 ?_
    refine own_w (T' := T8) (g' := (mkF m 134 #[.val (.int sel), .val (.int p0), .val (.int p1), .val (.int p2), .val (.int (0 : Int32)), .val (.ref b1), .val (.ref b2), .val (.ref pp)] [])) (fun _ k_ => XS.ifYes X8.here hx rfl (pc0 := 129) (pc' := 134) rfl (hb hby at_129) rfl ((if0 _ _).trans (feq (fun q => (own_ite0.mp q) (show ((([] : List Int32) = ([] : List Int32))) from rfl))).2) (by decide) (by decide) k_) ?_
    refine own_w (T' := T8) (g' := (mkF m 136 #[.val (.int sel), .val (.int p0), .val (.int p1), .val (.int p2), .val (.int (0 : Int32)), .val (.ref b1), .val (.ref b2), .val (.ref pp)] [(.ref pp)])) (fun _ k_ => XS.aload X8.here hx rfl (hb hby at_134) rfl rfl k_) ?_
    refine own_w (T' := T8) (g' := (mkF m 138 #[.val (.int sel), .val (.int p0), .val (.int p1), .val (.int p2), .val (.int (0 : Int32)), .val (.ref b1), .val (.ref b2), .val (.ref pp)] [(.ref b2), (.ref pp)])) (fun _ k_ => XS.aload X8.here hx rfl (hb hby at_136) rfl rfl k_) ?_
    obtain ⟨cq9, kq9, q9a, q9b, q9c⟩ := isOf hZ e8 E_7
    obtain ⟨_, _, ⟨T9, L9, k9, n9⟩, -, X9, ⟨Lc9, hQ9, l9, y9, z9⟩, st9⟩ := X8.virtualBack hx (y := (⟨"com/example/adjacency/adjacency/wire/PrefixedBytes", "isSameAs", "([B)Z"⟩ : MethodName)) (z := (⟨"com/example/adjacency/adjacency/wire/PrefixedBytes", "isSameAs", "([B)Z"⟩ : MethodName)) hown (mvT hZ (hw _ (List.mem_of_getElem? (i := 53) rfl))) (mvT hZ (hw _ (List.mem_of_getElem? (i := 54) rfl))) (notFace_of_selects (args := #[]) (mvT hZ (hw _ (List.mem_of_getElem? (i := 56) rfl)))) (mvT hZ (hw _ (List.mem_of_getElem? (i := 56) rfl))) (mvT hZ (hw _ (List.mem_of_getElem? (i := 55) rfl))) (by decide) (backOf (W := 0) (own_rm9_0 l Z a0 hw [] pp b2 ar   h7 n0 Z7 F_7_0 F_7_1 F_7_2 VA_7 Ve_7) hZ (hw _ (List.mem_of_getElem? (i := 57) rfl)) (hw _ (List.mem_of_getElem? (i := 3) rfl)) (by decide) (by decide)) q9a q9c (g := (mkF m 138 #[.val (.int sel), .val (.int p0), .val (.int p1), .val (.int p2), .val (.int (0 : Int32)), .val (.ref b1), .val (.ref b2), .val (.ref pp)] [(.ref b2), (.ref pp)])) rfl (by rw [hml]; rfl) (Steps.refl _) (argsL := [(.ref b2)]) (rest := []) (lenOf own_pd9 rfl) rfl (by show 2 * 0 + _ ≤ _; exact Nat.le_of_eq rfl) (hb hby at_138) (fun _ _ => ⟨rfl, e8, (by decide : 5 + 0 ≤ _), (by decide : 9 + 0 ≤ _)⟩)
    dsimp only [Pt.U, Pt.locs, Pt.cells, Pt.slots] at X9 l9 y9 z9 st9 hQ9
    subst l9 y9 z9
    obtain ⟨rfl, N9q, e9⟩ := hQ9
    have N9 := Fr.app N8 N9q
    refine own_t (T' := T9) (g' := (mkF m 141 #[.val (.int sel), .val (.int p0), .val (.int p1), .val (.int p2), .val (.int (0 : Int32)), .val (.ref b1), .val (.ref b2), .val (.ref pp)] [(.int (if (([] : List Int32) = ([] : List Int32)) then (1 : Int32) else 0))])) st9 ?_
    refine own_w (T' := T9) (g' := (mkF m 146 #[.val (.int sel), .val (.int p0), .val (.int p1), .val (.int p2), .val (.int (0 : Int32)), .val (.ref b1), .val (.ref b2), .val (.ref pp)] [])) (fun _ k_ => XS.ifYes X9.here hx rfl (pc0 := 141) (pc' := 146) rfl (hb hby at_141) rfl ((if0 _ _).trans (feq (fun q => (own_ite0.mp q) (show ((([] : List Int32) = ([] : List Int32))) from rfl))).2) (by decide) (by decide) k_) ?_
    refine own_w (T' := T9) (g' := (mkF m 148 #[.val (.int sel), .val (.int p0), .val (.int p1), .val (.int p2), .val (.int (0 : Int32)), .val (.ref b1), .val (.ref b2), .val (.ref pp)] [(.int (0 : Int32))])) (fun _ k_ => XS.iload X9.here hx rfl (hb hby at_146) rfl k_) ?_
    refine own_w (T' := T9) (g' := (mkF m 162 #[.val (.int sel), .val (.int p0), .val (.int p1), .val (.int p2), .val (.int (0 : Int32)), .val (.ref b1), .val (.ref b2), .val (.ref pp)] [])) (fun _ k_ => XS.ifYes X9.here hx rfl (pc0 := 148) (pc' := 162) rfl (hb hby at_148) rfl ((if0 _ _).trans (flt (by decide)).2.2.2) (by decide) (by decide) k_) ?_
    refine own_w (T' := T9) (g' := (mkF m 164 #[.val (.int sel), .val (.int p0), .val (.int p1), .val (.int p2), .val (.int (0 : Int32)), .val (.ref b1), .val (.ref b2), .val (.ref pp)] [(.int (0 : Int32))])) (fun _ k_ => XS.iload X9.here hx rfl (hb hby at_162) rfl k_) ?_
    refine own_w (T' := T9) (g' := (mkF m 165 #[.val (.int sel), .val (.int p0), .val (.int p1), .val (.int p2), .val (.int (0 : Int32)), .val (.ref b1), .val (.ref b2), .val (.ref pp)] [(.int (1 : Int32)), (.int (0 : Int32))])) (fun _ k_ => XS.iconst X9.here hx rfl (hb hby at_164) k_) ?_
    refine own_w (T' := T9) (g' := (mkF m 179 #[.val (.int sel), .val (.int p0), .val (.int p1), .val (.int p2), .val (.int (0 : Int32)), .val (.ref b1), .val (.ref b2), .val (.ref pp)] [])) (fun _ k_ => XS.icmpYes X9.here hx rfl (pc0 := 165) (pc' := 179) rfl (hb hby at_165) rfl (flt (by decide)).2.2.2 (by decide) (by decide) k_) ?_
    refine own_w (T' := T9) (g' := (mkF m 181 #[.val (.int sel), .val (.int p0), .val (.int p1), .val (.int p2), .val (.int (0 : Int32)), .val (.ref b1), .val (.ref b2), .val (.ref pp)] [(.int (0 : Int32))])) (fun _ k_ => XS.iload X9.here hx rfl (hb hby at_179) rfl k_) ?_
    refine own_w (T' := T9) (g' := (mkF m 182 #[.val (.int sel), .val (.int p0), .val (.int p1), .val (.int p2), .val (.int (0 : Int32)), .val (.ref b1), .val (.ref b2), .val (.ref pp)] [(.int (2 : Int32)), (.int (0 : Int32))])) (fun _ k_ => XS.iconst X9.here hx rfl (hb hby at_181) k_) ?_
    refine own_w (T' := T9) (g' := (mkF m 196 #[.val (.int sel), .val (.int p0), .val (.int p1), .val (.int p2), .val (.int (0 : Int32)), .val (.ref b1), .val (.ref b2), .val (.ref pp)] [])) (fun _ k_ => XS.icmpYes X9.here hx rfl (pc0 := 182) (pc' := 196) rfl (hb hby at_182) rfl (flt (by decide)).2.2.2 (by decide) (by decide) k_) ?_
    refine own_w (T' := T9) (g' := (mkF m 198 #[.val (.int sel), .val (.int p0), .val (.int p1), .val (.int p2), .val (.int (0 : Int32)), .val (.ref b1), .val (.ref b2), .val (.ref pp)] [(.ref pp)])) (fun _ k_ => XS.aload X9.here hx rfl (hb hby at_196) rfl rfl k_) ?_
    obtain ⟨cq10, kq10, q10a, q10b, q10c⟩ := isOf hZ e9 E_7
    obtain ⟨_, _, ⟨T10, L10, k10, n10⟩, -, X10, ⟨Lc10, hQ10, l10, y10, z10⟩, st10⟩ := X9.virtualBack hx (y := (⟨"com/example/adjacency/adjacency/wire/PrefixedBytes", "toArray", "()[B"⟩ : MethodName)) (z := (⟨"com/example/adjacency/adjacency/wire/PrefixedBytes", "toArray", "()[B"⟩ : MethodName)) hown (mvT hZ (hw _ (List.mem_of_getElem? (i := 42) rfl))) (mvT hZ (hw _ (List.mem_of_getElem? (i := 43) rfl))) (notFace_of_selects (args := #[]) (mvT hZ (hw _ (List.mem_of_getElem? (i := 45) rfl)))) (mvT hZ (hw _ (List.mem_of_getElem? (i := 45) rfl))) (mvT hZ (hw _ (List.mem_of_getElem? (i := 44) rfl))) (by decide) (backOf (W := 0) (own_rm7_0 l Z a0 hw [] pp ar  h7 n0 Z7 F_7_0 F_7_1 F_7_2 VA_7 XA_7 hf) hZ (hw _ (List.mem_of_getElem? (i := 46) rfl)) (hw _ (List.mem_of_getElem? (i := 3) rfl)) (by decide) (by decide)) q10a q10c (g := (mkF m 198 #[.val (.int sel), .val (.int p0), .val (.int p1), .val (.int p2), .val (.int (0 : Int32)), .val (.ref b1), .val (.ref b2), .val (.ref pp)] [(.ref pp)])) rfl (by rw [hml]; rfl) (Steps.refl _) (argsL := []) (rest := []) (lenOf own_pd8 rfl) rfl (by show 2 * 0 + _ ≤ _; exact Nat.le_of_eq rfl) (hb hby at_198) (fun _ _ => ⟨rfl, e9, (by decide : 5 + 1 ≤ _), (by decide : 9 + 3 ≤ _)⟩)
    dsimp only [Pt.U, Pt.locs, Pt.cells, Pt.slots] at X10 l10 y10 z10 st10 hQ10
    subst l10 y10 z10
    obtain ⟨h10, e10⟩ : ∃ h, T10.heap = h := ⟨_, rfl⟩
    rw [e10] at hQ10
    obtain ⟨rfl, N10q, K10, VN10⟩ := hQ10
    have N10 := Fr.app N9 N10q
    refine own_t (T' := T10) (g' := (mkF m 201 #[.val (.int sel), .val (.int p0), .val (.int p1), .val (.int p2), .val (.int (0 : Int32)), .val (.ref b1), .val (.ref b2), .val (.ref pp)] [(.ref h7.size)])) st10 ?_
    have Z10 : n0 ≤ h10.size := Nat.le_trans Z7 K10.1
    have VA_10 := own_Ar_keep VA_7 K10 (by simp)
    have Vg_10 := own_Ar_keep Vg_7 K10 (by simp)
    have Ve_10 := own_Ar_keep Ve_7 K10 (by simp)
    have XA_10 := XA_7.keep K10
    have E_10 := E_7.keep K10
    have F_10_0 := F_7_0.keep K10 (by simp)
    have F_10_1 := F_7_1.keep K10 (by simp)
    have F_10_2 := F_7_2.keep K10 (by simp)
    refine own_w (T' := T10) (g' := (mkF m 203 #[.val (.int sel), .val (.int p0), .val (.int p1), .val (.int p2), .val (.int (0 : Int32)), .val (.ref b1), .val (.ref b2), .val (.ref pp)] [(.ref b2), (.ref h7.size)])) (fun _ k_ => XS.aload X10.here hx rfl (hb hby at_201) rfl rfl k_) ?_
    refine own_w (T' := T10) (g' := (mkF m 205 #[.val (.int sel), .val (.int p0), .val (.int p1), .val (.int p2), .val (.int (0 : Int32)), .val (.ref b1), .val (.ref b2), .val (.ref pp)] [(.int (0 : Int32)), (.ref b2), (.ref h7.size)])) (fun _ k_ => XS.iload X10.here hx rfl (hb hby at_203) rfl k_) ?_
    obtain ⟨_, _, ⟨T11, L11, k11, n11⟩, -, X11, ⟨Lc11, hQ11, l11, y11, z11⟩, st11⟩ := Jvm.LawKit.callS X10 hx (y := (⟨"com/example/adjacency/adjacency/wire/PrefixedBytesCopyOfPinLaw", "same", "([B[BI)Z"⟩ : MethodName)) hown (mvT hZ (hw _ (List.mem_of_getElem? (i := 28) rfl))) (mvT hZ (hw _ (List.mem_of_getElem? (i := 29) rfl))) (mvT hZ (hw _ (List.mem_of_getElem? (i := 30) rfl))) (mvT hZ (hw _ (List.mem_of_getElem? (i := 31) rfl))) (by decide) (backOf (W := 0) (own_rm4_0 l Z a0 hw [] h7.size b2   h10 n0 Z10 VN10 Ve_10) hZ (hw _ (List.mem_of_getElem? (i := 31) rfl)) (hw _ (List.mem_of_getElem? (i := 30) rfl)) (by decide) (by decide)) (g := (mkF m 205 #[.val (.int sel), .val (.int p0), .val (.int p1), .val (.int p2), .val (.int (0 : Int32)), .val (.ref b1), .val (.ref b2), .val (.ref pp)] [(.int (0 : Int32)), (.ref b2), (.ref h7.size)])) rfl (by rw [hml]; rfl) (argsL := [(.ref h7.size), (.ref b2), (.int (0 : Int32))]) (rest := []) (lenOf own_pd6 rfl) rfl (by show 2 * 0 + _ ≤ _; exact Nat.le_of_eq rfl) (hb hby at_205) (fun _ _ => ⟨rfl, e10, (by decide : 6 + 0 ≤ _), (by decide : 12 + 0 ≤ _)⟩)
    dsimp only [Pt.U, Pt.locs, Pt.cells, Pt.slots] at X11 l11 y11 z11 st11 hQ11
    subst l11 y11 z11
    obtain ⟨rfl, N11q, e11⟩ := hQ11
    have N11 := Fr.app N10 N11q
    refine own_w (T' := T11) (g' := (mkF m 208 #[.val (.int sel), .val (.int p0), .val (.int p1), .val (.int p2), .val (.int (0 : Int32)), .val (.ref b1), .val (.ref b2), .val (.ref pp)] [(.int (if (([] : List Int32) = ([] : List Int32)) then (1 : Int32) else 0))])) st11 ?_
    refine own_w (T' := T11) (g' := (mkF m 213 #[.val (.int sel), .val (.int p0), .val (.int p1), .val (.int p2), .val (.int (0 : Int32)), .val (.ref b1), .val (.ref b2), .val (.ref pp)] [])) (fun _ k_ => XS.ifYes X11.here hx rfl (pc0 := 208) (pc' := 213) rfl (hb hby at_208) rfl ((if0 _ _).trans (feq (fun q => (own_ite0.mp q) (show ((([] : List Int32) = ([] : List Int32))) from rfl))).2) (by decide) (by decide) k_) ?_
    refine own_w (T' := T11) (g' := (mkF m 215 #[.val (.int sel), .val (.int p0), .val (.int p1), .val (.int p2), .val (.int (0 : Int32)), .val (.ref b1), .val (.ref b2), .val (.ref pp)] [(.ref pp)])) (fun _ k_ => XS.aload X11.here hx rfl (hb hby at_213) rfl rfl k_) ?_
    refine own_w (T' := T11) (g' := (mkF m 217 #[.val (.int sel), .val (.int p0), .val (.int p1), .val (.int p2), .val (.int (0 : Int32)), .val (.ref b1), .val (.ref b2), .val (.ref pp)] [(.ref b2), (.ref pp)])) (fun _ k_ => XS.aload X11.here hx rfl (hb hby at_215) rfl rfl k_) ?_
    obtain ⟨cq12, kq12, q12a, q12b, q12c⟩ := isOf hZ e11 E_10
    obtain ⟨_, _, ⟨T12, L12, k12, n12⟩, -, X12, ⟨Lc12, hQ12, l12, y12, z12⟩, st12⟩ := X11.virtualBack hx (y := (⟨"com/example/adjacency/adjacency/wire/PrefixedBytes", "isSameAs", "([B)Z"⟩ : MethodName)) (z := (⟨"com/example/adjacency/adjacency/wire/PrefixedBytes", "isSameAs", "([B)Z"⟩ : MethodName)) hown (mvT hZ (hw _ (List.mem_of_getElem? (i := 53) rfl))) (mvT hZ (hw _ (List.mem_of_getElem? (i := 54) rfl))) (notFace_of_selects (args := #[]) (mvT hZ (hw _ (List.mem_of_getElem? (i := 56) rfl)))) (mvT hZ (hw _ (List.mem_of_getElem? (i := 56) rfl))) (mvT hZ (hw _ (List.mem_of_getElem? (i := 55) rfl))) (by decide) (backOf (W := 0) (own_rm9_0 l Z a0 hw [] pp b2 ar   h10 n0 Z10 F_10_0 F_10_1 F_10_2 VA_10 Ve_10) hZ (hw _ (List.mem_of_getElem? (i := 57) rfl)) (hw _ (List.mem_of_getElem? (i := 3) rfl)) (by decide) (by decide)) q12a q12c (g := (mkF m 217 #[.val (.int sel), .val (.int p0), .val (.int p1), .val (.int p2), .val (.int (0 : Int32)), .val (.ref b1), .val (.ref b2), .val (.ref pp)] [(.ref b2), (.ref pp)])) rfl (by rw [hml]; rfl) (Steps.refl _) (argsL := [(.ref b2)]) (rest := []) (lenOf own_pd9 rfl) rfl (by show 2 * 0 + _ ≤ _; exact Nat.le_of_eq rfl) (hb hby at_217) (fun _ _ => ⟨rfl, e11, (by decide : 6 + 0 ≤ _), (by decide : 12 + 0 ≤ _)⟩)
    dsimp only [Pt.U, Pt.locs, Pt.cells, Pt.slots] at X12 l12 y12 z12 st12 hQ12
    subst l12 y12 z12
    obtain ⟨rfl, N12q, e12⟩ := hQ12
    have N12 := Fr.app N11 N12q
    refine own_t (T' := T12) (g' := (mkF m 220 #[.val (.int sel), .val (.int p0), .val (.int p1), .val (.int p2), .val (.int (0 : Int32)), .val (.ref b1), .val (.ref b2), .val (.ref pp)] [(.int (if (([] : List Int32) = ([] : List Int32)) then (1 : Int32) else 0))])) st12 ?_
    refine own_w (T' := T12) (g' := (mkF m 225 #[.val (.int sel), .val (.int p0), .val (.int p1), .val (.int p2), .val (.int (0 : Int32)), .val (.ref b1), .val (.ref b2), .val (.ref pp)] [])) (fun _ k_ => XS.ifYes X12.here hx rfl (pc0 := 220) (pc' := 225) rfl (hb hby at_220) rfl ((if0 _ _).trans (feq (fun q => (own_ite0.mp q) (show ((([] : List Int32) = ([] : List Int32))) from rfl))).2) (by decide) (by decide) k_) ?_
    refine own_w (T' := T12) (g' := (mkF m 227 #[.val (.int sel), .val (.int p0), .val (.int p1), .val (.int p2), .val (.int (0 : Int32)), .val (.ref b1), .val (.ref b2), .val (.ref pp)] [(.ref pp)])) (fun _ k_ => XS.aload X12.here hx rfl (hb hby at_225) rfl rfl k_) ?_
    refine own_w (T' := T12) (g' := (mkF m 229 #[.val (.int sel), .val (.int p0), .val (.int p1), .val (.int p2), .val (.int (0 : Int32)), .val (.ref b1), .val (.ref b2), .val (.ref pp)] [(.ref b1), (.ref pp)])) (fun _ k_ => XS.aload X12.here hx rfl (hb hby at_227) rfl rfl k_) ?_
    obtain ⟨cq13, kq13, q13a, q13b, q13c⟩ := isOf hZ e12 E_10
    obtain ⟨_, _, ⟨T13, L13, k13, n13⟩, -, X13, ⟨Lc13, hQ13, l13, y13, z13⟩, st13⟩ := X12.virtualBack hx (y := (⟨"com/example/adjacency/adjacency/wire/PrefixedBytes", "isSameAs", "([B)Z"⟩ : MethodName)) (z := (⟨"com/example/adjacency/adjacency/wire/PrefixedBytes", "isSameAs", "([B)Z"⟩ : MethodName)) hown (mvT hZ (hw _ (List.mem_of_getElem? (i := 53) rfl))) (mvT hZ (hw _ (List.mem_of_getElem? (i := 54) rfl))) (notFace_of_selects (args := #[]) (mvT hZ (hw _ (List.mem_of_getElem? (i := 56) rfl)))) (mvT hZ (hw _ (List.mem_of_getElem? (i := 56) rfl))) (mvT hZ (hw _ (List.mem_of_getElem? (i := 55) rfl))) (by decide) (backOf (W := 0) (own_rm9_0 l Z a0 hw [] pp b1 ar   h10 n0 Z10 F_10_0 F_10_1 F_10_2 VA_10 Vg_10) hZ (hw _ (List.mem_of_getElem? (i := 57) rfl)) (hw _ (List.mem_of_getElem? (i := 3) rfl)) (by decide) (by decide)) q13a q13c (g := (mkF m 229 #[.val (.int sel), .val (.int p0), .val (.int p1), .val (.int p2), .val (.int (0 : Int32)), .val (.ref b1), .val (.ref b2), .val (.ref pp)] [(.ref b1), (.ref pp)])) rfl (by rw [hml]; rfl) (Steps.refl _) (argsL := [(.ref b1)]) (rest := []) (lenOf own_pd9 rfl) rfl (by show 2 * 0 + _ ≤ _; exact Nat.le_of_eq rfl) (hb hby at_229) (fun _ _ => ⟨rfl, e12, (by decide : 6 + 0 ≤ _), (by decide : 12 + 0 ≤ _)⟩)
    dsimp only [Pt.U, Pt.locs, Pt.cells, Pt.slots] at X13 l13 y13 z13 st13 hQ13
    subst l13 y13 z13
    obtain ⟨rfl, N13q, e13⟩ := hQ13
    have N13 := Fr.app N12 N13q
    refine own_t (T' := T13) (g' := (mkF m 232 #[.val (.int sel), .val (.int p0), .val (.int p1), .val (.int p2), .val (.int (0 : Int32)), .val (.ref b1), .val (.ref b2), .val (.ref pp)] [(.int (if (([] : List Int32) = ([] : List Int32)) then (1 : Int32) else 0))])) st13 ?_
    refine own_w (T' := T13) (g' := (mkF m 234 #[.val (.int sel), .val (.int p0), .val (.int p1), .val (.int p2), .val (.int (0 : Int32)), .val (.ref b1), .val (.ref b2), .val (.ref pp)] [(.int (0 : Int32)), (.int (if (([] : List Int32) = ([] : List Int32)) then (1 : Int32) else 0))])) (fun _ k_ => XS.iload X13.here hx rfl (hb hby at_232) rfl k_) ?_
    refine own_w (T' := T13) (g' := (mkF m 237 #[.val (.int sel), .val (.int p0), .val (.int p1), .val (.int p2), .val (.int (0 : Int32)), .val (.ref b1), .val (.ref b2), .val (.ref pp)] [(.int (if (([] : List Int32) = ([] : List Int32)) then (1 : Int32) else 0))])) (fun _ k_ => XS.ifNo X13.here hx rfl (hb hby at_234) rfl ((if0 _ _).trans (teq (by decide)).2) k_) ?_
    refine own_w (T' := T13) (g' := (mkF m 238 #[.val (.int sel), .val (.int p0), .val (.int p1), .val (.int p2), .val (.int (0 : Int32)), .val (.ref b1), .val (.ref b2), .val (.ref pp)] [(.int (1 : Int32)), (.int (if (([] : List Int32) = ([] : List Int32)) then (1 : Int32) else 0))])) (fun _ k_ => XS.iconst X13.here hx rfl (hb hby at_237) k_) ?_
    refine own_w (T' := T13) (g' := (mkF m 242 #[.val (.int sel), .val (.int p0), .val (.int p1), .val (.int p2), .val (.int (0 : Int32)), .val (.ref b1), .val (.ref b2), .val (.ref pp)] [(.int (1 : Int32)), (.int (if (([] : List Int32) = ([] : List Int32)) then (1 : Int32) else 0))])) (fun _ k_ => XS.goto X13.here hx rfl (pc0 := 238) (pc' := 242) rfl (hb hby at_238) (by decide) (by decide) k_) ?_
    refine own_w (T' := T13) (g' := (mkF m 245 #[.val (.int sel), .val (.int p0), .val (.int p1), .val (.int p2), .val (.int (0 : Int32)), .val (.ref b1), .val (.ref b2), .val (.ref pp)] [])) (fun _ k_ => XS.icmpNo X13.here hx rfl (hb hby at_242) rfl (teq (if_pos rfl)).2 k_) ?_
    refine own_w (T' := T13) (g' := (mkF m 246 #[.val (.int sel), .val (.int p0), .val (.int p1), .val (.int p2), .val (.int (0 : Int32)), .val (.ref b1), .val (.ref b2), .val (.ref pp)] [(.int (1 : Int32))])) (fun _ k_ => XS.iconst X13.here hx rfl (hb hby at_245) k_) ?_
    refine own_w (T' := T13) (g' := (mkF m 250 #[.val (.int sel), .val (.int p0), .val (.int p1), .val (.int p2), .val (.int (0 : Int32)), .val (.ref b1), .val (.ref b2), .val (.ref pp)] [(.int (1 : Int32))])) (fun _ k_ => XS.goto X13.here hx rfl (pc0 := 246) (pc' := 250) rfl (hb hby at_246) (by decide) (by decide) k_) ?_
    obtain ⟨fs, hr, hrun, hended, hW, hsame⟩ := X13.leave (v := some (.int (1 : Int32))) (fun h => by rw [Bd.returns] at h; cases h)
    exact ⟨_, _, retOut X13 hx Bd.returns rfl (Or.inl ⟨rfl, Or.inr (Or.inl rfl), _, rfl⟩) (hb hby at_250) hr, hrun, hended, _, _, rfl, (by show own_Q0 Z sel p0 p1 p2 h0 n0 _ T13.heap _; rw [e13]; exact ⟨rfl, N13⟩), ⟨_, rfl⟩, hW, hsame.mono (by decide) (by decide)⟩
  · refine own_w (T' := s₁) (g' := (mkF m 7 #[.val (.int sel), .val (.int p0), .val (.int p1), .val (.int p2), .val (.int (1 : Int32)), .unset, .unset, .unset] [(.int (1 : Int32))])) (fun _ k_ => XS.iload X0.here hx rfl (hb hby at_5) rfl k_) ?_
    obtain ⟨T14, h14, k14, X14, e14, E14, A14, Xa14, st14⟩ := newPE X0 hx hZ (hw _ (List.mem_of_getElem? (i := 0) rfl)) e0 (g := (mkF m 7 #[.val (.int sel), .val (.int p0), .val (.int p1), .val (.int p2), .val (.int (1 : Int32)), .unset, .unset, .unset] [(.int (1 : Int32))])) rfl (hb hby at_7) rfl (by decide) (cap := 1) (by decide) (by decide) (by decide) (by decide) (ad := "[B") (by decide)
    obtain ⟨b14, gq14⟩ : ∃ z, z = h0.size := ⟨_, rfl⟩
    rw [← gq14] at A14 Xa14 st14
    have V_b14 := own_Ar_new A14 rfl (k := 1) rfl
    have X_b14 := Xa14
    have g_b14 : n0 ≤ b14 := Nat.le_trans Z0 (Nat.le_of_eq gq14.symm)
    have Z14 : n0 ≤ h14.size := Nat.le_trans Z0 E14.1
    refine own_w (T' := T14) (g' := (mkF m 9 #[.val (.int sel), .val (.int p0), .val (.int p1), .val (.int p2), .val (.int (1 : Int32)), .unset, .unset, .unset] [(.ref b14)])) st14 ?_
    refine own_w (T' := T14) (g' := (mkF m 11 #[.val (.int sel), .val (.int p0), .val (.int p1), .val (.int p2), .val (.int (1 : Int32)), .val (.ref b14), .unset, .unset] [])) (fun _ k_ => XS.astore X14.here hx rfl (hb hby at_9) rfl rfl (l' := #[.val (.int sel), .val (.int p0), .val (.int p1), .val (.int p2), .val (.int (1 : Int32)), .val (.ref b14), .unset, .unset]) rfl k_) ?_
    refine own_w (T' := T14) (g' := (mkF m 13 #[.val (.int sel), .val (.int p0), .val (.int p1), .val (.int p2), .val (.int (1 : Int32)), .val (.ref b14), .unset, .unset] [(.int (1 : Int32))])) (fun _ k_ => XS.iload X14.here hx rfl (hb hby at_11) rfl k_) ?_
    obtain ⟨T15, h15, k15, X15, e15, E15, A15, Xa15, st15⟩ := newPE X14 hx hZ (hw _ (List.mem_of_getElem? (i := 0) rfl)) e14 (g := (mkF m 13 #[.val (.int sel), .val (.int p0), .val (.int p1), .val (.int p2), .val (.int (1 : Int32)), .val (.ref b14), .unset, .unset] [(.int (1 : Int32))])) rfl (hb hby at_13) rfl (by decide) (cap := 1) (by decide) (by decide) (by decide) (by decide) (ad := "[B") (by decide)
    obtain ⟨b15, gq15⟩ : ∃ z, z = h14.size := ⟨_, rfl⟩
    rw [← gq15] at A15 Xa15 st15
    have V_b15 := own_Ar_new A15 rfl (k := 1) rfl
    have X_b15 := Xa15
    have g_b15 : n0 ≤ b15 := Nat.le_trans Z14 (Nat.le_of_eq gq15.symm)
    have Z15 : n0 ≤ h15.size := Nat.le_trans Z14 E15.1
    refine own_w (T' := T15) (g' := (mkF m 15 #[.val (.int sel), .val (.int p0), .val (.int p1), .val (.int p2), .val (.int (1 : Int32)), .val (.ref b14), .unset, .unset] [(.ref b15)])) st15 ?_
    have ne : b14 ≠ b15 := Nat.ne_of_lt (Nat.lt_of_lt_of_le (own_Ar_lt V_b14) (Nat.le_of_eq gq15.symm))
    have Va := own_Ar_ext V_b14 E15
    have Xa := X_b14.ext E15
    have Vb := V_b15
    have Xb := X_b15
    refine own_w (T' := T15) (g' := (mkF m 17 #[.val (.int sel), .val (.int p0), .val (.int p1), .val (.int p2), .val (.int (1 : Int32)), .val (.ref b14), .val (.ref b15), .unset] [])) (fun _ k_ => XS.astore X15.here hx rfl (hb hby at_15) rfl rfl (l' := #[.val (.int sel), .val (.int p0), .val (.int p1), .val (.int p2), .val (.int (1 : Int32)), .val (.ref b14), .val (.ref b15), .unset]) rfl k_) ?_
    refine own_w (T' := T15) (g' := (mkF m 19 #[.val (.int sel), .val (.int p0), .val (.int p1), .val (.int p2), .val (.int (1 : Int32)), .val (.ref b14), .val (.ref b15), .unset] [(.int (1 : Int32))])) (fun _ k_ => XS.iload X15.here hx rfl (hb hby at_17) rfl k_) ?_
    refine own_w (T' := T15) (g' := (mkF m 22 #[.val (.int sel), .val (.int p0), .val (.int p1), .val (.int p2), .val (.int (1 : Int32)), .val (.ref b14), .val (.ref b15), .unset] [])) (fun _ k_ => XS.ifNo X15.here hx rfl (hb hby at_19) rfl ((if0 _ _).trans (tlt (by decide)).2.2.2) k_) ?_
    refine own_w (T' := T15) (g' := (mkF m 24 #[.val (.int sel), .val (.int p0), .val (.int p1), .val (.int p2), .val (.int (1 : Int32)), .val (.ref b14), .val (.ref b15), .unset] [(.ref b14)])) (fun _ k_ => XS.aload X15.here hx rfl (hb hby at_22) rfl rfl k_) ?_
    refine own_w (T' := T15) (g' := (mkF m 25 #[.val (.int sel), .val (.int p0), .val (.int p1), .val (.int p2), .val (.int (1 : Int32)), .val (.ref b14), .val (.ref b15), .unset] [(.int (0 : Int32)), (.ref b14)])) (fun _ k_ => XS.iconst X15.here hx rfl (hb hby at_24) k_) ?_
    refine own_w (T' := T15) (g' := (mkF m 26 #[.val (.int sel), .val (.int p0), .val (.int p1), .val (.int p2), .val (.int (1 : Int32)), .val (.ref b14), .val (.ref b15), .unset] [(.int p0), (.int (0 : Int32)), (.ref b14)])) (fun _ k_ => XS.iloadN X15.here hx rfl (hb hby at_25) rfl k_) ?_
    refine own_w (T' := T15) (g' := (mkF m 27 #[.val (.int sel), .val (.int p0), .val (.int p1), .val (.int p2), .val (.int (1 : Int32)), .val (.ref b14), .val (.ref b15), .unset] [(.int (p0.toInt8.toInt32)), (.int (0 : Int32)), (.ref b14)])) (fun _ k_ => XS.i2b X15.here hx rfl (hb hby at_26) rfl k_) ?_
    obtain ⟨cl16, Ar16, hs16⟩ := id Va
    obtain ⟨T16, h16, X16, e16, W16, st16⟩ := stB X15 hx hZ e15 Ar16 (j := (0 : Int32)) (own_Ar_in (i := 0) hs16 (by decide) (by simp)) (g := (mkF m 27 #[.val (.int sel), .val (.int p0), .val (.int p1), .val (.int p2), .val (.int (1 : Int32)), .val (.ref b14), .val (.ref b15), .unset] [(.int (p0.toInt8.toInt32)), (.int (0 : Int32)), (.ref b14)])) rfl rfl (hb hby at_27)
    have V16 := own_Ar_set (i := 0) Va W16 (by decide) (own_n8 _)
    have N16 := Fr.snoc X16 N0 g_b14
    have Z16 : n0 ≤ h16.size := Nat.le_trans Z15 (Keep.of_wr W16).1
    refine own_w (T' := T16) (g' := (mkF m 28 #[.val (.int sel), .val (.int p0), .val (.int p1), .val (.int p2), .val (.int (1 : Int32)), .val (.ref b14), .val (.ref b15), .unset] [])) st16 ?_
    have B16 := own_Ar_other Vb W16 ne.symm
    have Xa16 := Xa.wr W16
    have Xb16 := Xb.wr W16
    refine own_w (T' := T16) (g' := (mkF m 30 #[.val (.int sel), .val (.int p0), .val (.int p1), .val (.int p2), .val (.int (1 : Int32)), .val (.ref b14), .val (.ref b15), .unset] [(.ref b15)])) (fun _ k_ => XS.aload X16.here hx rfl (hb hby at_28) rfl rfl k_) ?_
    refine own_w (T' := T16) (g' := (mkF m 31 #[.val (.int sel), .val (.int p0), .val (.int p1), .val (.int p2), .val (.int (1 : Int32)), .val (.ref b14), .val (.ref b15), .unset] [(.int (0 : Int32)), (.ref b15)])) (fun _ k_ => XS.iconst X16.here hx rfl (hb hby at_30) k_) ?_
    refine own_w (T' := T16) (g' := (mkF m 32 #[.val (.int sel), .val (.int p0), .val (.int p1), .val (.int p2), .val (.int (1 : Int32)), .val (.ref b14), .val (.ref b15), .unset] [(.int p0), (.int (0 : Int32)), (.ref b15)])) (fun _ k_ => XS.iloadN X16.here hx rfl (hb hby at_31) rfl k_) ?_
    refine own_w (T' := T16) (g' := (mkF m 33 #[.val (.int sel), .val (.int p0), .val (.int p1), .val (.int p2), .val (.int (1 : Int32)), .val (.ref b14), .val (.ref b15), .unset] [(.int (p0.toInt8.toInt32)), (.int (0 : Int32)), (.ref b15)])) (fun _ k_ => XS.i2b X16.here hx rfl (hb hby at_32) rfl k_) ?_
    obtain ⟨cl17, Ar17, hs17⟩ := id B16
    obtain ⟨T17, h17, X17, e17, W17, st17⟩ := stB X16 hx hZ e16 Ar17 (j := (0 : Int32)) (own_Ar_in (i := 0) hs17 (by decide) (by simp)) (g := (mkF m 33 #[.val (.int sel), .val (.int p0), .val (.int p1), .val (.int p2), .val (.int (1 : Int32)), .val (.ref b14), .val (.ref b15), .unset] [(.int (p0.toInt8.toInt32)), (.int (0 : Int32)), (.ref b15)])) rfl rfl (hb hby at_33)
    have V17 := own_Ar_set (i := 0) B16 W17 (by decide) (own_n8 _)
    have N17 := Fr.snoc X17 N16 g_b15
    have Z17 : n0 ≤ h17.size := Nat.le_trans Z16 (Keep.of_wr W17).1
    refine own_w (T' := T17) (g' := (mkF m 34 #[.val (.int sel), .val (.int p0), .val (.int p1), .val (.int p2), .val (.int (1 : Int32)), .val (.ref b14), .val (.ref b15), .unset] [])) st17 ?_
    have B17 := own_Ar_other V16 W17 ne
    have Xa17 := Xa16.wr W17
    have Xb17 := Xb16.wr W17
    refine own_w (T' := T17) (g' := (mkF m 36 #[.val (.int sel), .val (.int p0), .val (.int p1), .val (.int p2), .val (.int (1 : Int32)), .val (.ref b14), .val (.ref b15), .unset] [(.int (1 : Int32))])) (fun _ k_ => XS.iload X17.here hx rfl (hb hby at_34) rfl k_) ?_
    refine own_w (T' := T17) (g' := (mkF m 37 #[.val (.int sel), .val (.int p0), .val (.int p1), .val (.int p2), .val (.int (1 : Int32)), .val (.ref b14), .val (.ref b15), .unset] [(.int (1 : Int32)), (.int (1 : Int32))])) (fun _ k_ => XS.iconst X17.here hx rfl (hb hby at_36) k_) ?_
    refine own_w (T' := T17) (g' := (mkF m 52 #[.val (.int sel), .val (.int p0), .val (.int p1), .val (.int p2), .val (.int (1 : Int32)), .val (.ref b14), .val (.ref b15), .unset] [])) (fun _ k_ => XS.icmpYes X17.here hx rfl (pc0 := 37) (pc' := 52) rfl (hb hby at_37) rfl (flt (by decide)).2.2.2 (by decide) (by decide) k_) ?_
    refine own_w (T' := T17) (g' := (mkF m 54 #[.val (.int sel), .val (.int p0), .val (.int p1), .val (.int p2), .val (.int (1 : Int32)), .val (.ref b14), .val (.ref b15), .unset] [(.int (1 : Int32))])) (fun _ k_ => XS.iload X17.here hx rfl (hb hby at_52) rfl k_) ?_
    refine own_w (T' := T17) (g' := (mkF m 55 #[.val (.int sel), .val (.int p0), .val (.int p1), .val (.int p2), .val (.int (1 : Int32)), .val (.ref b14), .val (.ref b15), .unset] [(.int (2 : Int32)), (.int (1 : Int32))])) (fun _ k_ => XS.iconst X17.here hx rfl (hb hby at_54) k_) ?_
    refine own_w (T' := T17) (g' := (mkF m 70 #[.val (.int sel), .val (.int p0), .val (.int p1), .val (.int p2), .val (.int (1 : Int32)), .val (.ref b14), .val (.ref b15), .unset] [])) (fun _ k_ => XS.icmpYes X17.here hx rfl (pc0 := 55) (pc' := 70) rfl (hb hby at_55) rfl (flt (by decide)).2.2.2 (by decide) (by decide) k_) ?_
    refine own_w (T' := T17) (g' := (mkF m 72 #[.val (.int sel), .val (.int p0), .val (.int p1), .val (.int p2), .val (.int (1 : Int32)), .val (.ref b14), .val (.ref b15), .unset] [(.ref b14)])) (fun _ k_ => XS.aload X17.here hx rfl (hb hby at_70) rfl rfl k_) ?_
    have fc0 := own_f8 p0
    generalize hc0_ : p0.toInt8.toInt32 = c0 at *
    have Vg : own_Ar Z h17 b14 .byte [c0] := B17
    have Ve : own_Ar Z h17 b15 .byte [c0] := V17
    have hf : ∀ x ∈ [c0], fits .byte (.int x) = true := by simp [fc0]
    obtain ⟨_, _, ⟨T18, L18, k18, n18⟩, -, X18, ⟨Lc18, hQ18, l18, y18, z18⟩, st18⟩ := Jvm.LawKit.callS X17 hx (y := (⟨"com/example/adjacency/adjacency/wire/PrefixedBytes", "copyOf", "([B)Lcom/example/adjacency/adjacency/wire/PrefixedBytes;"⟩ : MethodName)) hown (mvT hZ (hw _ (List.mem_of_getElem? (i := 1) rfl))) (mvT hZ (hw _ (List.mem_of_getElem? (i := 2) rfl))) (mvT hZ (hw _ (List.mem_of_getElem? (i := 3) rfl))) (mvT hZ (hw _ (List.mem_of_getElem? (i := 4) rfl))) (by decide) (backOf (W := 0) (own_rm1_1 l Z a0 hw [] b14 c0 h17 n0 Z17 Vg Xa17 hf) hZ (hw _ (List.mem_of_getElem? (i := 4) rfl)) (hw _ (List.mem_of_getElem? (i := 3) rfl)) (by decide) (by decide)) (g := (mkF m 72 #[.val (.int sel), .val (.int p0), .val (.int p1), .val (.int p2), .val (.int (1 : Int32)), .val (.ref b14), .val (.ref b15), .unset] [(.ref b14)])) rfl (by rw [hml]; rfl) (argsL := [(.ref b14)]) (rest := []) (lenOf own_pd5 rfl) rfl (by show 2 * 0 + _ ≤ _; exact Nat.le_of_eq rfl) (hb hby at_72) (fun _ _ => ⟨rfl, e17, (by decide : 2 + 2 ≤ _), (by decide : 2 + 6 ≤ _)⟩)
    dsimp only [Pt.U, Pt.locs, Pt.cells, Pt.slots] at X18 l18 y18 z18 st18 hQ18
    subst l18 y18 z18
    obtain ⟨h18, e18⟩ : ∃ h, T18.heap = h := ⟨_, rfl⟩
    rw [e18] at hQ18
    obtain ⟨rfl, N18q, K18, EP18, ar, lt18, P180, P181, P182, VA18, XA18⟩ := hQ18
    have N18 := Fr.app N17 N18q
    refine own_w (T' := T18) (g' := (mkF m 75 #[.val (.int sel), .val (.int p0), .val (.int p1), .val (.int p2), .val (.int (1 : Int32)), .val (.ref b14), .val (.ref b15), .unset] [(.ref h17.size)])) st18 ?_
    have Z18 : n0 ≤ h18.size := Nat.le_trans Z17 K18.1
    generalize hp : h17.size = pp at *
    have Vg18 := own_Ar_keep Vg K18 (by simp)
    have Ve18 := own_Ar_keep Ve K18 (by simp)
    have na : ar ≠ b14 := fun q => Nat.lt_irrefl _ (Nat.lt_trans (hp ▸ own_Ar_lt Vg) (q ▸ lt18))
    have np : pp ≠ b14 := fun q => Nat.lt_irrefl _ (q ▸ hp ▸ own_Ar_lt Vg)
    refine own_w (T' := T18) (g' := (mkF m 77 #[.val (.int sel), .val (.int p0), .val (.int p1), .val (.int p2), .val (.int (1 : Int32)), .val (.ref b14), .val (.ref b15), .val (.ref pp)] [])) (fun _ k_ => XS.astore X18.here hx rfl (hb hby at_75) rfl rfl (l' := #[.val (.int sel), .val (.int p0), .val (.int p1), .val (.int p2), .val (.int (1 : Int32)), .val (.ref b14), .val (.ref b15), .val (.ref pp)]) rfl k_) ?_
    refine own_w (T' := T18) (g' := (mkF m 79 #[.val (.int sel), .val (.int p0), .val (.int p1), .val (.int p2), .val (.int (1 : Int32)), .val (.ref b14), .val (.ref b15), .val (.ref pp)] [(.ref b14)])) (fun _ k_ => XS.aload X18.here hx rfl (hb hby at_77) rfl rfl k_) ?_
    refine own_w (T' := T18) (g' := (mkF m 81 #[.val (.int sel), .val (.int p0), .val (.int p1), .val (.int p2), .val (.int (1 : Int32)), .val (.ref b14), .val (.ref b15), .val (.ref pp)] [(.ref b15), (.ref b14)])) (fun _ k_ => XS.aload X18.here hx rfl (hb hby at_79) rfl rfl k_) ?_
    refine own_w (T' := T18) (g' := (mkF m 83 #[.val (.int sel), .val (.int p0), .val (.int p1), .val (.int p2), .val (.int (1 : Int32)), .val (.ref b14), .val (.ref b15), .val (.ref pp)] [(.int (1 : Int32)), (.ref b15), (.ref b14)])) (fun _ k_ => XS.iload X18.here hx rfl (hb hby at_81) rfl k_) ?_
    obtain ⟨_, _, ⟨T19, L19, k19, n19⟩, -, X19, ⟨Lc19, hQ19, l19, y19, z19⟩, st19⟩ := Jvm.LawKit.callS X18 hx (y := (⟨"com/example/adjacency/adjacency/wire/PrefixedBytesCopyOfPinLaw", "same", "([B[BI)Z"⟩ : MethodName)) hown (mvT hZ (hw _ (List.mem_of_getElem? (i := 28) rfl))) (mvT hZ (hw _ (List.mem_of_getElem? (i := 29) rfl))) (mvT hZ (hw _ (List.mem_of_getElem? (i := 30) rfl))) (mvT hZ (hw _ (List.mem_of_getElem? (i := 31) rfl))) (by decide) (backOf (W := 0) (own_rm4_1 l Z a0 hw [] b14 b15 c0 c0 h18 n0 Z18 Vg18 Ve18) hZ (hw _ (List.mem_of_getElem? (i := 31) rfl)) (hw _ (List.mem_of_getElem? (i := 30) rfl)) (by decide) (by decide)) (g := (mkF m 83 #[.val (.int sel), .val (.int p0), .val (.int p1), .val (.int p2), .val (.int (1 : Int32)), .val (.ref b14), .val (.ref b15), .val (.ref pp)] [(.int (1 : Int32)), (.ref b15), (.ref b14)])) rfl (by rw [hml]; rfl) (argsL := [(.ref b14), (.ref b15), (.int (1 : Int32))]) (rest := []) (lenOf own_pd6 rfl) rfl (by show 2 * 0 + _ ≤ _; exact Nat.le_of_eq rfl) (hb hby at_83) (fun _ _ => ⟨rfl, e18, (by decide : 4 + 0 ≤ _), (by decide : 8 + 0 ≤ _)⟩)
    dsimp only [Pt.U, Pt.locs, Pt.cells, Pt.slots] at X19 l19 y19 z19 st19 hQ19
    subst l19 y19 z19
    obtain ⟨rfl, N19q, e19⟩ := hQ19
    have N19 := Fr.app N18 N19q
    refine own_w (T' := T19) (g' := (mkF m 86 #[.val (.int sel), .val (.int p0), .val (.int p1), .val (.int p2), .val (.int (1 : Int32)), .val (.ref b14), .val (.ref b15), .val (.ref pp)] [(.int (if ([c0] = [c0]) then (1 : Int32) else 0))])) st19 ?_
    refine own_w (T' := T19) (g' := (mkF m 91 #[.val (.int sel), .val (.int p0), .val (.int p1), .val (.int p2), .val (.int (1 : Int32)), .val (.ref b14), .val (.ref b15), .val (.ref pp)] [])) (fun _ k_ => XS.ifYes X19.here hx rfl (pc0 := 86) (pc' := 91) rfl (hb hby at_86) rfl ((if0 _ _).trans (feq (fun q => (own_ite0.mp q) (show (([c0] = [c0])) from rfl))).2) (by decide) (by decide) k_) ?_
    refine own_w (T' := T19) (g' := (mkF m 93 #[.val (.int sel), .val (.int p0), .val (.int p1), .val (.int p2), .val (.int (1 : Int32)), .val (.ref b14), .val (.ref b15), .val (.ref pp)] [(.ref pp)])) (fun _ k_ => XS.aload X19.here hx rfl (hb hby at_91) rfl rfl k_) ?_
    obtain ⟨cq20, kq20, q20a, q20b, q20c⟩ := isOf hZ e19 EP18
    obtain ⟨_, _, ⟨T20, L20, k20, n20⟩, -, X20, ⟨Lc20, hQ20, l20, y20, z20⟩, st20⟩ := X19.virtualBack hx (y := (⟨"com/example/adjacency/adjacency/wire/PrefixedBytes", "length", "()I"⟩ : MethodName)) (z := (⟨"com/example/adjacency/adjacency/wire/PrefixedBytes", "length", "()I"⟩ : MethodName)) hown (mvT hZ (hw _ (List.mem_of_getElem? (i := 32) rfl))) (mvT hZ (hw _ (List.mem_of_getElem? (i := 33) rfl))) (notFace_of_selects (args := #[]) (mvT hZ (hw _ (List.mem_of_getElem? (i := 35) rfl)))) (mvT hZ (hw _ (List.mem_of_getElem? (i := 35) rfl))) (mvT hZ (hw _ (List.mem_of_getElem? (i := 34) rfl))) (by decide) (backOf (W := 0) (own_rm5_1 l Z a0 hw [] pp  h18 n0 Z18 P182) hZ (hw _ (List.mem_of_getElem? (i := 36) rfl)) (hw _ (List.mem_of_getElem? (i := 3) rfl)) (by decide) (by decide)) q20a q20c (g := (mkF m 93 #[.val (.int sel), .val (.int p0), .val (.int p1), .val (.int p2), .val (.int (1 : Int32)), .val (.ref b14), .val (.ref b15), .val (.ref pp)] [(.ref pp)])) rfl (by rw [hml]; rfl) (Steps.refl _) (argsL := []) (rest := []) (lenOf own_pd7 rfl) rfl (by show 2 * 0 + _ ≤ _; exact Nat.le_of_eq rfl) (hb hby at_93) (fun _ _ => ⟨rfl, e19, (by decide : 4 + 0 ≤ _), (by decide : 8 + 0 ≤ _)⟩)
    dsimp only [Pt.U, Pt.locs, Pt.cells, Pt.slots] at X20 l20 y20 z20 st20 hQ20
    subst l20 y20 z20
    obtain ⟨rfl, N20q, e20⟩ := hQ20
    have N20 := Fr.app N19 N20q
    refine own_t (T' := T20) (g' := (mkF m 96 #[.val (.int sel), .val (.int p0), .val (.int p1), .val (.int p2), .val (.int (1 : Int32)), .val (.ref b14), .val (.ref b15), .val (.ref pp)] [(.int (1 : Int32))])) st20 ?_
    refine own_w (T' := T20) (g' := (mkF m 98 #[.val (.int sel), .val (.int p0), .val (.int p1), .val (.int p2), .val (.int (1 : Int32)), .val (.ref b14), .val (.ref b15), .val (.ref pp)] [(.int (1 : Int32)), (.int (1 : Int32))])) (fun _ k_ => XS.iload X20.here hx rfl (hb hby at_96) rfl k_) ?_
    refine own_w (T' := T20) (g' := (mkF m 103 #[.val (.int sel), .val (.int p0), .val (.int p1), .val (.int p2), .val (.int (1 : Int32)), .val (.ref b14), .val (.ref b15), .val (.ref pp)] [])) (fun _ k_ => XS.icmpYes X20.here hx rfl (pc0 := 98) (pc' := 103) rfl (hb hby at_98) rfl (teq rfl).1 (by decide) (by decide) k_) ?_
    refine own_w (T' := T20) (g' := (mkF m 105 #[.val (.int sel), .val (.int p0), .val (.int p1), .val (.int p2), .val (.int (1 : Int32)), .val (.ref b14), .val (.ref b15), .val (.ref pp)] [(.ref pp)])) (fun _ k_ => XS.aload X20.here hx rfl (hb hby at_103) rfl rfl k_) ?_
    obtain ⟨cq21, kq21, q21a, q21b, q21c⟩ := isOf hZ e20 EP18
    obtain ⟨_, _, ⟨T21, L21, k21, n21⟩, -, X21, ⟨Lc21, hQ21, l21, y21, z21⟩, st21⟩ := X20.virtualBack hx (y := (⟨"com/example/adjacency/adjacency/wire/PrefixedBytes", "prefixedLength", "()I"⟩ : MethodName)) (z := (⟨"com/example/adjacency/adjacency/wire/PrefixedBytes", "prefixedLength", "()I"⟩ : MethodName)) hown (mvT hZ (hw _ (List.mem_of_getElem? (i := 37) rfl))) (mvT hZ (hw _ (List.mem_of_getElem? (i := 38) rfl))) (notFace_of_selects (args := #[]) (mvT hZ (hw _ (List.mem_of_getElem? (i := 40) rfl)))) (mvT hZ (hw _ (List.mem_of_getElem? (i := 40) rfl))) (mvT hZ (hw _ (List.mem_of_getElem? (i := 39) rfl))) (by decide) (backOf (W := 0) (own_rm6_1 l Z a0 hw [] pp  h18 n0 Z18 P182) hZ (hw _ (List.mem_of_getElem? (i := 41) rfl)) (hw _ (List.mem_of_getElem? (i := 3) rfl)) (by decide) (by decide)) q21a q21c (g := (mkF m 105 #[.val (.int sel), .val (.int p0), .val (.int p1), .val (.int p2), .val (.int (1 : Int32)), .val (.ref b14), .val (.ref b15), .val (.ref pp)] [(.ref pp)])) rfl (by rw [hml]; rfl) (Steps.refl _) (argsL := []) (rest := []) (lenOf own_pd7 rfl) rfl (by show 2 * 0 + _ ≤ _; exact Nat.le_of_eq rfl) (hb hby at_105) (fun _ _ => ⟨rfl, e20, (by decide : 4 + 0 ≤ _), (by decide : 8 + 0 ≤ _)⟩)
    dsimp only [Pt.U, Pt.locs, Pt.cells, Pt.slots] at X21 l21 y21 z21 st21 hQ21
    subst l21 y21 z21
    obtain ⟨rfl, N21q, e21⟩ := hQ21
    have N21 := Fr.app N20 N21q
    refine own_t (T' := T21) (g' := (mkF m 108 #[.val (.int sel), .val (.int p0), .val (.int p1), .val (.int p2), .val (.int (1 : Int32)), .val (.ref b14), .val (.ref b15), .val (.ref pp)] [(.int (3 : Int32))])) st21 ?_
    refine own_w (T' := T21) (g' := (mkF m 110 #[.val (.int sel), .val (.int p0), .val (.int p1), .val (.int p2), .val (.int (1 : Int32)), .val (.ref b14), .val (.ref b15), .val (.ref pp)] [(.int (1 : Int32)), (.int (3 : Int32))])) (fun _ k_ => XS.iload X21.here hx rfl (hb hby at_108) rfl k_) ?_
    refine own_w (T' := T21) (g' := (mkF m 111 #[.val (.int sel), .val (.int p0), .val (.int p1), .val (.int p2), .val (.int (1 : Int32)), .val (.ref b14), .val (.ref b15), .val (.ref pp)] [(.int (2 : Int32)), (.int (1 : Int32)), (.int (3 : Int32))])) (fun _ k_ => XS.iconst X21.here hx rfl (hb hby at_110) k_) ?_
    refine own_w (T' := T21) (g' := (mkF m 112 #[.val (.int sel), .val (.int p0), .val (.int p1), .val (.int p2), .val (.int (1 : Int32)), .val (.ref b14), .val (.ref b15), .val (.ref pp)] [(.int (3 : Int32)), (.int (3 : Int32))])) (fun _ k_ => XS.iadd X21.here hx rfl (hb hby at_111) rfl k_) ?_
    refine own_w (T' := T21) (g' := (mkF m 117 #[.val (.int sel), .val (.int p0), .val (.int p1), .val (.int p2), .val (.int (1 : Int32)), .val (.ref b14), .val (.ref b15), .val (.ref pp)] [])) (fun _ k_ => XS.icmpYes X21.here hx rfl (pc0 := 112) (pc' := 117) rfl (hb hby at_112) rfl (teq rfl).1 (by decide) (by decide) k_) ?_
    refine own_w (T' := T21) (g' := (mkF m 119 #[.val (.int sel), .val (.int p0), .val (.int p1), .val (.int p2), .val (.int (1 : Int32)), .val (.ref b14), .val (.ref b15), .val (.ref pp)] [(.ref pp)])) (fun _ k_ => XS.aload X21.here hx rfl (hb hby at_117) rfl rfl k_) ?_
    obtain ⟨cq22, kq22, q22a, q22b, q22c⟩ := isOf hZ e21 EP18
    obtain ⟨_, _, ⟨T22, L22, k22, n22⟩, -, X22, ⟨Lc22, hQ22, l22, y22, z22⟩, st22⟩ := X21.virtualBack hx (y := (⟨"com/example/adjacency/adjacency/wire/PrefixedBytes", "toArray", "()[B"⟩ : MethodName)) (z := (⟨"com/example/adjacency/adjacency/wire/PrefixedBytes", "toArray", "()[B"⟩ : MethodName)) hown (mvT hZ (hw _ (List.mem_of_getElem? (i := 42) rfl))) (mvT hZ (hw _ (List.mem_of_getElem? (i := 43) rfl))) (notFace_of_selects (args := #[]) (mvT hZ (hw _ (List.mem_of_getElem? (i := 45) rfl)))) (mvT hZ (hw _ (List.mem_of_getElem? (i := 45) rfl))) (mvT hZ (hw _ (List.mem_of_getElem? (i := 44) rfl))) (by decide) (backOf (W := 0) (own_rm7_1 l Z a0 hw [] pp ar c0 h18 n0 Z18 P180 P181 P182 VA18 XA18 hf) hZ (hw _ (List.mem_of_getElem? (i := 46) rfl)) (hw _ (List.mem_of_getElem? (i := 3) rfl)) (by decide) (by decide)) q22a q22c (g := (mkF m 119 #[.val (.int sel), .val (.int p0), .val (.int p1), .val (.int p2), .val (.int (1 : Int32)), .val (.ref b14), .val (.ref b15), .val (.ref pp)] [(.ref pp)])) rfl (by rw [hml]; rfl) (Steps.refl _) (argsL := []) (rest := []) (lenOf own_pd8 rfl) rfl (by show 2 * 0 + _ ≤ _; exact Nat.le_of_eq rfl) (hb hby at_119) (fun _ _ => ⟨rfl, e21, (by decide : 4 + 1 ≤ _), (by decide : 8 + 3 ≤ _)⟩)
    dsimp only [Pt.U, Pt.locs, Pt.cells, Pt.slots] at X22 l22 y22 z22 st22 hQ22
    subst l22 y22 z22
    obtain ⟨h22, e22⟩ : ∃ h, T22.heap = h := ⟨_, rfl⟩
    rw [e22] at hQ22
    obtain ⟨rfl, N22q, K22, VN22⟩ := hQ22
    have N22 := Fr.app N21 N22q
    refine own_t (T' := T22) (g' := (mkF m 122 #[.val (.int sel), .val (.int p0), .val (.int p1), .val (.int p2), .val (.int (1 : Int32)), .val (.ref b14), .val (.ref b15), .val (.ref pp)] [(.ref h18.size)])) st22 ?_
    have Z22 : n0 ≤ h22.size := Nat.le_trans Z18 K22.1
    have VA_22 := own_Ar_keep VA18 K22 (by simp)
    have Vg_22 := own_Ar_keep Vg18 K22 (by simp)
    have Ve_22 := own_Ar_keep Ve18 K22 (by simp)
    have XA_22 := XA18.keep K22
    have E_22 := EP18.keep K22
    have F_22_0 := P180.keep K22 (by simp)
    have F_22_1 := P181.keep K22 (by simp)
    have F_22_2 := P182.keep K22 (by simp)
    refine own_w (T' := T22) (g' := (mkF m 124 #[.val (.int sel), .val (.int p0), .val (.int p1), .val (.int p2), .val (.int (1 : Int32)), .val (.ref b14), .val (.ref b15), .val (.ref pp)] [(.ref b15), (.ref h18.size)])) (fun _ k_ => XS.aload X22.here hx rfl (hb hby at_122) rfl rfl k_) ?_
    refine own_w (T' := T22) (g' := (mkF m 126 #[.val (.int sel), .val (.int p0), .val (.int p1), .val (.int p2), .val (.int (1 : Int32)), .val (.ref b14), .val (.ref b15), .val (.ref pp)] [(.int (1 : Int32)), (.ref b15), (.ref h18.size)])) (fun _ k_ => XS.iload X22.here hx rfl (hb hby at_124) rfl k_) ?_
    obtain ⟨_, _, ⟨T23, L23, k23, n23⟩, -, X23, ⟨Lc23, hQ23, l23, y23, z23⟩, st23⟩ := Jvm.LawKit.callS X22 hx (y := (⟨"com/example/adjacency/adjacency/wire/PrefixedBytesCopyOfPinLaw", "same", "([B[BI)Z"⟩ : MethodName)) hown (mvT hZ (hw _ (List.mem_of_getElem? (i := 28) rfl))) (mvT hZ (hw _ (List.mem_of_getElem? (i := 29) rfl))) (mvT hZ (hw _ (List.mem_of_getElem? (i := 30) rfl))) (mvT hZ (hw _ (List.mem_of_getElem? (i := 31) rfl))) (by decide) (backOf (W := 0) (own_rm4_1 l Z a0 hw [] h18.size b15 c0 c0 h22 n0 Z22 VN22 Ve_22) hZ (hw _ (List.mem_of_getElem? (i := 31) rfl)) (hw _ (List.mem_of_getElem? (i := 30) rfl)) (by decide) (by decide)) (g := (mkF m 126 #[.val (.int sel), .val (.int p0), .val (.int p1), .val (.int p2), .val (.int (1 : Int32)), .val (.ref b14), .val (.ref b15), .val (.ref pp)] [(.int (1 : Int32)), (.ref b15), (.ref h18.size)])) rfl (by rw [hml]; rfl) (argsL := [(.ref h18.size), (.ref b15), (.int (1 : Int32))]) (rest := []) (lenOf own_pd6 rfl) rfl (by show 2 * 0 + _ ≤ _; exact Nat.le_of_eq rfl) (hb hby at_126) (fun _ _ => ⟨rfl, e22, (by decide : 5 + 0 ≤ _), (by decide : 11 + 0 ≤ _)⟩)
    dsimp only [Pt.U, Pt.locs, Pt.cells, Pt.slots] at X23 l23 y23 z23 st23 hQ23
    subst l23 y23 z23
    obtain ⟨rfl, N23q, e23⟩ := hQ23
    have N23 := Fr.app N22 N23q
    refine own_w (T' := T23) (g' := (mkF m 129 #[.val (.int sel), .val (.int p0), .val (.int p1), .val (.int p2), .val (.int (1 : Int32)), .val (.ref b14), .val (.ref b15), .val (.ref pp)] [(.int (if ([c0] = [c0]) then (1 : Int32) else 0))])) st23 ?_
    refine own_w (T' := T23) (g' := (mkF m 134 #[.val (.int sel), .val (.int p0), .val (.int p1), .val (.int p2), .val (.int (1 : Int32)), .val (.ref b14), .val (.ref b15), .val (.ref pp)] [])) (fun _ k_ => XS.ifYes X23.here hx rfl (pc0 := 129) (pc' := 134) rfl (hb hby at_129) rfl ((if0 _ _).trans (feq (fun q => (own_ite0.mp q) (show (([c0] = [c0])) from rfl))).2) (by decide) (by decide) k_) ?_
    refine own_w (T' := T23) (g' := (mkF m 136 #[.val (.int sel), .val (.int p0), .val (.int p1), .val (.int p2), .val (.int (1 : Int32)), .val (.ref b14), .val (.ref b15), .val (.ref pp)] [(.ref pp)])) (fun _ k_ => XS.aload X23.here hx rfl (hb hby at_134) rfl rfl k_) ?_
    refine own_w (T' := T23) (g' := (mkF m 138 #[.val (.int sel), .val (.int p0), .val (.int p1), .val (.int p2), .val (.int (1 : Int32)), .val (.ref b14), .val (.ref b15), .val (.ref pp)] [(.ref b15), (.ref pp)])) (fun _ k_ => XS.aload X23.here hx rfl (hb hby at_136) rfl rfl k_) ?_
    obtain ⟨cq24, kq24, q24a, q24b, q24c⟩ := isOf hZ e23 E_22
    obtain ⟨_, _, ⟨T24, L24, k24, n24⟩, -, X24, ⟨Lc24, hQ24, l24, y24, z24⟩, st24⟩ := X23.virtualBack hx (y := (⟨"com/example/adjacency/adjacency/wire/PrefixedBytes", "isSameAs", "([B)Z"⟩ : MethodName)) (z := (⟨"com/example/adjacency/adjacency/wire/PrefixedBytes", "isSameAs", "([B)Z"⟩ : MethodName)) hown (mvT hZ (hw _ (List.mem_of_getElem? (i := 53) rfl))) (mvT hZ (hw _ (List.mem_of_getElem? (i := 54) rfl))) (notFace_of_selects (args := #[]) (mvT hZ (hw _ (List.mem_of_getElem? (i := 56) rfl)))) (mvT hZ (hw _ (List.mem_of_getElem? (i := 56) rfl))) (mvT hZ (hw _ (List.mem_of_getElem? (i := 55) rfl))) (by decide) (backOf (W := 0) (own_rm9_1 l Z a0 hw [] pp b15 ar c0 c0 h22 n0 Z22 F_22_0 F_22_1 F_22_2 VA_22 Ve_22) hZ (hw _ (List.mem_of_getElem? (i := 57) rfl)) (hw _ (List.mem_of_getElem? (i := 3) rfl)) (by decide) (by decide)) q24a q24c (g := (mkF m 138 #[.val (.int sel), .val (.int p0), .val (.int p1), .val (.int p2), .val (.int (1 : Int32)), .val (.ref b14), .val (.ref b15), .val (.ref pp)] [(.ref b15), (.ref pp)])) rfl (by rw [hml]; rfl) (Steps.refl _) (argsL := [(.ref b15)]) (rest := []) (lenOf own_pd9 rfl) rfl (by show 2 * 0 + _ ≤ _; exact Nat.le_of_eq rfl) (hb hby at_138) (fun _ _ => ⟨rfl, e23, (by decide : 5 + 0 ≤ _), (by decide : 11 + 0 ≤ _)⟩)
    dsimp only [Pt.U, Pt.locs, Pt.cells, Pt.slots] at X24 l24 y24 z24 st24 hQ24
    subst l24 y24 z24
    obtain ⟨rfl, N24q, e24⟩ := hQ24
    have N24 := Fr.app N23 N24q
    refine own_t (T' := T24) (g' := (mkF m 141 #[.val (.int sel), .val (.int p0), .val (.int p1), .val (.int p2), .val (.int (1 : Int32)), .val (.ref b14), .val (.ref b15), .val (.ref pp)] [(.int (if ([c0] = [c0]) then (1 : Int32) else 0))])) st24 ?_
    refine own_w (T' := T24) (g' := (mkF m 146 #[.val (.int sel), .val (.int p0), .val (.int p1), .val (.int p2), .val (.int (1 : Int32)), .val (.ref b14), .val (.ref b15), .val (.ref pp)] [])) (fun _ k_ => XS.ifYes X24.here hx rfl (pc0 := 141) (pc' := 146) rfl (hb hby at_141) rfl ((if0 _ _).trans (feq (fun q => (own_ite0.mp q) (show (([c0] = [c0])) from rfl))).2) (by decide) (by decide) k_) ?_
    refine own_w (T' := T24) (g' := (mkF m 148 #[.val (.int sel), .val (.int p0), .val (.int p1), .val (.int p2), .val (.int (1 : Int32)), .val (.ref b14), .val (.ref b15), .val (.ref pp)] [(.int (1 : Int32))])) (fun _ k_ => XS.iload X24.here hx rfl (hb hby at_146) rfl k_) ?_
    refine own_w (T' := T24) (g' := (mkF m 151 #[.val (.int sel), .val (.int p0), .val (.int p1), .val (.int p2), .val (.int (1 : Int32)), .val (.ref b14), .val (.ref b15), .val (.ref pp)] [])) (fun _ k_ => XS.ifNo X24.here hx rfl (hb hby at_148) rfl ((if0 _ _).trans (tlt (by decide)).2.2.2) k_) ?_
    refine own_w (T' := T24) (g' := (mkF m 153 #[.val (.int sel), .val (.int p0), .val (.int p1), .val (.int p2), .val (.int (1 : Int32)), .val (.ref b14), .val (.ref b15), .val (.ref pp)] [(.ref b14)])) (fun _ k_ => XS.aload X24.here hx rfl (hb hby at_151) rfl rfl k_) ?_
    refine own_w (T' := T24) (g' := (mkF m 154 #[.val (.int sel), .val (.int p0), .val (.int p1), .val (.int p2), .val (.int (1 : Int32)), .val (.ref b14), .val (.ref b15), .val (.ref pp)] [(.int (0 : Int32)), (.ref b14)])) (fun _ k_ => XS.iconst X24.here hx rfl (hb hby at_153) k_) ?_
    refine own_w (T' := T24) (g' := (mkF m 156 #[.val (.int sel), .val (.int p0), .val (.int p1), .val (.int p2), .val (.int (1 : Int32)), .val (.ref b14), .val (.ref b15), .val (.ref pp)] [(.ref b14), (.int (0 : Int32)), (.ref b14)])) (fun _ k_ => XS.aload X24.here hx rfl (hb hby at_154) rfl rfl k_) ?_
    refine own_w (T' := T24) (g' := (mkF m 157 #[.val (.int sel), .val (.int p0), .val (.int p1), .val (.int p2), .val (.int (1 : Int32)), .val (.ref b14), .val (.ref b15), .val (.ref pp)] [(.int (0 : Int32)), (.ref b14), (.int (0 : Int32)), (.ref b14)])) (fun _ k_ => XS.iconst X24.here hx rfl (hb hby at_156) k_) ?_
    obtain ⟨cl25, Ar25, hs25⟩ := id Vg_22
    refine own_w (T' := T24) (g' := (mkF m 158 #[.val (.int sel), .val (.int p0), .val (.int p1), .val (.int p2), .val (.int (1 : Int32)), .val (.ref b14), .val (.ref b15), .val (.ref pp)] [(.int c0), (.int (0 : Int32)), (.ref b14)])) (fun t_ k_ => X24.baloadBytes hx (j := (0 : Int32)) (v := .int c0) (by rw [e24]; exact Ar25.1) (State.isArrayOf_alike hZ.alike Ar25.2.1) Ar25.2.2 (own_Ar_in (i := 0) hs25 (by decide) (own_get_lt (show _ = some c0 from rfl))) (own_Ar_at (i := 0) hs25 (by decide) (show _ = some c0 from rfl)) (g := (mkF m 157 #[.val (.int sel), .val (.int p0), .val (.int p1), .val (.int p2), .val (.int (1 : Int32)), .val (.ref b14), .val (.ref b15), .val (.ref pp)] [(.int (0 : Int32)), (.ref b14), (.int (0 : Int32)), (.ref b14)])) rfl rfl (hb hby at_157) t_ k_) ?_
    refine own_w (T' := T24) (g' := (mkF m 159 #[.val (.int sel), .val (.int p0), .val (.int p1), .val (.int p2), .val (.int (1 : Int32)), .val (.ref b14), .val (.ref b15), .val (.ref pp)] [(.int (-1 : Int32)), (.int c0), (.int (0 : Int32)), (.ref b14)])) (fun _ k_ => XS.iconst X24.here hx rfl (hb hby at_158) k_) ?_
    refine own_w (T' := T24) (g' := (mkF m 160 #[.val (.int sel), .val (.int p0), .val (.int p1), .val (.int p2), .val (.int (1 : Int32)), .val (.ref b14), .val (.ref b15), .val (.ref pp)] [(.int (c0 ^^^ (-1 : Int32))), (.int (0 : Int32)), (.ref b14)])) (fun _ k_ => XS.ixor X24.here hx rfl (hb hby at_159) rfl k_) ?_
    refine own_w (T' := T24) (g' := (mkF m 161 #[.val (.int sel), .val (.int p0), .val (.int p1), .val (.int p2), .val (.int (1 : Int32)), .val (.ref b14), .val (.ref b15), .val (.ref pp)] [(.int ((c0 ^^^ (-1 : Int32)).toInt8.toInt32)), (.int (0 : Int32)), (.ref b14)])) (fun _ k_ => XS.i2b X24.here hx rfl (hb hby at_160) rfl k_) ?_
    obtain ⟨cl26, Ar26, hs26⟩ := id Vg_22
    obtain ⟨T26, h26, X26, e26, W26, st26⟩ := stB X24 hx hZ e24 Ar26 (j := (0 : Int32)) (own_Ar_in (i := 0) hs26 (by decide) (by simp)) (g := (mkF m 161 #[.val (.int sel), .val (.int p0), .val (.int p1), .val (.int p2), .val (.int (1 : Int32)), .val (.ref b14), .val (.ref b15), .val (.ref pp)] [(.int ((c0 ^^^ (-1 : Int32)).toInt8.toInt32)), (.int (0 : Int32)), (.ref b14)])) rfl rfl (hb hby at_161)
    have V26 := own_Ar_set (i := 0) Vg_22 W26 (by decide) (own_n8 _)
    have N26 := Fr.snoc X26 N24 g_b14
    have Z26 : n0 ≤ h26.size := Nat.le_trans Z22 (Keep.of_wr W26).1
    refine own_w (T' := T26) (g' := (mkF m 162 #[.val (.int sel), .val (.int p0), .val (.int p1), .val (.int p2), .val (.int (1 : Int32)), .val (.ref b14), .val (.ref b15), .val (.ref pp)] [])) st26 ?_
    have VA_26 := own_Ar_other VA_22 W26 na
    have Ve_26 := own_Ar_other Ve_22 W26 ne.symm
    have XA_26 := XA_22.wr W26
    have E_26 := E_22.wr W26
    have F_26_0 := F_22_0.other W26 (Or.inl np)
    have F_26_1 := F_22_1.other W26 (Or.inl np)
    have F_26_2 := F_22_2.other W26 (Or.inl np)
    refine own_w (T' := T26) (g' := (mkF m 164 #[.val (.int sel), .val (.int p0), .val (.int p1), .val (.int p2), .val (.int (1 : Int32)), .val (.ref b14), .val (.ref b15), .val (.ref pp)] [(.int (1 : Int32))])) (fun _ k_ => XS.iload X26.here hx rfl (hb hby at_162) rfl k_) ?_
    refine own_w (T' := T26) (g' := (mkF m 165 #[.val (.int sel), .val (.int p0), .val (.int p1), .val (.int p2), .val (.int (1 : Int32)), .val (.ref b14), .val (.ref b15), .val (.ref pp)] [(.int (1 : Int32)), (.int (1 : Int32))])) (fun _ k_ => XS.iconst X26.here hx rfl (hb hby at_164) k_) ?_
    refine own_w (T' := T26) (g' := (mkF m 179 #[.val (.int sel), .val (.int p0), .val (.int p1), .val (.int p2), .val (.int (1 : Int32)), .val (.ref b14), .val (.ref b15), .val (.ref pp)] [])) (fun _ k_ => XS.icmpYes X26.here hx rfl (pc0 := 165) (pc' := 179) rfl (hb hby at_165) rfl (flt (by decide)).2.2.2 (by decide) (by decide) k_) ?_
    refine own_w (T' := T26) (g' := (mkF m 181 #[.val (.int sel), .val (.int p0), .val (.int p1), .val (.int p2), .val (.int (1 : Int32)), .val (.ref b14), .val (.ref b15), .val (.ref pp)] [(.int (1 : Int32))])) (fun _ k_ => XS.iload X26.here hx rfl (hb hby at_179) rfl k_) ?_
    refine own_w (T' := T26) (g' := (mkF m 182 #[.val (.int sel), .val (.int p0), .val (.int p1), .val (.int p2), .val (.int (1 : Int32)), .val (.ref b14), .val (.ref b15), .val (.ref pp)] [(.int (2 : Int32)), (.int (1 : Int32))])) (fun _ k_ => XS.iconst X26.here hx rfl (hb hby at_181) k_) ?_
    refine own_w (T' := T26) (g' := (mkF m 196 #[.val (.int sel), .val (.int p0), .val (.int p1), .val (.int p2), .val (.int (1 : Int32)), .val (.ref b14), .val (.ref b15), .val (.ref pp)] [])) (fun _ k_ => XS.icmpYes X26.here hx rfl (pc0 := 182) (pc' := 196) rfl (hb hby at_182) rfl (flt (by decide)).2.2.2 (by decide) (by decide) k_) ?_
    refine own_w (T' := T26) (g' := (mkF m 198 #[.val (.int sel), .val (.int p0), .val (.int p1), .val (.int p2), .val (.int (1 : Int32)), .val (.ref b14), .val (.ref b15), .val (.ref pp)] [(.ref pp)])) (fun _ k_ => XS.aload X26.here hx rfl (hb hby at_196) rfl rfl k_) ?_
    obtain ⟨cq27, kq27, q27a, q27b, q27c⟩ := isOf hZ e26 E_26
    obtain ⟨_, _, ⟨T27, L27, k27, n27⟩, -, X27, ⟨Lc27, hQ27, l27, y27, z27⟩, st27⟩ := X26.virtualBack hx (y := (⟨"com/example/adjacency/adjacency/wire/PrefixedBytes", "toArray", "()[B"⟩ : MethodName)) (z := (⟨"com/example/adjacency/adjacency/wire/PrefixedBytes", "toArray", "()[B"⟩ : MethodName)) hown (mvT hZ (hw _ (List.mem_of_getElem? (i := 42) rfl))) (mvT hZ (hw _ (List.mem_of_getElem? (i := 43) rfl))) (notFace_of_selects (args := #[]) (mvT hZ (hw _ (List.mem_of_getElem? (i := 45) rfl)))) (mvT hZ (hw _ (List.mem_of_getElem? (i := 45) rfl))) (mvT hZ (hw _ (List.mem_of_getElem? (i := 44) rfl))) (by decide) (backOf (W := 0) (own_rm7_1 l Z a0 hw [] pp ar c0 h26 n0 Z26 F_26_0 F_26_1 F_26_2 VA_26 XA_26 hf) hZ (hw _ (List.mem_of_getElem? (i := 46) rfl)) (hw _ (List.mem_of_getElem? (i := 3) rfl)) (by decide) (by decide)) q27a q27c (g := (mkF m 198 #[.val (.int sel), .val (.int p0), .val (.int p1), .val (.int p2), .val (.int (1 : Int32)), .val (.ref b14), .val (.ref b15), .val (.ref pp)] [(.ref pp)])) rfl (by rw [hml]; rfl) (Steps.refl _) (argsL := []) (rest := []) (lenOf own_pd8 rfl) rfl (by show 2 * 0 + _ ≤ _; exact Nat.le_of_eq rfl) (hb hby at_198) (fun _ _ => ⟨rfl, e26, (by decide : 5 + 1 ≤ _), (by decide : 11 + 3 ≤ _)⟩)
    dsimp only [Pt.U, Pt.locs, Pt.cells, Pt.slots] at X27 l27 y27 z27 st27 hQ27
    subst l27 y27 z27
    obtain ⟨h27, e27⟩ : ∃ h, T27.heap = h := ⟨_, rfl⟩
    rw [e27] at hQ27
    obtain ⟨rfl, N27q, K27, VN27⟩ := hQ27
    have N27 := Fr.app N26 N27q
    refine own_t (T' := T27) (g' := (mkF m 201 #[.val (.int sel), .val (.int p0), .val (.int p1), .val (.int p2), .val (.int (1 : Int32)), .val (.ref b14), .val (.ref b15), .val (.ref pp)] [(.ref h26.size)])) st27 ?_
    have Z27 : n0 ≤ h27.size := Nat.le_trans Z26 K27.1
    have VA_27 := own_Ar_keep VA_26 K27 (by simp)
    have Vg_27 := own_Ar_keep V26 K27 (by simp)
    have Ve_27 := own_Ar_keep Ve_26 K27 (by simp)
    have XA_27 := XA_26.keep K27
    have E_27 := E_26.keep K27
    have F_27_0 := F_26_0.keep K27 (by simp)
    have F_27_1 := F_26_1.keep K27 (by simp)
    have F_27_2 := F_26_2.keep K27 (by simp)
    refine own_w (T' := T27) (g' := (mkF m 203 #[.val (.int sel), .val (.int p0), .val (.int p1), .val (.int p2), .val (.int (1 : Int32)), .val (.ref b14), .val (.ref b15), .val (.ref pp)] [(.ref b15), (.ref h26.size)])) (fun _ k_ => XS.aload X27.here hx rfl (hb hby at_201) rfl rfl k_) ?_
    refine own_w (T' := T27) (g' := (mkF m 205 #[.val (.int sel), .val (.int p0), .val (.int p1), .val (.int p2), .val (.int (1 : Int32)), .val (.ref b14), .val (.ref b15), .val (.ref pp)] [(.int (1 : Int32)), (.ref b15), (.ref h26.size)])) (fun _ k_ => XS.iload X27.here hx rfl (hb hby at_203) rfl k_) ?_
    obtain ⟨_, _, ⟨T28, L28, k28, n28⟩, -, X28, ⟨Lc28, hQ28, l28, y28, z28⟩, st28⟩ := Jvm.LawKit.callS X27 hx (y := (⟨"com/example/adjacency/adjacency/wire/PrefixedBytesCopyOfPinLaw", "same", "([B[BI)Z"⟩ : MethodName)) hown (mvT hZ (hw _ (List.mem_of_getElem? (i := 28) rfl))) (mvT hZ (hw _ (List.mem_of_getElem? (i := 29) rfl))) (mvT hZ (hw _ (List.mem_of_getElem? (i := 30) rfl))) (mvT hZ (hw _ (List.mem_of_getElem? (i := 31) rfl))) (by decide) (backOf (W := 0) (own_rm4_1 l Z a0 hw [] h26.size b15 c0 c0 h27 n0 Z27 VN27 Ve_27) hZ (hw _ (List.mem_of_getElem? (i := 31) rfl)) (hw _ (List.mem_of_getElem? (i := 30) rfl)) (by decide) (by decide)) (g := (mkF m 205 #[.val (.int sel), .val (.int p0), .val (.int p1), .val (.int p2), .val (.int (1 : Int32)), .val (.ref b14), .val (.ref b15), .val (.ref pp)] [(.int (1 : Int32)), (.ref b15), (.ref h26.size)])) rfl (by rw [hml]; rfl) (argsL := [(.ref h26.size), (.ref b15), (.int (1 : Int32))]) (rest := []) (lenOf own_pd6 rfl) rfl (by show 2 * 0 + _ ≤ _; exact Nat.le_of_eq rfl) (hb hby at_205) (fun _ _ => ⟨rfl, e27, (by decide : 6 + 0 ≤ _), (by decide : 14 + 0 ≤ _)⟩)
    dsimp only [Pt.U, Pt.locs, Pt.cells, Pt.slots] at X28 l28 y28 z28 st28 hQ28
    subst l28 y28 z28
    obtain ⟨rfl, N28q, e28⟩ := hQ28
    have N28 := Fr.app N27 N28q
    refine own_w (T' := T28) (g' := (mkF m 208 #[.val (.int sel), .val (.int p0), .val (.int p1), .val (.int p2), .val (.int (1 : Int32)), .val (.ref b14), .val (.ref b15), .val (.ref pp)] [(.int (if ([c0] = [c0]) then (1 : Int32) else 0))])) st28 ?_
    refine own_w (T' := T28) (g' := (mkF m 213 #[.val (.int sel), .val (.int p0), .val (.int p1), .val (.int p2), .val (.int (1 : Int32)), .val (.ref b14), .val (.ref b15), .val (.ref pp)] [])) (fun _ k_ => XS.ifYes X28.here hx rfl (pc0 := 208) (pc' := 213) rfl (hb hby at_208) rfl ((if0 _ _).trans (feq (fun q => (own_ite0.mp q) (show (([c0] = [c0])) from rfl))).2) (by decide) (by decide) k_) ?_
    refine own_w (T' := T28) (g' := (mkF m 215 #[.val (.int sel), .val (.int p0), .val (.int p1), .val (.int p2), .val (.int (1 : Int32)), .val (.ref b14), .val (.ref b15), .val (.ref pp)] [(.ref pp)])) (fun _ k_ => XS.aload X28.here hx rfl (hb hby at_213) rfl rfl k_) ?_
    refine own_w (T' := T28) (g' := (mkF m 217 #[.val (.int sel), .val (.int p0), .val (.int p1), .val (.int p2), .val (.int (1 : Int32)), .val (.ref b14), .val (.ref b15), .val (.ref pp)] [(.ref b15), (.ref pp)])) (fun _ k_ => XS.aload X28.here hx rfl (hb hby at_215) rfl rfl k_) ?_
    obtain ⟨cq29, kq29, q29a, q29b, q29c⟩ := isOf hZ e28 E_27
    obtain ⟨_, _, ⟨T29, L29, k29, n29⟩, -, X29, ⟨Lc29, hQ29, l29, y29, z29⟩, st29⟩ := X28.virtualBack hx (y := (⟨"com/example/adjacency/adjacency/wire/PrefixedBytes", "isSameAs", "([B)Z"⟩ : MethodName)) (z := (⟨"com/example/adjacency/adjacency/wire/PrefixedBytes", "isSameAs", "([B)Z"⟩ : MethodName)) hown (mvT hZ (hw _ (List.mem_of_getElem? (i := 53) rfl))) (mvT hZ (hw _ (List.mem_of_getElem? (i := 54) rfl))) (notFace_of_selects (args := #[]) (mvT hZ (hw _ (List.mem_of_getElem? (i := 56) rfl)))) (mvT hZ (hw _ (List.mem_of_getElem? (i := 56) rfl))) (mvT hZ (hw _ (List.mem_of_getElem? (i := 55) rfl))) (by decide) (backOf (W := 0) (own_rm9_1 l Z a0 hw [] pp b15 ar c0 c0 h27 n0 Z27 F_27_0 F_27_1 F_27_2 VA_27 Ve_27) hZ (hw _ (List.mem_of_getElem? (i := 57) rfl)) (hw _ (List.mem_of_getElem? (i := 3) rfl)) (by decide) (by decide)) q29a q29c (g := (mkF m 217 #[.val (.int sel), .val (.int p0), .val (.int p1), .val (.int p2), .val (.int (1 : Int32)), .val (.ref b14), .val (.ref b15), .val (.ref pp)] [(.ref b15), (.ref pp)])) rfl (by rw [hml]; rfl) (Steps.refl _) (argsL := [(.ref b15)]) (rest := []) (lenOf own_pd9 rfl) rfl (by show 2 * 0 + _ ≤ _; exact Nat.le_of_eq rfl) (hb hby at_217) (fun _ _ => ⟨rfl, e28, (by decide : 6 + 0 ≤ _), (by decide : 14 + 0 ≤ _)⟩)
    dsimp only [Pt.U, Pt.locs, Pt.cells, Pt.slots] at X29 l29 y29 z29 st29 hQ29
    subst l29 y29 z29
    obtain ⟨rfl, N29q, e29⟩ := hQ29
    have N29 := Fr.app N28 N29q
    refine own_t (T' := T29) (g' := (mkF m 220 #[.val (.int sel), .val (.int p0), .val (.int p1), .val (.int p2), .val (.int (1 : Int32)), .val (.ref b14), .val (.ref b15), .val (.ref pp)] [(.int (if ([c0] = [c0]) then (1 : Int32) else 0))])) st29 ?_
    refine own_w (T' := T29) (g' := (mkF m 225 #[.val (.int sel), .val (.int p0), .val (.int p1), .val (.int p2), .val (.int (1 : Int32)), .val (.ref b14), .val (.ref b15), .val (.ref pp)] [])) (fun _ k_ => XS.ifYes X29.here hx rfl (pc0 := 220) (pc' := 225) rfl (hb hby at_220) rfl ((if0 _ _).trans (feq (fun q => (own_ite0.mp q) (show (([c0] = [c0])) from rfl))).2) (by decide) (by decide) k_) ?_
    refine own_w (T' := T29) (g' := (mkF m 227 #[.val (.int sel), .val (.int p0), .val (.int p1), .val (.int p2), .val (.int (1 : Int32)), .val (.ref b14), .val (.ref b15), .val (.ref pp)] [(.ref pp)])) (fun _ k_ => XS.aload X29.here hx rfl (hb hby at_225) rfl rfl k_) ?_
    refine own_w (T' := T29) (g' := (mkF m 229 #[.val (.int sel), .val (.int p0), .val (.int p1), .val (.int p2), .val (.int (1 : Int32)), .val (.ref b14), .val (.ref b15), .val (.ref pp)] [(.ref b14), (.ref pp)])) (fun _ k_ => XS.aload X29.here hx rfl (hb hby at_227) rfl rfl k_) ?_
    obtain ⟨cq30, kq30, q30a, q30b, q30c⟩ := isOf hZ e29 E_27
    obtain ⟨_, _, ⟨T30, L30, k30, n30⟩, -, X30, ⟨Lc30, hQ30, l30, y30, z30⟩, st30⟩ := X29.virtualBack hx (y := (⟨"com/example/adjacency/adjacency/wire/PrefixedBytes", "isSameAs", "([B)Z"⟩ : MethodName)) (z := (⟨"com/example/adjacency/adjacency/wire/PrefixedBytes", "isSameAs", "([B)Z"⟩ : MethodName)) hown (mvT hZ (hw _ (List.mem_of_getElem? (i := 53) rfl))) (mvT hZ (hw _ (List.mem_of_getElem? (i := 54) rfl))) (notFace_of_selects (args := #[]) (mvT hZ (hw _ (List.mem_of_getElem? (i := 56) rfl)))) (mvT hZ (hw _ (List.mem_of_getElem? (i := 56) rfl))) (mvT hZ (hw _ (List.mem_of_getElem? (i := 55) rfl))) (by decide) (backOf (W := 0) (own_rm9_1 l Z a0 hw [] pp b14 ar c0 ((c0 ^^^ (-1 : Int32)).toInt8.toInt32) h27 n0 Z27 F_27_0 F_27_1 F_27_2 VA_27 Vg_27) hZ (hw _ (List.mem_of_getElem? (i := 57) rfl)) (hw _ (List.mem_of_getElem? (i := 3) rfl)) (by decide) (by decide)) q30a q30c (g := (mkF m 229 #[.val (.int sel), .val (.int p0), .val (.int p1), .val (.int p2), .val (.int (1 : Int32)), .val (.ref b14), .val (.ref b15), .val (.ref pp)] [(.ref b14), (.ref pp)])) rfl (by rw [hml]; rfl) (Steps.refl _) (argsL := [(.ref b14)]) (rest := []) (lenOf own_pd9 rfl) rfl (by show 2 * 0 + _ ≤ _; exact Nat.le_of_eq rfl) (hb hby at_229) (fun _ _ => ⟨rfl, e29, (by decide : 6 + 0 ≤ _), (by decide : 14 + 0 ≤ _)⟩)
    dsimp only [Pt.U, Pt.locs, Pt.cells, Pt.slots] at X30 l30 y30 z30 st30 hQ30
    subst l30 y30 z30
    obtain ⟨rfl, N30q, e30⟩ := hQ30
    have N30 := Fr.app N29 N30q
    refine own_t (T' := T30) (g' := (mkF m 232 #[.val (.int sel), .val (.int p0), .val (.int p1), .val (.int p2), .val (.int (1 : Int32)), .val (.ref b14), .val (.ref b15), .val (.ref pp)] [(.int (if ([c0] = [(c0 ^^^ (-1 : Int32)).toInt8.toInt32]) then (1 : Int32) else 0))])) st30 ?_
    refine own_w (T' := T30) (g' := (mkF m 234 #[.val (.int sel), .val (.int p0), .val (.int p1), .val (.int p2), .val (.int (1 : Int32)), .val (.ref b14), .val (.ref b15), .val (.ref pp)] [(.int (1 : Int32)), (.int (if ([c0] = [(c0 ^^^ (-1 : Int32)).toInt8.toInt32]) then (1 : Int32) else 0))])) (fun _ k_ => XS.iload X30.here hx rfl (hb hby at_232) rfl k_) ?_
    refine own_w (T' := T30) (g' := (mkF m 241 #[.val (.int sel), .val (.int p0), .val (.int p1), .val (.int p2), .val (.int (1 : Int32)), .val (.ref b14), .val (.ref b15), .val (.ref pp)] [(.int (if ([c0] = [(c0 ^^^ (-1 : Int32)).toInt8.toInt32]) then (1 : Int32) else 0))])) (fun _ k_ => XS.ifYes X30.here hx rfl (pc0 := 234) (pc' := 241) rfl (hb hby at_234) rfl ((if0 _ _).trans (feq (by decide)).2) (by decide) (by decide) k_) ?_
    refine own_w (T' := T30) (g' := (mkF m 242 #[.val (.int sel), .val (.int p0), .val (.int p1), .val (.int p2), .val (.int (1 : Int32)), .val (.ref b14), .val (.ref b15), .val (.ref pp)] [(.int (0 : Int32)), (.int (if ([c0] = [(c0 ^^^ (-1 : Int32)).toInt8.toInt32]) then (1 : Int32) else 0))])) (fun _ k_ => XS.iconst X30.here hx rfl (hb hby at_241) k_) ?_
    refine own_w (T' := T30) (g' := (mkF m 245 #[.val (.int sel), .val (.int p0), .val (.int p1), .val (.int p2), .val (.int (1 : Int32)), .val (.ref b14), .val (.ref b15), .val (.ref pp)] [])) (fun _ k_ => XS.icmpNo X30.here hx rfl (hb hby at_242) rfl (teq (if_neg fun q => own_not c0 (List.cons.inj q).1)).2 k_) ?_
    refine own_w (T' := T30) (g' := (mkF m 246 #[.val (.int sel), .val (.int p0), .val (.int p1), .val (.int p2), .val (.int (1 : Int32)), .val (.ref b14), .val (.ref b15), .val (.ref pp)] [(.int (1 : Int32))])) (fun _ k_ => XS.iconst X30.here hx rfl (hb hby at_245) k_) ?_
    refine own_w (T' := T30) (g' := (mkF m 250 #[.val (.int sel), .val (.int p0), .val (.int p1), .val (.int p2), .val (.int (1 : Int32)), .val (.ref b14), .val (.ref b15), .val (.ref pp)] [(.int (1 : Int32))])) (fun _ k_ => XS.goto X30.here hx rfl (pc0 := 246) (pc' := 250) rfl (hb hby at_246) (by decide) (by decide) k_) ?_
    obtain ⟨fs, hr, hrun, hended, hW, hsame⟩ := X30.leave (v := some (.int (1 : Int32))) (fun h => by rw [Bd.returns] at h; cases h)
    exact ⟨_, _, retOut X30 hx Bd.returns rfl (Or.inl ⟨rfl, Or.inr (Or.inl rfl), _, rfl⟩) (hb hby at_250) hr, hrun, hended, _, _, rfl, (by show own_Q0 Z sel p0 p1 p2 h0 n0 _ T30.heap _; rw [e30]; exact ⟨rfl, N30⟩), ⟨_, rfl⟩, hW, hsame.mono (by decide) (by decide)⟩
  · refine own_w (T' := s₁) (g' := (mkF m 7 #[.val (.int sel), .val (.int p0), .val (.int p1), .val (.int p2), .val (.int (2 : Int32)), .unset, .unset, .unset] [(.int (2 : Int32))])) (fun _ k_ => XS.iload X0.here hx rfl (hb hby at_5) rfl k_) ?_
    obtain ⟨T31, h31, k31, X31, e31, E31, A31, Xa31, st31⟩ := newPE X0 hx hZ (hw _ (List.mem_of_getElem? (i := 0) rfl)) e0 (g := (mkF m 7 #[.val (.int sel), .val (.int p0), .val (.int p1), .val (.int p2), .val (.int (2 : Int32)), .unset, .unset, .unset] [(.int (2 : Int32))])) rfl (hb hby at_7) rfl (by decide) (cap := 2) (by decide) (by decide) (by decide) (by decide) (ad := "[B") (by decide)
    obtain ⟨b31, gq31⟩ : ∃ z, z = h0.size := ⟨_, rfl⟩
    rw [← gq31] at A31 Xa31 st31
    have V_b31 := own_Ar_new A31 rfl (k := 2) rfl
    have X_b31 := Xa31
    have g_b31 : n0 ≤ b31 := Nat.le_trans Z0 (Nat.le_of_eq gq31.symm)
    have Z31 : n0 ≤ h31.size := Nat.le_trans Z0 E31.1
    refine own_w (T' := T31) (g' := (mkF m 9 #[.val (.int sel), .val (.int p0), .val (.int p1), .val (.int p2), .val (.int (2 : Int32)), .unset, .unset, .unset] [(.ref b31)])) st31 ?_
    refine own_w (T' := T31) (g' := (mkF m 11 #[.val (.int sel), .val (.int p0), .val (.int p1), .val (.int p2), .val (.int (2 : Int32)), .val (.ref b31), .unset, .unset] [])) (fun _ k_ => XS.astore X31.here hx rfl (hb hby at_9) rfl rfl (l' := #[.val (.int sel), .val (.int p0), .val (.int p1), .val (.int p2), .val (.int (2 : Int32)), .val (.ref b31), .unset, .unset]) rfl k_) ?_
    refine own_w (T' := T31) (g' := (mkF m 13 #[.val (.int sel), .val (.int p0), .val (.int p1), .val (.int p2), .val (.int (2 : Int32)), .val (.ref b31), .unset, .unset] [(.int (2 : Int32))])) (fun _ k_ => XS.iload X31.here hx rfl (hb hby at_11) rfl k_) ?_
    obtain ⟨T32, h32, k32, X32, e32, E32, A32, Xa32, st32⟩ := newPE X31 hx hZ (hw _ (List.mem_of_getElem? (i := 0) rfl)) e31 (g := (mkF m 13 #[.val (.int sel), .val (.int p0), .val (.int p1), .val (.int p2), .val (.int (2 : Int32)), .val (.ref b31), .unset, .unset] [(.int (2 : Int32))])) rfl (hb hby at_13) rfl (by decide) (cap := 2) (by decide) (by decide) (by decide) (by decide) (ad := "[B") (by decide)
    obtain ⟨b32, gq32⟩ : ∃ z, z = h31.size := ⟨_, rfl⟩
    rw [← gq32] at A32 Xa32 st32
    have V_b32 := own_Ar_new A32 rfl (k := 2) rfl
    have X_b32 := Xa32
    have g_b32 : n0 ≤ b32 := Nat.le_trans Z31 (Nat.le_of_eq gq32.symm)
    have Z32 : n0 ≤ h32.size := Nat.le_trans Z31 E32.1
    refine own_w (T' := T32) (g' := (mkF m 15 #[.val (.int sel), .val (.int p0), .val (.int p1), .val (.int p2), .val (.int (2 : Int32)), .val (.ref b31), .unset, .unset] [(.ref b32)])) st32 ?_
    have ne : b31 ≠ b32 := Nat.ne_of_lt (Nat.lt_of_lt_of_le (own_Ar_lt V_b31) (Nat.le_of_eq gq32.symm))
    have Va := own_Ar_ext V_b31 E32
    have Xa := X_b31.ext E32
    have Vb := V_b32
    have Xb := X_b32
    refine own_w (T' := T32) (g' := (mkF m 17 #[.val (.int sel), .val (.int p0), .val (.int p1), .val (.int p2), .val (.int (2 : Int32)), .val (.ref b31), .val (.ref b32), .unset] [])) (fun _ k_ => XS.astore X32.here hx rfl (hb hby at_15) rfl rfl (l' := #[.val (.int sel), .val (.int p0), .val (.int p1), .val (.int p2), .val (.int (2 : Int32)), .val (.ref b31), .val (.ref b32), .unset]) rfl k_) ?_
    refine own_w (T' := T32) (g' := (mkF m 19 #[.val (.int sel), .val (.int p0), .val (.int p1), .val (.int p2), .val (.int (2 : Int32)), .val (.ref b31), .val (.ref b32), .unset] [(.int (2 : Int32))])) (fun _ k_ => XS.iload X32.here hx rfl (hb hby at_17) rfl k_) ?_
    refine own_w (T' := T32) (g' := (mkF m 22 #[.val (.int sel), .val (.int p0), .val (.int p1), .val (.int p2), .val (.int (2 : Int32)), .val (.ref b31), .val (.ref b32), .unset] [])) (fun _ k_ => XS.ifNo X32.here hx rfl (hb hby at_19) rfl ((if0 _ _).trans (tlt (by decide)).2.2.2) k_) ?_
    refine own_w (T' := T32) (g' := (mkF m 24 #[.val (.int sel), .val (.int p0), .val (.int p1), .val (.int p2), .val (.int (2 : Int32)), .val (.ref b31), .val (.ref b32), .unset] [(.ref b31)])) (fun _ k_ => XS.aload X32.here hx rfl (hb hby at_22) rfl rfl k_) ?_
    refine own_w (T' := T32) (g' := (mkF m 25 #[.val (.int sel), .val (.int p0), .val (.int p1), .val (.int p2), .val (.int (2 : Int32)), .val (.ref b31), .val (.ref b32), .unset] [(.int (0 : Int32)), (.ref b31)])) (fun _ k_ => XS.iconst X32.here hx rfl (hb hby at_24) k_) ?_
    refine own_w (T' := T32) (g' := (mkF m 26 #[.val (.int sel), .val (.int p0), .val (.int p1), .val (.int p2), .val (.int (2 : Int32)), .val (.ref b31), .val (.ref b32), .unset] [(.int p0), (.int (0 : Int32)), (.ref b31)])) (fun _ k_ => XS.iloadN X32.here hx rfl (hb hby at_25) rfl k_) ?_
    refine own_w (T' := T32) (g' := (mkF m 27 #[.val (.int sel), .val (.int p0), .val (.int p1), .val (.int p2), .val (.int (2 : Int32)), .val (.ref b31), .val (.ref b32), .unset] [(.int (p0.toInt8.toInt32)), (.int (0 : Int32)), (.ref b31)])) (fun _ k_ => XS.i2b X32.here hx rfl (hb hby at_26) rfl k_) ?_
    obtain ⟨cl33, Ar33, hs33⟩ := id Va
    obtain ⟨T33, h33, X33, e33, W33, st33⟩ := stB X32 hx hZ e32 Ar33 (j := (0 : Int32)) (own_Ar_in (i := 0) hs33 (by decide) (by simp)) (g := (mkF m 27 #[.val (.int sel), .val (.int p0), .val (.int p1), .val (.int p2), .val (.int (2 : Int32)), .val (.ref b31), .val (.ref b32), .unset] [(.int (p0.toInt8.toInt32)), (.int (0 : Int32)), (.ref b31)])) rfl rfl (hb hby at_27)
    have V33 := own_Ar_set (i := 0) Va W33 (by decide) (own_n8 _)
    have N33 := Fr.snoc X33 N0 g_b31
    have Z33 : n0 ≤ h33.size := Nat.le_trans Z32 (Keep.of_wr W33).1
    refine own_w (T' := T33) (g' := (mkF m 28 #[.val (.int sel), .val (.int p0), .val (.int p1), .val (.int p2), .val (.int (2 : Int32)), .val (.ref b31), .val (.ref b32), .unset] [])) st33 ?_
    have B33 := own_Ar_other Vb W33 ne.symm
    have Xa33 := Xa.wr W33
    have Xb33 := Xb.wr W33
    refine own_w (T' := T33) (g' := (mkF m 30 #[.val (.int sel), .val (.int p0), .val (.int p1), .val (.int p2), .val (.int (2 : Int32)), .val (.ref b31), .val (.ref b32), .unset] [(.ref b32)])) (fun _ k_ => XS.aload X33.here hx rfl (hb hby at_28) rfl rfl k_) ?_
    refine own_w (T' := T33) (g' := (mkF m 31 #[.val (.int sel), .val (.int p0), .val (.int p1), .val (.int p2), .val (.int (2 : Int32)), .val (.ref b31), .val (.ref b32), .unset] [(.int (0 : Int32)), (.ref b32)])) (fun _ k_ => XS.iconst X33.here hx rfl (hb hby at_30) k_) ?_
    refine own_w (T' := T33) (g' := (mkF m 32 #[.val (.int sel), .val (.int p0), .val (.int p1), .val (.int p2), .val (.int (2 : Int32)), .val (.ref b31), .val (.ref b32), .unset] [(.int p0), (.int (0 : Int32)), (.ref b32)])) (fun _ k_ => XS.iloadN X33.here hx rfl (hb hby at_31) rfl k_) ?_
    refine own_w (T' := T33) (g' := (mkF m 33 #[.val (.int sel), .val (.int p0), .val (.int p1), .val (.int p2), .val (.int (2 : Int32)), .val (.ref b31), .val (.ref b32), .unset] [(.int (p0.toInt8.toInt32)), (.int (0 : Int32)), (.ref b32)])) (fun _ k_ => XS.i2b X33.here hx rfl (hb hby at_32) rfl k_) ?_
    obtain ⟨cl34, Ar34, hs34⟩ := id B33
    obtain ⟨T34, h34, X34, e34, W34, st34⟩ := stB X33 hx hZ e33 Ar34 (j := (0 : Int32)) (own_Ar_in (i := 0) hs34 (by decide) (by simp)) (g := (mkF m 33 #[.val (.int sel), .val (.int p0), .val (.int p1), .val (.int p2), .val (.int (2 : Int32)), .val (.ref b31), .val (.ref b32), .unset] [(.int (p0.toInt8.toInt32)), (.int (0 : Int32)), (.ref b32)])) rfl rfl (hb hby at_33)
    have V34 := own_Ar_set (i := 0) B33 W34 (by decide) (own_n8 _)
    have N34 := Fr.snoc X34 N33 g_b32
    have Z34 : n0 ≤ h34.size := Nat.le_trans Z33 (Keep.of_wr W34).1
    refine own_w (T' := T34) (g' := (mkF m 34 #[.val (.int sel), .val (.int p0), .val (.int p1), .val (.int p2), .val (.int (2 : Int32)), .val (.ref b31), .val (.ref b32), .unset] [])) st34 ?_
    have B34 := own_Ar_other V33 W34 ne
    have Xa34 := Xa33.wr W34
    have Xb34 := Xb33.wr W34
    refine own_w (T' := T34) (g' := (mkF m 36 #[.val (.int sel), .val (.int p0), .val (.int p1), .val (.int p2), .val (.int (2 : Int32)), .val (.ref b31), .val (.ref b32), .unset] [(.int (2 : Int32))])) (fun _ k_ => XS.iload X34.here hx rfl (hb hby at_34) rfl k_) ?_
    refine own_w (T' := T34) (g' := (mkF m 37 #[.val (.int sel), .val (.int p0), .val (.int p1), .val (.int p2), .val (.int (2 : Int32)), .val (.ref b31), .val (.ref b32), .unset] [(.int (1 : Int32)), (.int (2 : Int32))])) (fun _ k_ => XS.iconst X34.here hx rfl (hb hby at_36) k_) ?_
    refine own_w (T' := T34) (g' := (mkF m 40 #[.val (.int sel), .val (.int p0), .val (.int p1), .val (.int p2), .val (.int (2 : Int32)), .val (.ref b31), .val (.ref b32), .unset] [])) (fun _ k_ => XS.icmpNo X34.here hx rfl (hb hby at_37) rfl (tlt (by decide)).2.2.2 k_) ?_
    refine own_w (T' := T34) (g' := (mkF m 42 #[.val (.int sel), .val (.int p0), .val (.int p1), .val (.int p2), .val (.int (2 : Int32)), .val (.ref b31), .val (.ref b32), .unset] [(.ref b31)])) (fun _ k_ => XS.aload X34.here hx rfl (hb hby at_40) rfl rfl k_) ?_
    refine own_w (T' := T34) (g' := (mkF m 43 #[.val (.int sel), .val (.int p0), .val (.int p1), .val (.int p2), .val (.int (2 : Int32)), .val (.ref b31), .val (.ref b32), .unset] [(.int (1 : Int32)), (.ref b31)])) (fun _ k_ => XS.iconst X34.here hx rfl (hb hby at_42) k_) ?_
    refine own_w (T' := T34) (g' := (mkF m 44 #[.val (.int sel), .val (.int p0), .val (.int p1), .val (.int p2), .val (.int (2 : Int32)), .val (.ref b31), .val (.ref b32), .unset] [(.int p1), (.int (1 : Int32)), (.ref b31)])) (fun _ k_ => XS.iloadN X34.here hx rfl (hb hby at_43) rfl k_) ?_
    refine own_w (T' := T34) (g' := (mkF m 45 #[.val (.int sel), .val (.int p0), .val (.int p1), .val (.int p2), .val (.int (2 : Int32)), .val (.ref b31), .val (.ref b32), .unset] [(.int (p1.toInt8.toInt32)), (.int (1 : Int32)), (.ref b31)])) (fun _ k_ => XS.i2b X34.here hx rfl (hb hby at_44) rfl k_) ?_
    obtain ⟨cl35, Ar35, hs35⟩ := id B34
    obtain ⟨T35, h35, X35, e35, W35, st35⟩ := stB X34 hx hZ e34 Ar35 (j := (1 : Int32)) (own_Ar_in (i := 1) hs35 (by decide) (by simp)) (g := (mkF m 45 #[.val (.int sel), .val (.int p0), .val (.int p1), .val (.int p2), .val (.int (2 : Int32)), .val (.ref b31), .val (.ref b32), .unset] [(.int (p1.toInt8.toInt32)), (.int (1 : Int32)), (.ref b31)])) rfl rfl (hb hby at_45)
    have V35 := own_Ar_set (i := 1) B34 W35 (by decide) (own_n8 _)
    have N35 := Fr.snoc X35 N34 g_b31
    have Z35 : n0 ≤ h35.size := Nat.le_trans Z34 (Keep.of_wr W35).1
    refine own_w (T' := T35) (g' := (mkF m 46 #[.val (.int sel), .val (.int p0), .val (.int p1), .val (.int p2), .val (.int (2 : Int32)), .val (.ref b31), .val (.ref b32), .unset] [])) st35 ?_
    have B35 := own_Ar_other V34 W35 ne.symm
    have Xa35 := Xa34.wr W35
    have Xb35 := Xb34.wr W35
    refine own_w (T' := T35) (g' := (mkF m 48 #[.val (.int sel), .val (.int p0), .val (.int p1), .val (.int p2), .val (.int (2 : Int32)), .val (.ref b31), .val (.ref b32), .unset] [(.ref b32)])) (fun _ k_ => XS.aload X35.here hx rfl (hb hby at_46) rfl rfl k_) ?_
    refine own_w (T' := T35) (g' := (mkF m 49 #[.val (.int sel), .val (.int p0), .val (.int p1), .val (.int p2), .val (.int (2 : Int32)), .val (.ref b31), .val (.ref b32), .unset] [(.int (1 : Int32)), (.ref b32)])) (fun _ k_ => XS.iconst X35.here hx rfl (hb hby at_48) k_) ?_
    refine own_w (T' := T35) (g' := (mkF m 50 #[.val (.int sel), .val (.int p0), .val (.int p1), .val (.int p2), .val (.int (2 : Int32)), .val (.ref b31), .val (.ref b32), .unset] [(.int p1), (.int (1 : Int32)), (.ref b32)])) (fun _ k_ => XS.iloadN X35.here hx rfl (hb hby at_49) rfl k_) ?_
    refine own_w (T' := T35) (g' := (mkF m 51 #[.val (.int sel), .val (.int p0), .val (.int p1), .val (.int p2), .val (.int (2 : Int32)), .val (.ref b31), .val (.ref b32), .unset] [(.int (p1.toInt8.toInt32)), (.int (1 : Int32)), (.ref b32)])) (fun _ k_ => XS.i2b X35.here hx rfl (hb hby at_50) rfl k_) ?_
    obtain ⟨cl36, Ar36, hs36⟩ := id B35
    obtain ⟨T36, h36, X36, e36, W36, st36⟩ := stB X35 hx hZ e35 Ar36 (j := (1 : Int32)) (own_Ar_in (i := 1) hs36 (by decide) (by simp)) (g := (mkF m 51 #[.val (.int sel), .val (.int p0), .val (.int p1), .val (.int p2), .val (.int (2 : Int32)), .val (.ref b31), .val (.ref b32), .unset] [(.int (p1.toInt8.toInt32)), (.int (1 : Int32)), (.ref b32)])) rfl rfl (hb hby at_51)
    have V36 := own_Ar_set (i := 1) B35 W36 (by decide) (own_n8 _)
    have N36 := Fr.snoc X36 N35 g_b32
    have Z36 : n0 ≤ h36.size := Nat.le_trans Z35 (Keep.of_wr W36).1
    refine own_w (T' := T36) (g' := (mkF m 52 #[.val (.int sel), .val (.int p0), .val (.int p1), .val (.int p2), .val (.int (2 : Int32)), .val (.ref b31), .val (.ref b32), .unset] [])) st36 ?_
    have B36 := own_Ar_other V35 W36 ne
    have Xa36 := Xa35.wr W36
    have Xb36 := Xb35.wr W36
    refine own_w (T' := T36) (g' := (mkF m 54 #[.val (.int sel), .val (.int p0), .val (.int p1), .val (.int p2), .val (.int (2 : Int32)), .val (.ref b31), .val (.ref b32), .unset] [(.int (2 : Int32))])) (fun _ k_ => XS.iload X36.here hx rfl (hb hby at_52) rfl k_) ?_
    refine own_w (T' := T36) (g' := (mkF m 55 #[.val (.int sel), .val (.int p0), .val (.int p1), .val (.int p2), .val (.int (2 : Int32)), .val (.ref b31), .val (.ref b32), .unset] [(.int (2 : Int32)), (.int (2 : Int32))])) (fun _ k_ => XS.iconst X36.here hx rfl (hb hby at_54) k_) ?_
    refine own_w (T' := T36) (g' := (mkF m 70 #[.val (.int sel), .val (.int p0), .val (.int p1), .val (.int p2), .val (.int (2 : Int32)), .val (.ref b31), .val (.ref b32), .unset] [])) (fun _ k_ => XS.icmpYes X36.here hx rfl (pc0 := 55) (pc' := 70) rfl (hb hby at_55) rfl (flt (by decide)).2.2.2 (by decide) (by decide) k_) ?_
    refine own_w (T' := T36) (g' := (mkF m 72 #[.val (.int sel), .val (.int p0), .val (.int p1), .val (.int p2), .val (.int (2 : Int32)), .val (.ref b31), .val (.ref b32), .unset] [(.ref b31)])) (fun _ k_ => XS.aload X36.here hx rfl (hb hby at_70) rfl rfl k_) ?_
    have fc0 := own_f8 p0
    generalize hc0_ : p0.toInt8.toInt32 = c0 at *
    have fc1 := own_f8 p1
    generalize hc1_ : p1.toInt8.toInt32 = c1 at *
    have Vg : own_Ar Z h36 b31 .byte [c0, c1] := B36
    have Ve : own_Ar Z h36 b32 .byte [c0, c1] := V36
    have hf : ∀ x ∈ [c0, c1], fits .byte (.int x) = true := by simp [fc0, fc1]
    obtain ⟨_, _, ⟨T37, L37, k37, n37⟩, -, X37, ⟨Lc37, hQ37, l37, y37, z37⟩, st37⟩ := Jvm.LawKit.callS X36 hx (y := (⟨"com/example/adjacency/adjacency/wire/PrefixedBytes", "copyOf", "([B)Lcom/example/adjacency/adjacency/wire/PrefixedBytes;"⟩ : MethodName)) hown (mvT hZ (hw _ (List.mem_of_getElem? (i := 1) rfl))) (mvT hZ (hw _ (List.mem_of_getElem? (i := 2) rfl))) (mvT hZ (hw _ (List.mem_of_getElem? (i := 3) rfl))) (mvT hZ (hw _ (List.mem_of_getElem? (i := 4) rfl))) (by decide) (backOf (W := 0) (own_rm1_2 l Z a0 hw [] b31 c0 c1 h36 n0 Z36 Vg Xa36 hf) hZ (hw _ (List.mem_of_getElem? (i := 4) rfl)) (hw _ (List.mem_of_getElem? (i := 3) rfl)) (by decide) (by decide)) (g := (mkF m 72 #[.val (.int sel), .val (.int p0), .val (.int p1), .val (.int p2), .val (.int (2 : Int32)), .val (.ref b31), .val (.ref b32), .unset] [(.ref b31)])) rfl (by rw [hml]; rfl) (argsL := [(.ref b31)]) (rest := []) (lenOf own_pd5 rfl) rfl (by show 2 * 0 + _ ≤ _; exact Nat.le_of_eq rfl) (hb hby at_72) (fun _ _ => ⟨rfl, e36, (by decide : 2 + 2 ≤ _), (by decide : 4 + 6 ≤ _)⟩)
    dsimp only [Pt.U, Pt.locs, Pt.cells, Pt.slots] at X37 l37 y37 z37 st37 hQ37
    subst l37 y37 z37
    obtain ⟨h37, e37⟩ : ∃ h, T37.heap = h := ⟨_, rfl⟩
    rw [e37] at hQ37
    obtain ⟨rfl, N37q, K37, EP37, ar, lt37, P370, P371, P372, VA37, XA37⟩ := hQ37
    have N37 := Fr.app N36 N37q
    refine own_w (T' := T37) (g' := (mkF m 75 #[.val (.int sel), .val (.int p0), .val (.int p1), .val (.int p2), .val (.int (2 : Int32)), .val (.ref b31), .val (.ref b32), .unset] [(.ref h36.size)])) st37 ?_
    have Z37 : n0 ≤ h37.size := Nat.le_trans Z36 K37.1
    generalize hp : h36.size = pp at *
    have Vg37 := own_Ar_keep Vg K37 (by simp)
    have Ve37 := own_Ar_keep Ve K37 (by simp)
    have na : ar ≠ b31 := fun q => Nat.lt_irrefl _ (Nat.lt_trans (hp ▸ own_Ar_lt Vg) (q ▸ lt37))
    have np : pp ≠ b31 := fun q => Nat.lt_irrefl _ (q ▸ hp ▸ own_Ar_lt Vg)
    refine own_w (T' := T37) (g' := (mkF m 77 #[.val (.int sel), .val (.int p0), .val (.int p1), .val (.int p2), .val (.int (2 : Int32)), .val (.ref b31), .val (.ref b32), .val (.ref pp)] [])) (fun _ k_ => XS.astore X37.here hx rfl (hb hby at_75) rfl rfl (l' := #[.val (.int sel), .val (.int p0), .val (.int p1), .val (.int p2), .val (.int (2 : Int32)), .val (.ref b31), .val (.ref b32), .val (.ref pp)]) rfl k_) ?_
    refine own_w (T' := T37) (g' := (mkF m 79 #[.val (.int sel), .val (.int p0), .val (.int p1), .val (.int p2), .val (.int (2 : Int32)), .val (.ref b31), .val (.ref b32), .val (.ref pp)] [(.ref b31)])) (fun _ k_ => XS.aload X37.here hx rfl (hb hby at_77) rfl rfl k_) ?_
    refine own_w (T' := T37) (g' := (mkF m 81 #[.val (.int sel), .val (.int p0), .val (.int p1), .val (.int p2), .val (.int (2 : Int32)), .val (.ref b31), .val (.ref b32), .val (.ref pp)] [(.ref b32), (.ref b31)])) (fun _ k_ => XS.aload X37.here hx rfl (hb hby at_79) rfl rfl k_) ?_
    refine own_w (T' := T37) (g' := (mkF m 83 #[.val (.int sel), .val (.int p0), .val (.int p1), .val (.int p2), .val (.int (2 : Int32)), .val (.ref b31), .val (.ref b32), .val (.ref pp)] [(.int (2 : Int32)), (.ref b32), (.ref b31)])) (fun _ k_ => XS.iload X37.here hx rfl (hb hby at_81) rfl k_) ?_
    obtain ⟨_, _, ⟨T38, L38, k38, n38⟩, -, X38, ⟨Lc38, hQ38, l38, y38, z38⟩, st38⟩ := Jvm.LawKit.callS X37 hx (y := (⟨"com/example/adjacency/adjacency/wire/PrefixedBytesCopyOfPinLaw", "same", "([B[BI)Z"⟩ : MethodName)) hown (mvT hZ (hw _ (List.mem_of_getElem? (i := 28) rfl))) (mvT hZ (hw _ (List.mem_of_getElem? (i := 29) rfl))) (mvT hZ (hw _ (List.mem_of_getElem? (i := 30) rfl))) (mvT hZ (hw _ (List.mem_of_getElem? (i := 31) rfl))) (by decide) (backOf (W := 0) (own_rm4_2 l Z a0 hw [] b31 b32 c0 c1 c0 c1 h37 n0 Z37 Vg37 Ve37) hZ (hw _ (List.mem_of_getElem? (i := 31) rfl)) (hw _ (List.mem_of_getElem? (i := 30) rfl)) (by decide) (by decide)) (g := (mkF m 83 #[.val (.int sel), .val (.int p0), .val (.int p1), .val (.int p2), .val (.int (2 : Int32)), .val (.ref b31), .val (.ref b32), .val (.ref pp)] [(.int (2 : Int32)), (.ref b32), (.ref b31)])) rfl (by rw [hml]; rfl) (argsL := [(.ref b31), (.ref b32), (.int (2 : Int32))]) (rest := []) (lenOf own_pd6 rfl) rfl (by show 2 * 0 + _ ≤ _; exact Nat.le_of_eq rfl) (hb hby at_83) (fun _ _ => ⟨rfl, e37, (by decide : 4 + 0 ≤ _), (by decide : 10 + 0 ≤ _)⟩)
    dsimp only [Pt.U, Pt.locs, Pt.cells, Pt.slots] at X38 l38 y38 z38 st38 hQ38
    subst l38 y38 z38
    obtain ⟨rfl, N38q, e38⟩ := hQ38
    have N38 := Fr.app N37 N38q
    refine own_w (T' := T38) (g' := (mkF m 86 #[.val (.int sel), .val (.int p0), .val (.int p1), .val (.int p2), .val (.int (2 : Int32)), .val (.ref b31), .val (.ref b32), .val (.ref pp)] [(.int (if ([c0, c1] = [c0, c1]) then (1 : Int32) else 0))])) st38 ?_
    refine own_w (T' := T38) (g' := (mkF m 91 #[.val (.int sel), .val (.int p0), .val (.int p1), .val (.int p2), .val (.int (2 : Int32)), .val (.ref b31), .val (.ref b32), .val (.ref pp)] [])) (fun _ k_ => XS.ifYes X38.here hx rfl (pc0 := 86) (pc' := 91) rfl (hb hby at_86) rfl ((if0 _ _).trans (feq (fun q => (own_ite0.mp q) (show (([c0, c1] = [c0, c1])) from rfl))).2) (by decide) (by decide) k_) ?_
    refine own_w (T' := T38) (g' := (mkF m 93 #[.val (.int sel), .val (.int p0), .val (.int p1), .val (.int p2), .val (.int (2 : Int32)), .val (.ref b31), .val (.ref b32), .val (.ref pp)] [(.ref pp)])) (fun _ k_ => XS.aload X38.here hx rfl (hb hby at_91) rfl rfl k_) ?_
    obtain ⟨cq39, kq39, q39a, q39b, q39c⟩ := isOf hZ e38 EP37
    obtain ⟨_, _, ⟨T39, L39, k39, n39⟩, -, X39, ⟨Lc39, hQ39, l39, y39, z39⟩, st39⟩ := X38.virtualBack hx (y := (⟨"com/example/adjacency/adjacency/wire/PrefixedBytes", "length", "()I"⟩ : MethodName)) (z := (⟨"com/example/adjacency/adjacency/wire/PrefixedBytes", "length", "()I"⟩ : MethodName)) hown (mvT hZ (hw _ (List.mem_of_getElem? (i := 32) rfl))) (mvT hZ (hw _ (List.mem_of_getElem? (i := 33) rfl))) (notFace_of_selects (args := #[]) (mvT hZ (hw _ (List.mem_of_getElem? (i := 35) rfl)))) (mvT hZ (hw _ (List.mem_of_getElem? (i := 35) rfl))) (mvT hZ (hw _ (List.mem_of_getElem? (i := 34) rfl))) (by decide) (backOf (W := 0) (own_rm5_2 l Z a0 hw [] pp  h37 n0 Z37 P372) hZ (hw _ (List.mem_of_getElem? (i := 36) rfl)) (hw _ (List.mem_of_getElem? (i := 3) rfl)) (by decide) (by decide)) q39a q39c (g := (mkF m 93 #[.val (.int sel), .val (.int p0), .val (.int p1), .val (.int p2), .val (.int (2 : Int32)), .val (.ref b31), .val (.ref b32), .val (.ref pp)] [(.ref pp)])) rfl (by rw [hml]; rfl) (Steps.refl _) (argsL := []) (rest := []) (lenOf own_pd7 rfl) rfl (by show 2 * 0 + _ ≤ _; exact Nat.le_of_eq rfl) (hb hby at_93) (fun _ _ => ⟨rfl, e38, (by decide : 4 + 0 ≤ _), (by decide : 10 + 0 ≤ _)⟩)
    dsimp only [Pt.U, Pt.locs, Pt.cells, Pt.slots] at X39 l39 y39 z39 st39 hQ39
    subst l39 y39 z39
    obtain ⟨rfl, N39q, e39⟩ := hQ39
    have N39 := Fr.app N38 N39q
    refine own_t (T' := T39) (g' := (mkF m 96 #[.val (.int sel), .val (.int p0), .val (.int p1), .val (.int p2), .val (.int (2 : Int32)), .val (.ref b31), .val (.ref b32), .val (.ref pp)] [(.int (2 : Int32))])) st39 ?_
    refine own_w (T' := T39) (g' := (mkF m 98 #[.val (.int sel), .val (.int p0), .val (.int p1), .val (.int p2), .val (.int (2 : Int32)), .val (.ref b31), .val (.ref b32), .val (.ref pp)] [(.int (2 : Int32)), (.int (2 : Int32))])) (fun _ k_ => XS.iload X39.here hx rfl (hb hby at_96) rfl k_) ?_
    refine own_w (T' := T39) (g' := (mkF m 103 #[.val (.int sel), .val (.int p0), .val (.int p1), .val (.int p2), .val (.int (2 : Int32)), .val (.ref b31), .val (.ref b32), .val (.ref pp)] [])) (fun _ k_ => XS.icmpYes X39.here hx rfl (pc0 := 98) (pc' := 103) rfl (hb hby at_98) rfl (teq rfl).1 (by decide) (by decide) k_) ?_
    refine own_w (T' := T39) (g' := (mkF m 105 #[.val (.int sel), .val (.int p0), .val (.int p1), .val (.int p2), .val (.int (2 : Int32)), .val (.ref b31), .val (.ref b32), .val (.ref pp)] [(.ref pp)])) (fun _ k_ => XS.aload X39.here hx rfl (hb hby at_103) rfl rfl k_) ?_
    obtain ⟨cq40, kq40, q40a, q40b, q40c⟩ := isOf hZ e39 EP37
    obtain ⟨_, _, ⟨T40, L40, k40, n40⟩, -, X40, ⟨Lc40, hQ40, l40, y40, z40⟩, st40⟩ := X39.virtualBack hx (y := (⟨"com/example/adjacency/adjacency/wire/PrefixedBytes", "prefixedLength", "()I"⟩ : MethodName)) (z := (⟨"com/example/adjacency/adjacency/wire/PrefixedBytes", "prefixedLength", "()I"⟩ : MethodName)) hown (mvT hZ (hw _ (List.mem_of_getElem? (i := 37) rfl))) (mvT hZ (hw _ (List.mem_of_getElem? (i := 38) rfl))) (notFace_of_selects (args := #[]) (mvT hZ (hw _ (List.mem_of_getElem? (i := 40) rfl)))) (mvT hZ (hw _ (List.mem_of_getElem? (i := 40) rfl))) (mvT hZ (hw _ (List.mem_of_getElem? (i := 39) rfl))) (by decide) (backOf (W := 0) (own_rm6_2 l Z a0 hw [] pp  h37 n0 Z37 P372) hZ (hw _ (List.mem_of_getElem? (i := 41) rfl)) (hw _ (List.mem_of_getElem? (i := 3) rfl)) (by decide) (by decide)) q40a q40c (g := (mkF m 105 #[.val (.int sel), .val (.int p0), .val (.int p1), .val (.int p2), .val (.int (2 : Int32)), .val (.ref b31), .val (.ref b32), .val (.ref pp)] [(.ref pp)])) rfl (by rw [hml]; rfl) (Steps.refl _) (argsL := []) (rest := []) (lenOf own_pd7 rfl) rfl (by show 2 * 0 + _ ≤ _; exact Nat.le_of_eq rfl) (hb hby at_105) (fun _ _ => ⟨rfl, e39, (by decide : 4 + 0 ≤ _), (by decide : 10 + 0 ≤ _)⟩)
    dsimp only [Pt.U, Pt.locs, Pt.cells, Pt.slots] at X40 l40 y40 z40 st40 hQ40
    subst l40 y40 z40
    obtain ⟨rfl, N40q, e40⟩ := hQ40
    have N40 := Fr.app N39 N40q
    refine own_t (T' := T40) (g' := (mkF m 108 #[.val (.int sel), .val (.int p0), .val (.int p1), .val (.int p2), .val (.int (2 : Int32)), .val (.ref b31), .val (.ref b32), .val (.ref pp)] [(.int (4 : Int32))])) st40 ?_
    refine own_w (T' := T40) (g' := (mkF m 110 #[.val (.int sel), .val (.int p0), .val (.int p1), .val (.int p2), .val (.int (2 : Int32)), .val (.ref b31), .val (.ref b32), .val (.ref pp)] [(.int (2 : Int32)), (.int (4 : Int32))])) (fun _ k_ => XS.iload X40.here hx rfl (hb hby at_108) rfl k_) ?_
    refine own_w (T' := T40) (g' := (mkF m 111 #[.val (.int sel), .val (.int p0), .val (.int p1), .val (.int p2), .val (.int (2 : Int32)), .val (.ref b31), .val (.ref b32), .val (.ref pp)] [(.int (2 : Int32)), (.int (2 : Int32)), (.int (4 : Int32))])) (fun _ k_ => XS.iconst X40.here hx rfl (hb hby at_110) k_) ?_
    refine own_w (T' := T40) (g' := (mkF m 112 #[.val (.int sel), .val (.int p0), .val (.int p1), .val (.int p2), .val (.int (2 : Int32)), .val (.ref b31), .val (.ref b32), .val (.ref pp)] [(.int (4 : Int32)), (.int (4 : Int32))])) (fun _ k_ => XS.iadd X40.here hx rfl (hb hby at_111) rfl k_) ?_
    refine own_w (T' := T40) (g' := (mkF m 117 #[.val (.int sel), .val (.int p0), .val (.int p1), .val (.int p2), .val (.int (2 : Int32)), .val (.ref b31), .val (.ref b32), .val (.ref pp)] [])) (fun _ k_ => XS.icmpYes X40.here hx rfl (pc0 := 112) (pc' := 117) rfl (hb hby at_112) rfl (teq rfl).1 (by decide) (by decide) k_) ?_
    refine own_w (T' := T40) (g' := (mkF m 119 #[.val (.int sel), .val (.int p0), .val (.int p1), .val (.int p2), .val (.int (2 : Int32)), .val (.ref b31), .val (.ref b32), .val (.ref pp)] [(.ref pp)])) (fun _ k_ => XS.aload X40.here hx rfl (hb hby at_117) rfl rfl k_) ?_
    obtain ⟨cq41, kq41, q41a, q41b, q41c⟩ := isOf hZ e40 EP37
    obtain ⟨_, _, ⟨T41, L41, k41, n41⟩, -, X41, ⟨Lc41, hQ41, l41, y41, z41⟩, st41⟩ := X40.virtualBack hx (y := (⟨"com/example/adjacency/adjacency/wire/PrefixedBytes", "toArray", "()[B"⟩ : MethodName)) (z := (⟨"com/example/adjacency/adjacency/wire/PrefixedBytes", "toArray", "()[B"⟩ : MethodName)) hown (mvT hZ (hw _ (List.mem_of_getElem? (i := 42) rfl))) (mvT hZ (hw _ (List.mem_of_getElem? (i := 43) rfl))) (notFace_of_selects (args := #[]) (mvT hZ (hw _ (List.mem_of_getElem? (i := 45) rfl)))) (mvT hZ (hw _ (List.mem_of_getElem? (i := 45) rfl))) (mvT hZ (hw _ (List.mem_of_getElem? (i := 44) rfl))) (by decide) (backOf (W := 0) (own_rm7_2 l Z a0 hw [] pp ar c0 c1 h37 n0 Z37 P370 P371 P372 VA37 XA37 hf) hZ (hw _ (List.mem_of_getElem? (i := 46) rfl)) (hw _ (List.mem_of_getElem? (i := 3) rfl)) (by decide) (by decide)) q41a q41c (g := (mkF m 119 #[.val (.int sel), .val (.int p0), .val (.int p1), .val (.int p2), .val (.int (2 : Int32)), .val (.ref b31), .val (.ref b32), .val (.ref pp)] [(.ref pp)])) rfl (by rw [hml]; rfl) (Steps.refl _) (argsL := []) (rest := []) (lenOf own_pd8 rfl) rfl (by show 2 * 0 + _ ≤ _; exact Nat.le_of_eq rfl) (hb hby at_119) (fun _ _ => ⟨rfl, e40, (by decide : 4 + 1 ≤ _), (by decide : 10 + 3 ≤ _)⟩)
    dsimp only [Pt.U, Pt.locs, Pt.cells, Pt.slots] at X41 l41 y41 z41 st41 hQ41
    subst l41 y41 z41
    obtain ⟨h41, e41⟩ : ∃ h, T41.heap = h := ⟨_, rfl⟩
    rw [e41] at hQ41
    obtain ⟨rfl, N41q, K41, VN41⟩ := hQ41
    have N41 := Fr.app N40 N41q
    refine own_t (T' := T41) (g' := (mkF m 122 #[.val (.int sel), .val (.int p0), .val (.int p1), .val (.int p2), .val (.int (2 : Int32)), .val (.ref b31), .val (.ref b32), .val (.ref pp)] [(.ref h37.size)])) st41 ?_
    have Z41 : n0 ≤ h41.size := Nat.le_trans Z37 K41.1
    have VA_41 := own_Ar_keep VA37 K41 (by simp)
    have Vg_41 := own_Ar_keep Vg37 K41 (by simp)
    have Ve_41 := own_Ar_keep Ve37 K41 (by simp)
    have XA_41 := XA37.keep K41
    have E_41 := EP37.keep K41
    have F_41_0 := P370.keep K41 (by simp)
    have F_41_1 := P371.keep K41 (by simp)
    have F_41_2 := P372.keep K41 (by simp)
    refine own_w (T' := T41) (g' := (mkF m 124 #[.val (.int sel), .val (.int p0), .val (.int p1), .val (.int p2), .val (.int (2 : Int32)), .val (.ref b31), .val (.ref b32), .val (.ref pp)] [(.ref b32), (.ref h37.size)])) (fun _ k_ => XS.aload X41.here hx rfl (hb hby at_122) rfl rfl k_) ?_
    refine own_w (T' := T41) (g' := (mkF m 126 #[.val (.int sel), .val (.int p0), .val (.int p1), .val (.int p2), .val (.int (2 : Int32)), .val (.ref b31), .val (.ref b32), .val (.ref pp)] [(.int (2 : Int32)), (.ref b32), (.ref h37.size)])) (fun _ k_ => XS.iload X41.here hx rfl (hb hby at_124) rfl k_) ?_
    obtain ⟨_, _, ⟨T42, L42, k42, n42⟩, -, X42, ⟨Lc42, hQ42, l42, y42, z42⟩, st42⟩ := Jvm.LawKit.callS X41 hx (y := (⟨"com/example/adjacency/adjacency/wire/PrefixedBytesCopyOfPinLaw", "same", "([B[BI)Z"⟩ : MethodName)) hown (mvT hZ (hw _ (List.mem_of_getElem? (i := 28) rfl))) (mvT hZ (hw _ (List.mem_of_getElem? (i := 29) rfl))) (mvT hZ (hw _ (List.mem_of_getElem? (i := 30) rfl))) (mvT hZ (hw _ (List.mem_of_getElem? (i := 31) rfl))) (by decide) (backOf (W := 0) (own_rm4_2 l Z a0 hw [] h37.size b32 c0 c1 c0 c1 h41 n0 Z41 VN41 Ve_41) hZ (hw _ (List.mem_of_getElem? (i := 31) rfl)) (hw _ (List.mem_of_getElem? (i := 30) rfl)) (by decide) (by decide)) (g := (mkF m 126 #[.val (.int sel), .val (.int p0), .val (.int p1), .val (.int p2), .val (.int (2 : Int32)), .val (.ref b31), .val (.ref b32), .val (.ref pp)] [(.int (2 : Int32)), (.ref b32), (.ref h37.size)])) rfl (by rw [hml]; rfl) (argsL := [(.ref h37.size), (.ref b32), (.int (2 : Int32))]) (rest := []) (lenOf own_pd6 rfl) rfl (by show 2 * 0 + _ ≤ _; exact Nat.le_of_eq rfl) (hb hby at_126) (fun _ _ => ⟨rfl, e41, (by decide : 5 + 0 ≤ _), (by decide : 13 + 0 ≤ _)⟩)
    dsimp only [Pt.U, Pt.locs, Pt.cells, Pt.slots] at X42 l42 y42 z42 st42 hQ42
    subst l42 y42 z42
    obtain ⟨rfl, N42q, e42⟩ := hQ42
    have N42 := Fr.app N41 N42q
    refine own_w (T' := T42) (g' := (mkF m 129 #[.val (.int sel), .val (.int p0), .val (.int p1), .val (.int p2), .val (.int (2 : Int32)), .val (.ref b31), .val (.ref b32), .val (.ref pp)] [(.int (if ([c0, c1] = [c0, c1]) then (1 : Int32) else 0))])) st42 ?_
    refine own_w (T' := T42) (g' := (mkF m 134 #[.val (.int sel), .val (.int p0), .val (.int p1), .val (.int p2), .val (.int (2 : Int32)), .val (.ref b31), .val (.ref b32), .val (.ref pp)] [])) (fun _ k_ => XS.ifYes X42.here hx rfl (pc0 := 129) (pc' := 134) rfl (hb hby at_129) rfl ((if0 _ _).trans (feq (fun q => (own_ite0.mp q) (show (([c0, c1] = [c0, c1])) from rfl))).2) (by decide) (by decide) k_) ?_
    refine own_w (T' := T42) (g' := (mkF m 136 #[.val (.int sel), .val (.int p0), .val (.int p1), .val (.int p2), .val (.int (2 : Int32)), .val (.ref b31), .val (.ref b32), .val (.ref pp)] [(.ref pp)])) (fun _ k_ => XS.aload X42.here hx rfl (hb hby at_134) rfl rfl k_) ?_
    refine own_w (T' := T42) (g' := (mkF m 138 #[.val (.int sel), .val (.int p0), .val (.int p1), .val (.int p2), .val (.int (2 : Int32)), .val (.ref b31), .val (.ref b32), .val (.ref pp)] [(.ref b32), (.ref pp)])) (fun _ k_ => XS.aload X42.here hx rfl (hb hby at_136) rfl rfl k_) ?_
    obtain ⟨cq43, kq43, q43a, q43b, q43c⟩ := isOf hZ e42 E_41
    obtain ⟨_, _, ⟨T43, L43, k43, n43⟩, -, X43, ⟨Lc43, hQ43, l43, y43, z43⟩, st43⟩ := X42.virtualBack hx (y := (⟨"com/example/adjacency/adjacency/wire/PrefixedBytes", "isSameAs", "([B)Z"⟩ : MethodName)) (z := (⟨"com/example/adjacency/adjacency/wire/PrefixedBytes", "isSameAs", "([B)Z"⟩ : MethodName)) hown (mvT hZ (hw _ (List.mem_of_getElem? (i := 53) rfl))) (mvT hZ (hw _ (List.mem_of_getElem? (i := 54) rfl))) (notFace_of_selects (args := #[]) (mvT hZ (hw _ (List.mem_of_getElem? (i := 56) rfl)))) (mvT hZ (hw _ (List.mem_of_getElem? (i := 56) rfl))) (mvT hZ (hw _ (List.mem_of_getElem? (i := 55) rfl))) (by decide) (backOf (W := 0) (own_rm9_2 l Z a0 hw [] pp b32 ar c0 c1 c0 c1 h41 n0 Z41 F_41_0 F_41_1 F_41_2 VA_41 Ve_41) hZ (hw _ (List.mem_of_getElem? (i := 57) rfl)) (hw _ (List.mem_of_getElem? (i := 3) rfl)) (by decide) (by decide)) q43a q43c (g := (mkF m 138 #[.val (.int sel), .val (.int p0), .val (.int p1), .val (.int p2), .val (.int (2 : Int32)), .val (.ref b31), .val (.ref b32), .val (.ref pp)] [(.ref b32), (.ref pp)])) rfl (by rw [hml]; rfl) (Steps.refl _) (argsL := [(.ref b32)]) (rest := []) (lenOf own_pd9 rfl) rfl (by show 2 * 0 + _ ≤ _; exact Nat.le_of_eq rfl) (hb hby at_138) (fun _ _ => ⟨rfl, e42, (by decide : 5 + 0 ≤ _), (by decide : 13 + 0 ≤ _)⟩)
    dsimp only [Pt.U, Pt.locs, Pt.cells, Pt.slots] at X43 l43 y43 z43 st43 hQ43
    subst l43 y43 z43
    obtain ⟨rfl, N43q, e43⟩ := hQ43
    have N43 := Fr.app N42 N43q
    refine own_t (T' := T43) (g' := (mkF m 141 #[.val (.int sel), .val (.int p0), .val (.int p1), .val (.int p2), .val (.int (2 : Int32)), .val (.ref b31), .val (.ref b32), .val (.ref pp)] [(.int (if ([c0, c1] = [c0, c1]) then (1 : Int32) else 0))])) st43 ?_
    refine own_w (T' := T43) (g' := (mkF m 146 #[.val (.int sel), .val (.int p0), .val (.int p1), .val (.int p2), .val (.int (2 : Int32)), .val (.ref b31), .val (.ref b32), .val (.ref pp)] [])) (fun _ k_ => XS.ifYes X43.here hx rfl (pc0 := 141) (pc' := 146) rfl (hb hby at_141) rfl ((if0 _ _).trans (feq (fun q => (own_ite0.mp q) (show (([c0, c1] = [c0, c1])) from rfl))).2) (by decide) (by decide) k_) ?_
    refine own_w (T' := T43) (g' := (mkF m 148 #[.val (.int sel), .val (.int p0), .val (.int p1), .val (.int p2), .val (.int (2 : Int32)), .val (.ref b31), .val (.ref b32), .val (.ref pp)] [(.int (2 : Int32))])) (fun _ k_ => XS.iload X43.here hx rfl (hb hby at_146) rfl k_) ?_
    refine own_w (T' := T43) (g' := (mkF m 151 #[.val (.int sel), .val (.int p0), .val (.int p1), .val (.int p2), .val (.int (2 : Int32)), .val (.ref b31), .val (.ref b32), .val (.ref pp)] [])) (fun _ k_ => XS.ifNo X43.here hx rfl (hb hby at_148) rfl ((if0 _ _).trans (tlt (by decide)).2.2.2) k_) ?_
    refine own_w (T' := T43) (g' := (mkF m 153 #[.val (.int sel), .val (.int p0), .val (.int p1), .val (.int p2), .val (.int (2 : Int32)), .val (.ref b31), .val (.ref b32), .val (.ref pp)] [(.ref b31)])) (fun _ k_ => XS.aload X43.here hx rfl (hb hby at_151) rfl rfl k_) ?_
    refine own_w (T' := T43) (g' := (mkF m 154 #[.val (.int sel), .val (.int p0), .val (.int p1), .val (.int p2), .val (.int (2 : Int32)), .val (.ref b31), .val (.ref b32), .val (.ref pp)] [(.int (0 : Int32)), (.ref b31)])) (fun _ k_ => XS.iconst X43.here hx rfl (hb hby at_153) k_) ?_
    refine own_w (T' := T43) (g' := (mkF m 156 #[.val (.int sel), .val (.int p0), .val (.int p1), .val (.int p2), .val (.int (2 : Int32)), .val (.ref b31), .val (.ref b32), .val (.ref pp)] [(.ref b31), (.int (0 : Int32)), (.ref b31)])) (fun _ k_ => XS.aload X43.here hx rfl (hb hby at_154) rfl rfl k_) ?_
    refine own_w (T' := T43) (g' := (mkF m 157 #[.val (.int sel), .val (.int p0), .val (.int p1), .val (.int p2), .val (.int (2 : Int32)), .val (.ref b31), .val (.ref b32), .val (.ref pp)] [(.int (0 : Int32)), (.ref b31), (.int (0 : Int32)), (.ref b31)])) (fun _ k_ => XS.iconst X43.here hx rfl (hb hby at_156) k_) ?_
    obtain ⟨cl44, Ar44, hs44⟩ := id Vg_41
    refine own_w (T' := T43) (g' := (mkF m 158 #[.val (.int sel), .val (.int p0), .val (.int p1), .val (.int p2), .val (.int (2 : Int32)), .val (.ref b31), .val (.ref b32), .val (.ref pp)] [(.int c0), (.int (0 : Int32)), (.ref b31)])) (fun t_ k_ => X43.baloadBytes hx (j := (0 : Int32)) (v := .int c0) (by rw [e43]; exact Ar44.1) (State.isArrayOf_alike hZ.alike Ar44.2.1) Ar44.2.2 (own_Ar_in (i := 0) hs44 (by decide) (own_get_lt (show _ = some c0 from rfl))) (own_Ar_at (i := 0) hs44 (by decide) (show _ = some c0 from rfl)) (g := (mkF m 157 #[.val (.int sel), .val (.int p0), .val (.int p1), .val (.int p2), .val (.int (2 : Int32)), .val (.ref b31), .val (.ref b32), .val (.ref pp)] [(.int (0 : Int32)), (.ref b31), (.int (0 : Int32)), (.ref b31)])) rfl rfl (hb hby at_157) t_ k_) ?_
    refine own_w (T' := T43) (g' := (mkF m 159 #[.val (.int sel), .val (.int p0), .val (.int p1), .val (.int p2), .val (.int (2 : Int32)), .val (.ref b31), .val (.ref b32), .val (.ref pp)] [(.int (-1 : Int32)), (.int c0), (.int (0 : Int32)), (.ref b31)])) (fun _ k_ => XS.iconst X43.here hx rfl (hb hby at_158) k_) ?_
    refine own_w (T' := T43) (g' := (mkF m 160 #[.val (.int sel), .val (.int p0), .val (.int p1), .val (.int p2), .val (.int (2 : Int32)), .val (.ref b31), .val (.ref b32), .val (.ref pp)] [(.int (c0 ^^^ (-1 : Int32))), (.int (0 : Int32)), (.ref b31)])) (fun _ k_ => XS.ixor X43.here hx rfl (hb hby at_159) rfl k_) ?_
    refine own_w (T' := T43) (g' := (mkF m 161 #[.val (.int sel), .val (.int p0), .val (.int p1), .val (.int p2), .val (.int (2 : Int32)), .val (.ref b31), .val (.ref b32), .val (.ref pp)] [(.int ((c0 ^^^ (-1 : Int32)).toInt8.toInt32)), (.int (0 : Int32)), (.ref b31)])) (fun _ k_ => XS.i2b X43.here hx rfl (hb hby at_160) rfl k_) ?_
    obtain ⟨cl45, Ar45, hs45⟩ := id Vg_41
    obtain ⟨T45, h45, X45, e45, W45, st45⟩ := stB X43 hx hZ e43 Ar45 (j := (0 : Int32)) (own_Ar_in (i := 0) hs45 (by decide) (by simp)) (g := (mkF m 161 #[.val (.int sel), .val (.int p0), .val (.int p1), .val (.int p2), .val (.int (2 : Int32)), .val (.ref b31), .val (.ref b32), .val (.ref pp)] [(.int ((c0 ^^^ (-1 : Int32)).toInt8.toInt32)), (.int (0 : Int32)), (.ref b31)])) rfl rfl (hb hby at_161)
    have V45 := own_Ar_set (i := 0) Vg_41 W45 (by decide) (own_n8 _)
    have N45 := Fr.snoc X45 N43 g_b31
    have Z45 : n0 ≤ h45.size := Nat.le_trans Z41 (Keep.of_wr W45).1
    refine own_w (T' := T45) (g' := (mkF m 162 #[.val (.int sel), .val (.int p0), .val (.int p1), .val (.int p2), .val (.int (2 : Int32)), .val (.ref b31), .val (.ref b32), .val (.ref pp)] [])) st45 ?_
    have VA_45 := own_Ar_other VA_41 W45 na
    have Ve_45 := own_Ar_other Ve_41 W45 ne.symm
    have XA_45 := XA_41.wr W45
    have E_45 := E_41.wr W45
    have F_45_0 := F_41_0.other W45 (Or.inl np)
    have F_45_1 := F_41_1.other W45 (Or.inl np)
    have F_45_2 := F_41_2.other W45 (Or.inl np)
    refine own_w (T' := T45) (g' := (mkF m 164 #[.val (.int sel), .val (.int p0), .val (.int p1), .val (.int p2), .val (.int (2 : Int32)), .val (.ref b31), .val (.ref b32), .val (.ref pp)] [(.int (2 : Int32))])) (fun _ k_ => XS.iload X45.here hx rfl (hb hby at_162) rfl k_) ?_
    refine own_w (T' := T45) (g' := (mkF m 165 #[.val (.int sel), .val (.int p0), .val (.int p1), .val (.int p2), .val (.int (2 : Int32)), .val (.ref b31), .val (.ref b32), .val (.ref pp)] [(.int (1 : Int32)), (.int (2 : Int32))])) (fun _ k_ => XS.iconst X45.here hx rfl (hb hby at_164) k_) ?_
    refine own_w (T' := T45) (g' := (mkF m 168 #[.val (.int sel), .val (.int p0), .val (.int p1), .val (.int p2), .val (.int (2 : Int32)), .val (.ref b31), .val (.ref b32), .val (.ref pp)] [])) (fun _ k_ => XS.icmpNo X45.here hx rfl (hb hby at_165) rfl (tlt (by decide)).2.2.2 k_) ?_
    refine own_w (T' := T45) (g' := (mkF m 170 #[.val (.int sel), .val (.int p0), .val (.int p1), .val (.int p2), .val (.int (2 : Int32)), .val (.ref b31), .val (.ref b32), .val (.ref pp)] [(.ref b31)])) (fun _ k_ => XS.aload X45.here hx rfl (hb hby at_168) rfl rfl k_) ?_
    refine own_w (T' := T45) (g' := (mkF m 171 #[.val (.int sel), .val (.int p0), .val (.int p1), .val (.int p2), .val (.int (2 : Int32)), .val (.ref b31), .val (.ref b32), .val (.ref pp)] [(.int (1 : Int32)), (.ref b31)])) (fun _ k_ => XS.iconst X45.here hx rfl (hb hby at_170) k_) ?_
    refine own_w (T' := T45) (g' := (mkF m 173 #[.val (.int sel), .val (.int p0), .val (.int p1), .val (.int p2), .val (.int (2 : Int32)), .val (.ref b31), .val (.ref b32), .val (.ref pp)] [(.ref b31), (.int (1 : Int32)), (.ref b31)])) (fun _ k_ => XS.aload X45.here hx rfl (hb hby at_171) rfl rfl k_) ?_
    refine own_w (T' := T45) (g' := (mkF m 174 #[.val (.int sel), .val (.int p0), .val (.int p1), .val (.int p2), .val (.int (2 : Int32)), .val (.ref b31), .val (.ref b32), .val (.ref pp)] [(.int (1 : Int32)), (.ref b31), (.int (1 : Int32)), (.ref b31)])) (fun _ k_ => XS.iconst X45.here hx rfl (hb hby at_173) k_) ?_
    obtain ⟨cl46, Ar46, hs46⟩ := id V45
    refine own_w (T' := T45) (g' := (mkF m 175 #[.val (.int sel), .val (.int p0), .val (.int p1), .val (.int p2), .val (.int (2 : Int32)), .val (.ref b31), .val (.ref b32), .val (.ref pp)] [(.int c1), (.int (1 : Int32)), (.ref b31)])) (fun t_ k_ => X45.baloadBytes hx (j := (1 : Int32)) (v := .int c1) (by rw [e45]; exact Ar46.1) (State.isArrayOf_alike hZ.alike Ar46.2.1) Ar46.2.2 (own_Ar_in (i := 1) hs46 (by decide) (own_get_lt (show _ = some c1 from rfl))) (own_Ar_at (i := 1) hs46 (by decide) (show _ = some c1 from rfl)) (g := (mkF m 174 #[.val (.int sel), .val (.int p0), .val (.int p1), .val (.int p2), .val (.int (2 : Int32)), .val (.ref b31), .val (.ref b32), .val (.ref pp)] [(.int (1 : Int32)), (.ref b31), (.int (1 : Int32)), (.ref b31)])) rfl rfl (hb hby at_174) t_ k_) ?_
    refine own_w (T' := T45) (g' := (mkF m 176 #[.val (.int sel), .val (.int p0), .val (.int p1), .val (.int p2), .val (.int (2 : Int32)), .val (.ref b31), .val (.ref b32), .val (.ref pp)] [(.int (-1 : Int32)), (.int c1), (.int (1 : Int32)), (.ref b31)])) (fun _ k_ => XS.iconst X45.here hx rfl (hb hby at_175) k_) ?_
    refine own_w (T' := T45) (g' := (mkF m 177 #[.val (.int sel), .val (.int p0), .val (.int p1), .val (.int p2), .val (.int (2 : Int32)), .val (.ref b31), .val (.ref b32), .val (.ref pp)] [(.int (c1 ^^^ (-1 : Int32))), (.int (1 : Int32)), (.ref b31)])) (fun _ k_ => XS.ixor X45.here hx rfl (hb hby at_176) rfl k_) ?_
    refine own_w (T' := T45) (g' := (mkF m 178 #[.val (.int sel), .val (.int p0), .val (.int p1), .val (.int p2), .val (.int (2 : Int32)), .val (.ref b31), .val (.ref b32), .val (.ref pp)] [(.int ((c1 ^^^ (-1 : Int32)).toInt8.toInt32)), (.int (1 : Int32)), (.ref b31)])) (fun _ k_ => XS.i2b X45.here hx rfl (hb hby at_177) rfl k_) ?_
    obtain ⟨cl47, Ar47, hs47⟩ := id V45
    obtain ⟨T47, h47, X47, e47, W47, st47⟩ := stB X45 hx hZ e45 Ar47 (j := (1 : Int32)) (own_Ar_in (i := 1) hs47 (by decide) (by simp)) (g := (mkF m 178 #[.val (.int sel), .val (.int p0), .val (.int p1), .val (.int p2), .val (.int (2 : Int32)), .val (.ref b31), .val (.ref b32), .val (.ref pp)] [(.int ((c1 ^^^ (-1 : Int32)).toInt8.toInt32)), (.int (1 : Int32)), (.ref b31)])) rfl rfl (hb hby at_178)
    have V47 := own_Ar_set (i := 1) V45 W47 (by decide) (own_n8 _)
    have N47 := Fr.snoc X47 N45 g_b31
    have Z47 : n0 ≤ h47.size := Nat.le_trans Z45 (Keep.of_wr W47).1
    refine own_w (T' := T47) (g' := (mkF m 179 #[.val (.int sel), .val (.int p0), .val (.int p1), .val (.int p2), .val (.int (2 : Int32)), .val (.ref b31), .val (.ref b32), .val (.ref pp)] [])) st47 ?_
    have VA_47 := own_Ar_other VA_45 W47 na
    have Ve_47 := own_Ar_other Ve_45 W47 ne.symm
    have XA_47 := XA_45.wr W47
    have E_47 := E_45.wr W47
    have F_47_0 := F_45_0.other W47 (Or.inl np)
    have F_47_1 := F_45_1.other W47 (Or.inl np)
    have F_47_2 := F_45_2.other W47 (Or.inl np)
    refine own_w (T' := T47) (g' := (mkF m 181 #[.val (.int sel), .val (.int p0), .val (.int p1), .val (.int p2), .val (.int (2 : Int32)), .val (.ref b31), .val (.ref b32), .val (.ref pp)] [(.int (2 : Int32))])) (fun _ k_ => XS.iload X47.here hx rfl (hb hby at_179) rfl k_) ?_
    refine own_w (T' := T47) (g' := (mkF m 182 #[.val (.int sel), .val (.int p0), .val (.int p1), .val (.int p2), .val (.int (2 : Int32)), .val (.ref b31), .val (.ref b32), .val (.ref pp)] [(.int (2 : Int32)), (.int (2 : Int32))])) (fun _ k_ => XS.iconst X47.here hx rfl (hb hby at_181) k_) ?_
    refine own_w (T' := T47) (g' := (mkF m 196 #[.val (.int sel), .val (.int p0), .val (.int p1), .val (.int p2), .val (.int (2 : Int32)), .val (.ref b31), .val (.ref b32), .val (.ref pp)] [])) (fun _ k_ => XS.icmpYes X47.here hx rfl (pc0 := 182) (pc' := 196) rfl (hb hby at_182) rfl (flt (by decide)).2.2.2 (by decide) (by decide) k_) ?_
    refine own_w (T' := T47) (g' := (mkF m 198 #[.val (.int sel), .val (.int p0), .val (.int p1), .val (.int p2), .val (.int (2 : Int32)), .val (.ref b31), .val (.ref b32), .val (.ref pp)] [(.ref pp)])) (fun _ k_ => XS.aload X47.here hx rfl (hb hby at_196) rfl rfl k_) ?_
    obtain ⟨cq48, kq48, q48a, q48b, q48c⟩ := isOf hZ e47 E_47
    obtain ⟨_, _, ⟨T48, L48, k48, n48⟩, -, X48, ⟨Lc48, hQ48, l48, y48, z48⟩, st48⟩ := X47.virtualBack hx (y := (⟨"com/example/adjacency/adjacency/wire/PrefixedBytes", "toArray", "()[B"⟩ : MethodName)) (z := (⟨"com/example/adjacency/adjacency/wire/PrefixedBytes", "toArray", "()[B"⟩ : MethodName)) hown (mvT hZ (hw _ (List.mem_of_getElem? (i := 42) rfl))) (mvT hZ (hw _ (List.mem_of_getElem? (i := 43) rfl))) (notFace_of_selects (args := #[]) (mvT hZ (hw _ (List.mem_of_getElem? (i := 45) rfl)))) (mvT hZ (hw _ (List.mem_of_getElem? (i := 45) rfl))) (mvT hZ (hw _ (List.mem_of_getElem? (i := 44) rfl))) (by decide) (backOf (W := 0) (own_rm7_2 l Z a0 hw [] pp ar c0 c1 h47 n0 Z47 F_47_0 F_47_1 F_47_2 VA_47 XA_47 hf) hZ (hw _ (List.mem_of_getElem? (i := 46) rfl)) (hw _ (List.mem_of_getElem? (i := 3) rfl)) (by decide) (by decide)) q48a q48c (g := (mkF m 198 #[.val (.int sel), .val (.int p0), .val (.int p1), .val (.int p2), .val (.int (2 : Int32)), .val (.ref b31), .val (.ref b32), .val (.ref pp)] [(.ref pp)])) rfl (by rw [hml]; rfl) (Steps.refl _) (argsL := []) (rest := []) (lenOf own_pd8 rfl) rfl (by show 2 * 0 + _ ≤ _; exact Nat.le_of_eq rfl) (hb hby at_198) (fun _ _ => ⟨rfl, e47, (by decide : 5 + 1 ≤ _), (by decide : 13 + 3 ≤ _)⟩)
    dsimp only [Pt.U, Pt.locs, Pt.cells, Pt.slots] at X48 l48 y48 z48 st48 hQ48
    subst l48 y48 z48
    obtain ⟨h48, e48⟩ : ∃ h, T48.heap = h := ⟨_, rfl⟩
    rw [e48] at hQ48
    obtain ⟨rfl, N48q, K48, VN48⟩ := hQ48
    have N48 := Fr.app N47 N48q
    refine own_t (T' := T48) (g' := (mkF m 201 #[.val (.int sel), .val (.int p0), .val (.int p1), .val (.int p2), .val (.int (2 : Int32)), .val (.ref b31), .val (.ref b32), .val (.ref pp)] [(.ref h47.size)])) st48 ?_
    have Z48 : n0 ≤ h48.size := Nat.le_trans Z47 K48.1
    have VA_48 := own_Ar_keep VA_47 K48 (by simp)
    have Vg_48 := own_Ar_keep V47 K48 (by simp)
    have Ve_48 := own_Ar_keep Ve_47 K48 (by simp)
    have XA_48 := XA_47.keep K48
    have E_48 := E_47.keep K48
    have F_48_0 := F_47_0.keep K48 (by simp)
    have F_48_1 := F_47_1.keep K48 (by simp)
    have F_48_2 := F_47_2.keep K48 (by simp)
    refine own_w (T' := T48) (g' := (mkF m 203 #[.val (.int sel), .val (.int p0), .val (.int p1), .val (.int p2), .val (.int (2 : Int32)), .val (.ref b31), .val (.ref b32), .val (.ref pp)] [(.ref b32), (.ref h47.size)])) (fun _ k_ => XS.aload X48.here hx rfl (hb hby at_201) rfl rfl k_) ?_
    refine own_w (T' := T48) (g' := (mkF m 205 #[.val (.int sel), .val (.int p0), .val (.int p1), .val (.int p2), .val (.int (2 : Int32)), .val (.ref b31), .val (.ref b32), .val (.ref pp)] [(.int (2 : Int32)), (.ref b32), (.ref h47.size)])) (fun _ k_ => XS.iload X48.here hx rfl (hb hby at_203) rfl k_) ?_
    obtain ⟨_, _, ⟨T49, L49, k49, n49⟩, -, X49, ⟨Lc49, hQ49, l49, y49, z49⟩, st49⟩ := Jvm.LawKit.callS X48 hx (y := (⟨"com/example/adjacency/adjacency/wire/PrefixedBytesCopyOfPinLaw", "same", "([B[BI)Z"⟩ : MethodName)) hown (mvT hZ (hw _ (List.mem_of_getElem? (i := 28) rfl))) (mvT hZ (hw _ (List.mem_of_getElem? (i := 29) rfl))) (mvT hZ (hw _ (List.mem_of_getElem? (i := 30) rfl))) (mvT hZ (hw _ (List.mem_of_getElem? (i := 31) rfl))) (by decide) (backOf (W := 0) (own_rm4_2 l Z a0 hw [] h47.size b32 c0 c1 c0 c1 h48 n0 Z48 VN48 Ve_48) hZ (hw _ (List.mem_of_getElem? (i := 31) rfl)) (hw _ (List.mem_of_getElem? (i := 30) rfl)) (by decide) (by decide)) (g := (mkF m 205 #[.val (.int sel), .val (.int p0), .val (.int p1), .val (.int p2), .val (.int (2 : Int32)), .val (.ref b31), .val (.ref b32), .val (.ref pp)] [(.int (2 : Int32)), (.ref b32), (.ref h47.size)])) rfl (by rw [hml]; rfl) (argsL := [(.ref h47.size), (.ref b32), (.int (2 : Int32))]) (rest := []) (lenOf own_pd6 rfl) rfl (by show 2 * 0 + _ ≤ _; exact Nat.le_of_eq rfl) (hb hby at_205) (fun _ _ => ⟨rfl, e48, (by decide : 6 + 0 ≤ _), (by decide : 16 + 0 ≤ _)⟩)
    dsimp only [Pt.U, Pt.locs, Pt.cells, Pt.slots] at X49 l49 y49 z49 st49 hQ49
    subst l49 y49 z49
    obtain ⟨rfl, N49q, e49⟩ := hQ49
    have N49 := Fr.app N48 N49q
    refine own_w (T' := T49) (g' := (mkF m 208 #[.val (.int sel), .val (.int p0), .val (.int p1), .val (.int p2), .val (.int (2 : Int32)), .val (.ref b31), .val (.ref b32), .val (.ref pp)] [(.int (if ([c0, c1] = [c0, c1]) then (1 : Int32) else 0))])) st49 ?_
    refine own_w (T' := T49) (g' := (mkF m 213 #[.val (.int sel), .val (.int p0), .val (.int p1), .val (.int p2), .val (.int (2 : Int32)), .val (.ref b31), .val (.ref b32), .val (.ref pp)] [])) (fun _ k_ => XS.ifYes X49.here hx rfl (pc0 := 208) (pc' := 213) rfl (hb hby at_208) rfl ((if0 _ _).trans (feq (fun q => (own_ite0.mp q) (show (([c0, c1] = [c0, c1])) from rfl))).2) (by decide) (by decide) k_) ?_
    refine own_w (T' := T49) (g' := (mkF m 215 #[.val (.int sel), .val (.int p0), .val (.int p1), .val (.int p2), .val (.int (2 : Int32)), .val (.ref b31), .val (.ref b32), .val (.ref pp)] [(.ref pp)])) (fun _ k_ => XS.aload X49.here hx rfl (hb hby at_213) rfl rfl k_) ?_
    refine own_w (T' := T49) (g' := (mkF m 217 #[.val (.int sel), .val (.int p0), .val (.int p1), .val (.int p2), .val (.int (2 : Int32)), .val (.ref b31), .val (.ref b32), .val (.ref pp)] [(.ref b32), (.ref pp)])) (fun _ k_ => XS.aload X49.here hx rfl (hb hby at_215) rfl rfl k_) ?_
    obtain ⟨cq50, kq50, q50a, q50b, q50c⟩ := isOf hZ e49 E_48
    obtain ⟨_, _, ⟨T50, L50, k50, n50⟩, -, X50, ⟨Lc50, hQ50, l50, y50, z50⟩, st50⟩ := X49.virtualBack hx (y := (⟨"com/example/adjacency/adjacency/wire/PrefixedBytes", "isSameAs", "([B)Z"⟩ : MethodName)) (z := (⟨"com/example/adjacency/adjacency/wire/PrefixedBytes", "isSameAs", "([B)Z"⟩ : MethodName)) hown (mvT hZ (hw _ (List.mem_of_getElem? (i := 53) rfl))) (mvT hZ (hw _ (List.mem_of_getElem? (i := 54) rfl))) (notFace_of_selects (args := #[]) (mvT hZ (hw _ (List.mem_of_getElem? (i := 56) rfl)))) (mvT hZ (hw _ (List.mem_of_getElem? (i := 56) rfl))) (mvT hZ (hw _ (List.mem_of_getElem? (i := 55) rfl))) (by decide) (backOf (W := 0) (own_rm9_2 l Z a0 hw [] pp b32 ar c0 c1 c0 c1 h48 n0 Z48 F_48_0 F_48_1 F_48_2 VA_48 Ve_48) hZ (hw _ (List.mem_of_getElem? (i := 57) rfl)) (hw _ (List.mem_of_getElem? (i := 3) rfl)) (by decide) (by decide)) q50a q50c (g := (mkF m 217 #[.val (.int sel), .val (.int p0), .val (.int p1), .val (.int p2), .val (.int (2 : Int32)), .val (.ref b31), .val (.ref b32), .val (.ref pp)] [(.ref b32), (.ref pp)])) rfl (by rw [hml]; rfl) (Steps.refl _) (argsL := [(.ref b32)]) (rest := []) (lenOf own_pd9 rfl) rfl (by show 2 * 0 + _ ≤ _; exact Nat.le_of_eq rfl) (hb hby at_217) (fun _ _ => ⟨rfl, e49, (by decide : 6 + 0 ≤ _), (by decide : 16 + 0 ≤ _)⟩)
    dsimp only [Pt.U, Pt.locs, Pt.cells, Pt.slots] at X50 l50 y50 z50 st50 hQ50
    subst l50 y50 z50
    obtain ⟨rfl, N50q, e50⟩ := hQ50
    have N50 := Fr.app N49 N50q
    refine own_t (T' := T50) (g' := (mkF m 220 #[.val (.int sel), .val (.int p0), .val (.int p1), .val (.int p2), .val (.int (2 : Int32)), .val (.ref b31), .val (.ref b32), .val (.ref pp)] [(.int (if ([c0, c1] = [c0, c1]) then (1 : Int32) else 0))])) st50 ?_
    refine own_w (T' := T50) (g' := (mkF m 225 #[.val (.int sel), .val (.int p0), .val (.int p1), .val (.int p2), .val (.int (2 : Int32)), .val (.ref b31), .val (.ref b32), .val (.ref pp)] [])) (fun _ k_ => XS.ifYes X50.here hx rfl (pc0 := 220) (pc' := 225) rfl (hb hby at_220) rfl ((if0 _ _).trans (feq (fun q => (own_ite0.mp q) (show (([c0, c1] = [c0, c1])) from rfl))).2) (by decide) (by decide) k_) ?_
    refine own_w (T' := T50) (g' := (mkF m 227 #[.val (.int sel), .val (.int p0), .val (.int p1), .val (.int p2), .val (.int (2 : Int32)), .val (.ref b31), .val (.ref b32), .val (.ref pp)] [(.ref pp)])) (fun _ k_ => XS.aload X50.here hx rfl (hb hby at_225) rfl rfl k_) ?_
    refine own_w (T' := T50) (g' := (mkF m 229 #[.val (.int sel), .val (.int p0), .val (.int p1), .val (.int p2), .val (.int (2 : Int32)), .val (.ref b31), .val (.ref b32), .val (.ref pp)] [(.ref b31), (.ref pp)])) (fun _ k_ => XS.aload X50.here hx rfl (hb hby at_227) rfl rfl k_) ?_
    obtain ⟨cq51, kq51, q51a, q51b, q51c⟩ := isOf hZ e50 E_48
    obtain ⟨_, _, ⟨T51, L51, k51, n51⟩, -, X51, ⟨Lc51, hQ51, l51, y51, z51⟩, st51⟩ := X50.virtualBack hx (y := (⟨"com/example/adjacency/adjacency/wire/PrefixedBytes", "isSameAs", "([B)Z"⟩ : MethodName)) (z := (⟨"com/example/adjacency/adjacency/wire/PrefixedBytes", "isSameAs", "([B)Z"⟩ : MethodName)) hown (mvT hZ (hw _ (List.mem_of_getElem? (i := 53) rfl))) (mvT hZ (hw _ (List.mem_of_getElem? (i := 54) rfl))) (notFace_of_selects (args := #[]) (mvT hZ (hw _ (List.mem_of_getElem? (i := 56) rfl)))) (mvT hZ (hw _ (List.mem_of_getElem? (i := 56) rfl))) (mvT hZ (hw _ (List.mem_of_getElem? (i := 55) rfl))) (by decide) (backOf (W := 0) (own_rm9_2 l Z a0 hw [] pp b31 ar c0 c1 ((c0 ^^^ (-1 : Int32)).toInt8.toInt32) ((c1 ^^^ (-1 : Int32)).toInt8.toInt32) h48 n0 Z48 F_48_0 F_48_1 F_48_2 VA_48 Vg_48) hZ (hw _ (List.mem_of_getElem? (i := 57) rfl)) (hw _ (List.mem_of_getElem? (i := 3) rfl)) (by decide) (by decide)) q51a q51c (g := (mkF m 229 #[.val (.int sel), .val (.int p0), .val (.int p1), .val (.int p2), .val (.int (2 : Int32)), .val (.ref b31), .val (.ref b32), .val (.ref pp)] [(.ref b31), (.ref pp)])) rfl (by rw [hml]; rfl) (Steps.refl _) (argsL := [(.ref b31)]) (rest := []) (lenOf own_pd9 rfl) rfl (by show 2 * 0 + _ ≤ _; exact Nat.le_of_eq rfl) (hb hby at_229) (fun _ _ => ⟨rfl, e50, (by decide : 6 + 0 ≤ _), (by decide : 16 + 0 ≤ _)⟩)
    dsimp only [Pt.U, Pt.locs, Pt.cells, Pt.slots] at X51 l51 y51 z51 st51 hQ51
    subst l51 y51 z51
    obtain ⟨rfl, N51q, e51⟩ := hQ51
    have N51 := Fr.app N50 N51q
    refine own_t (T' := T51) (g' := (mkF m 232 #[.val (.int sel), .val (.int p0), .val (.int p1), .val (.int p2), .val (.int (2 : Int32)), .val (.ref b31), .val (.ref b32), .val (.ref pp)] [(.int (if ([c0, c1] = [(c0 ^^^ (-1 : Int32)).toInt8.toInt32, (c1 ^^^ (-1 : Int32)).toInt8.toInt32]) then (1 : Int32) else 0))])) st51 ?_
    refine own_w (T' := T51) (g' := (mkF m 234 #[.val (.int sel), .val (.int p0), .val (.int p1), .val (.int p2), .val (.int (2 : Int32)), .val (.ref b31), .val (.ref b32), .val (.ref pp)] [(.int (2 : Int32)), (.int (if ([c0, c1] = [(c0 ^^^ (-1 : Int32)).toInt8.toInt32, (c1 ^^^ (-1 : Int32)).toInt8.toInt32]) then (1 : Int32) else 0))])) (fun _ k_ => XS.iload X51.here hx rfl (hb hby at_232) rfl k_) ?_
    refine own_w (T' := T51) (g' := (mkF m 241 #[.val (.int sel), .val (.int p0), .val (.int p1), .val (.int p2), .val (.int (2 : Int32)), .val (.ref b31), .val (.ref b32), .val (.ref pp)] [(.int (if ([c0, c1] = [(c0 ^^^ (-1 : Int32)).toInt8.toInt32, (c1 ^^^ (-1 : Int32)).toInt8.toInt32]) then (1 : Int32) else 0))])) (fun _ k_ => XS.ifYes X51.here hx rfl (pc0 := 234) (pc' := 241) rfl (hb hby at_234) rfl ((if0 _ _).trans (feq (by decide)).2) (by decide) (by decide) k_) ?_
    refine own_w (T' := T51) (g' := (mkF m 242 #[.val (.int sel), .val (.int p0), .val (.int p1), .val (.int p2), .val (.int (2 : Int32)), .val (.ref b31), .val (.ref b32), .val (.ref pp)] [(.int (0 : Int32)), (.int (if ([c0, c1] = [(c0 ^^^ (-1 : Int32)).toInt8.toInt32, (c1 ^^^ (-1 : Int32)).toInt8.toInt32]) then (1 : Int32) else 0))])) (fun _ k_ => XS.iconst X51.here hx rfl (hb hby at_241) k_) ?_
    refine own_w (T' := T51) (g' := (mkF m 245 #[.val (.int sel), .val (.int p0), .val (.int p1), .val (.int p2), .val (.int (2 : Int32)), .val (.ref b31), .val (.ref b32), .val (.ref pp)] [])) (fun _ k_ => XS.icmpNo X51.here hx rfl (hb hby at_242) rfl (teq (if_neg fun q => own_not c0 (List.cons.inj q).1)).2 k_) ?_
    refine own_w (T' := T51) (g' := (mkF m 246 #[.val (.int sel), .val (.int p0), .val (.int p1), .val (.int p2), .val (.int (2 : Int32)), .val (.ref b31), .val (.ref b32), .val (.ref pp)] [(.int (1 : Int32))])) (fun _ k_ => XS.iconst X51.here hx rfl (hb hby at_245) k_) ?_
    refine own_w (T' := T51) (g' := (mkF m 250 #[.val (.int sel), .val (.int p0), .val (.int p1), .val (.int p2), .val (.int (2 : Int32)), .val (.ref b31), .val (.ref b32), .val (.ref pp)] [(.int (1 : Int32))])) (fun _ k_ => XS.goto X51.here hx rfl (pc0 := 246) (pc' := 250) rfl (hb hby at_246) (by decide) (by decide) k_) ?_
    obtain ⟨fs, hr, hrun, hended, hW, hsame⟩ := X51.leave (v := some (.int (1 : Int32))) (fun h => by rw [Bd.returns] at h; cases h)
    exact ⟨_, _, retOut X51 hx Bd.returns rfl (Or.inl ⟨rfl, Or.inr (Or.inl rfl), _, rfl⟩) (hb hby at_250) hr, hrun, hended, _, _, rfl, (by show own_Q0 Z sel p0 p1 p2 h0 n0 _ T51.heap _; rw [e51]; exact ⟨rfl, N51⟩), ⟨_, rfl⟩, hW, hsame.mono (by decide) (by decide)⟩
  · refine own_w (T' := s₁) (g' := (mkF m 7 #[.val (.int sel), .val (.int p0), .val (.int p1), .val (.int p2), .val (.int (3 : Int32)), .unset, .unset, .unset] [(.int (3 : Int32))])) (fun _ k_ => XS.iload X0.here hx rfl (hb hby at_5) rfl k_) ?_
    obtain ⟨T52, h52, k52, X52, e52, E52, A52, Xa52, st52⟩ := newPE X0 hx hZ (hw _ (List.mem_of_getElem? (i := 0) rfl)) e0 (g := (mkF m 7 #[.val (.int sel), .val (.int p0), .val (.int p1), .val (.int p2), .val (.int (3 : Int32)), .unset, .unset, .unset] [(.int (3 : Int32))])) rfl (hb hby at_7) rfl (by decide) (cap := 3) (by decide) (by decide) (by decide) (by decide) (ad := "[B") (by decide)
    obtain ⟨b52, gq52⟩ : ∃ z, z = h0.size := ⟨_, rfl⟩
    rw [← gq52] at A52 Xa52 st52
    have V_b52 := own_Ar_new A52 rfl (k := 3) rfl
    have X_b52 := Xa52
    have g_b52 : n0 ≤ b52 := Nat.le_trans Z0 (Nat.le_of_eq gq52.symm)
    have Z52 : n0 ≤ h52.size := Nat.le_trans Z0 E52.1
    refine own_w (T' := T52) (g' := (mkF m 9 #[.val (.int sel), .val (.int p0), .val (.int p1), .val (.int p2), .val (.int (3 : Int32)), .unset, .unset, .unset] [(.ref b52)])) st52 ?_
    refine own_w (T' := T52) (g' := (mkF m 11 #[.val (.int sel), .val (.int p0), .val (.int p1), .val (.int p2), .val (.int (3 : Int32)), .val (.ref b52), .unset, .unset] [])) (fun _ k_ => XS.astore X52.here hx rfl (hb hby at_9) rfl rfl (l' := #[.val (.int sel), .val (.int p0), .val (.int p1), .val (.int p2), .val (.int (3 : Int32)), .val (.ref b52), .unset, .unset]) rfl k_) ?_
    refine own_w (T' := T52) (g' := (mkF m 13 #[.val (.int sel), .val (.int p0), .val (.int p1), .val (.int p2), .val (.int (3 : Int32)), .val (.ref b52), .unset, .unset] [(.int (3 : Int32))])) (fun _ k_ => XS.iload X52.here hx rfl (hb hby at_11) rfl k_) ?_
    obtain ⟨T53, h53, k53, X53, e53, E53, A53, Xa53, st53⟩ := newPE X52 hx hZ (hw _ (List.mem_of_getElem? (i := 0) rfl)) e52 (g := (mkF m 13 #[.val (.int sel), .val (.int p0), .val (.int p1), .val (.int p2), .val (.int (3 : Int32)), .val (.ref b52), .unset, .unset] [(.int (3 : Int32))])) rfl (hb hby at_13) rfl (by decide) (cap := 3) (by decide) (by decide) (by decide) (by decide) (ad := "[B") (by decide)
    obtain ⟨b53, gq53⟩ : ∃ z, z = h52.size := ⟨_, rfl⟩
    rw [← gq53] at A53 Xa53 st53
    have V_b53 := own_Ar_new A53 rfl (k := 3) rfl
    have X_b53 := Xa53
    have g_b53 : n0 ≤ b53 := Nat.le_trans Z52 (Nat.le_of_eq gq53.symm)
    have Z53 : n0 ≤ h53.size := Nat.le_trans Z52 E53.1
    refine own_w (T' := T53) (g' := (mkF m 15 #[.val (.int sel), .val (.int p0), .val (.int p1), .val (.int p2), .val (.int (3 : Int32)), .val (.ref b52), .unset, .unset] [(.ref b53)])) st53 ?_
    have ne : b52 ≠ b53 := Nat.ne_of_lt (Nat.lt_of_lt_of_le (own_Ar_lt V_b52) (Nat.le_of_eq gq53.symm))
    have Va := own_Ar_ext V_b52 E53
    have Xa := X_b52.ext E53
    have Vb := V_b53
    have Xb := X_b53
    refine own_w (T' := T53) (g' := (mkF m 17 #[.val (.int sel), .val (.int p0), .val (.int p1), .val (.int p2), .val (.int (3 : Int32)), .val (.ref b52), .val (.ref b53), .unset] [])) (fun _ k_ => XS.astore X53.here hx rfl (hb hby at_15) rfl rfl (l' := #[.val (.int sel), .val (.int p0), .val (.int p1), .val (.int p2), .val (.int (3 : Int32)), .val (.ref b52), .val (.ref b53), .unset]) rfl k_) ?_
    refine own_w (T' := T53) (g' := (mkF m 19 #[.val (.int sel), .val (.int p0), .val (.int p1), .val (.int p2), .val (.int (3 : Int32)), .val (.ref b52), .val (.ref b53), .unset] [(.int (3 : Int32))])) (fun _ k_ => XS.iload X53.here hx rfl (hb hby at_17) rfl k_) ?_
    refine own_w (T' := T53) (g' := (mkF m 22 #[.val (.int sel), .val (.int p0), .val (.int p1), .val (.int p2), .val (.int (3 : Int32)), .val (.ref b52), .val (.ref b53), .unset] [])) (fun _ k_ => XS.ifNo X53.here hx rfl (hb hby at_19) rfl ((if0 _ _).trans (tlt (by decide)).2.2.2) k_) ?_
    refine own_w (T' := T53) (g' := (mkF m 24 #[.val (.int sel), .val (.int p0), .val (.int p1), .val (.int p2), .val (.int (3 : Int32)), .val (.ref b52), .val (.ref b53), .unset] [(.ref b52)])) (fun _ k_ => XS.aload X53.here hx rfl (hb hby at_22) rfl rfl k_) ?_
    refine own_w (T' := T53) (g' := (mkF m 25 #[.val (.int sel), .val (.int p0), .val (.int p1), .val (.int p2), .val (.int (3 : Int32)), .val (.ref b52), .val (.ref b53), .unset] [(.int (0 : Int32)), (.ref b52)])) (fun _ k_ => XS.iconst X53.here hx rfl (hb hby at_24) k_) ?_
    refine own_w (T' := T53) (g' := (mkF m 26 #[.val (.int sel), .val (.int p0), .val (.int p1), .val (.int p2), .val (.int (3 : Int32)), .val (.ref b52), .val (.ref b53), .unset] [(.int p0), (.int (0 : Int32)), (.ref b52)])) (fun _ k_ => XS.iloadN X53.here hx rfl (hb hby at_25) rfl k_) ?_
    refine own_w (T' := T53) (g' := (mkF m 27 #[.val (.int sel), .val (.int p0), .val (.int p1), .val (.int p2), .val (.int (3 : Int32)), .val (.ref b52), .val (.ref b53), .unset] [(.int (p0.toInt8.toInt32)), (.int (0 : Int32)), (.ref b52)])) (fun _ k_ => XS.i2b X53.here hx rfl (hb hby at_26) rfl k_) ?_
    obtain ⟨cl54, Ar54, hs54⟩ := id Va
    obtain ⟨T54, h54, X54, e54, W54, st54⟩ := stB X53 hx hZ e53 Ar54 (j := (0 : Int32)) (own_Ar_in (i := 0) hs54 (by decide) (by simp)) (g := (mkF m 27 #[.val (.int sel), .val (.int p0), .val (.int p1), .val (.int p2), .val (.int (3 : Int32)), .val (.ref b52), .val (.ref b53), .unset] [(.int (p0.toInt8.toInt32)), (.int (0 : Int32)), (.ref b52)])) rfl rfl (hb hby at_27)
    have V54 := own_Ar_set (i := 0) Va W54 (by decide) (own_n8 _)
    have N54 := Fr.snoc X54 N0 g_b52
    have Z54 : n0 ≤ h54.size := Nat.le_trans Z53 (Keep.of_wr W54).1
    refine own_w (T' := T54) (g' := (mkF m 28 #[.val (.int sel), .val (.int p0), .val (.int p1), .val (.int p2), .val (.int (3 : Int32)), .val (.ref b52), .val (.ref b53), .unset] [])) st54 ?_
    have B54 := own_Ar_other Vb W54 ne.symm
    have Xa54 := Xa.wr W54
    have Xb54 := Xb.wr W54
    refine own_w (T' := T54) (g' := (mkF m 30 #[.val (.int sel), .val (.int p0), .val (.int p1), .val (.int p2), .val (.int (3 : Int32)), .val (.ref b52), .val (.ref b53), .unset] [(.ref b53)])) (fun _ k_ => XS.aload X54.here hx rfl (hb hby at_28) rfl rfl k_) ?_
    refine own_w (T' := T54) (g' := (mkF m 31 #[.val (.int sel), .val (.int p0), .val (.int p1), .val (.int p2), .val (.int (3 : Int32)), .val (.ref b52), .val (.ref b53), .unset] [(.int (0 : Int32)), (.ref b53)])) (fun _ k_ => XS.iconst X54.here hx rfl (hb hby at_30) k_) ?_
    refine own_w (T' := T54) (g' := (mkF m 32 #[.val (.int sel), .val (.int p0), .val (.int p1), .val (.int p2), .val (.int (3 : Int32)), .val (.ref b52), .val (.ref b53), .unset] [(.int p0), (.int (0 : Int32)), (.ref b53)])) (fun _ k_ => XS.iloadN X54.here hx rfl (hb hby at_31) rfl k_) ?_
    refine own_w (T' := T54) (g' := (mkF m 33 #[.val (.int sel), .val (.int p0), .val (.int p1), .val (.int p2), .val (.int (3 : Int32)), .val (.ref b52), .val (.ref b53), .unset] [(.int (p0.toInt8.toInt32)), (.int (0 : Int32)), (.ref b53)])) (fun _ k_ => XS.i2b X54.here hx rfl (hb hby at_32) rfl k_) ?_
    obtain ⟨cl55, Ar55, hs55⟩ := id B54
    obtain ⟨T55, h55, X55, e55, W55, st55⟩ := stB X54 hx hZ e54 Ar55 (j := (0 : Int32)) (own_Ar_in (i := 0) hs55 (by decide) (by simp)) (g := (mkF m 33 #[.val (.int sel), .val (.int p0), .val (.int p1), .val (.int p2), .val (.int (3 : Int32)), .val (.ref b52), .val (.ref b53), .unset] [(.int (p0.toInt8.toInt32)), (.int (0 : Int32)), (.ref b53)])) rfl rfl (hb hby at_33)
    have V55 := own_Ar_set (i := 0) B54 W55 (by decide) (own_n8 _)
    have N55 := Fr.snoc X55 N54 g_b53
    have Z55 : n0 ≤ h55.size := Nat.le_trans Z54 (Keep.of_wr W55).1
    refine own_w (T' := T55) (g' := (mkF m 34 #[.val (.int sel), .val (.int p0), .val (.int p1), .val (.int p2), .val (.int (3 : Int32)), .val (.ref b52), .val (.ref b53), .unset] [])) st55 ?_
    have B55 := own_Ar_other V54 W55 ne
    have Xa55 := Xa54.wr W55
    have Xb55 := Xb54.wr W55
    refine own_w (T' := T55) (g' := (mkF m 36 #[.val (.int sel), .val (.int p0), .val (.int p1), .val (.int p2), .val (.int (3 : Int32)), .val (.ref b52), .val (.ref b53), .unset] [(.int (3 : Int32))])) (fun _ k_ => XS.iload X55.here hx rfl (hb hby at_34) rfl k_) ?_
    refine own_w (T' := T55) (g' := (mkF m 37 #[.val (.int sel), .val (.int p0), .val (.int p1), .val (.int p2), .val (.int (3 : Int32)), .val (.ref b52), .val (.ref b53), .unset] [(.int (1 : Int32)), (.int (3 : Int32))])) (fun _ k_ => XS.iconst X55.here hx rfl (hb hby at_36) k_) ?_
    refine own_w (T' := T55) (g' := (mkF m 40 #[.val (.int sel), .val (.int p0), .val (.int p1), .val (.int p2), .val (.int (3 : Int32)), .val (.ref b52), .val (.ref b53), .unset] [])) (fun _ k_ => XS.icmpNo X55.here hx rfl (hb hby at_37) rfl (tlt (by decide)).2.2.2 k_) ?_
    refine own_w (T' := T55) (g' := (mkF m 42 #[.val (.int sel), .val (.int p0), .val (.int p1), .val (.int p2), .val (.int (3 : Int32)), .val (.ref b52), .val (.ref b53), .unset] [(.ref b52)])) (fun _ k_ => XS.aload X55.here hx rfl (hb hby at_40) rfl rfl k_) ?_
    refine own_w (T' := T55) (g' := (mkF m 43 #[.val (.int sel), .val (.int p0), .val (.int p1), .val (.int p2), .val (.int (3 : Int32)), .val (.ref b52), .val (.ref b53), .unset] [(.int (1 : Int32)), (.ref b52)])) (fun _ k_ => XS.iconst X55.here hx rfl (hb hby at_42) k_) ?_
    refine own_w (T' := T55) (g' := (mkF m 44 #[.val (.int sel), .val (.int p0), .val (.int p1), .val (.int p2), .val (.int (3 : Int32)), .val (.ref b52), .val (.ref b53), .unset] [(.int p1), (.int (1 : Int32)), (.ref b52)])) (fun _ k_ => XS.iloadN X55.here hx rfl (hb hby at_43) rfl k_) ?_
    refine own_w (T' := T55) (g' := (mkF m 45 #[.val (.int sel), .val (.int p0), .val (.int p1), .val (.int p2), .val (.int (3 : Int32)), .val (.ref b52), .val (.ref b53), .unset] [(.int (p1.toInt8.toInt32)), (.int (1 : Int32)), (.ref b52)])) (fun _ k_ => XS.i2b X55.here hx rfl (hb hby at_44) rfl k_) ?_
    obtain ⟨cl56, Ar56, hs56⟩ := id B55
    obtain ⟨T56, h56, X56, e56, W56, st56⟩ := stB X55 hx hZ e55 Ar56 (j := (1 : Int32)) (own_Ar_in (i := 1) hs56 (by decide) (by simp)) (g := (mkF m 45 #[.val (.int sel), .val (.int p0), .val (.int p1), .val (.int p2), .val (.int (3 : Int32)), .val (.ref b52), .val (.ref b53), .unset] [(.int (p1.toInt8.toInt32)), (.int (1 : Int32)), (.ref b52)])) rfl rfl (hb hby at_45)
    have V56 := own_Ar_set (i := 1) B55 W56 (by decide) (own_n8 _)
    have N56 := Fr.snoc X56 N55 g_b52
    have Z56 : n0 ≤ h56.size := Nat.le_trans Z55 (Keep.of_wr W56).1
    refine own_w (T' := T56) (g' := (mkF m 46 #[.val (.int sel), .val (.int p0), .val (.int p1), .val (.int p2), .val (.int (3 : Int32)), .val (.ref b52), .val (.ref b53), .unset] [])) st56 ?_
    have B56 := own_Ar_other V55 W56 ne.symm
    have Xa56 := Xa55.wr W56
    have Xb56 := Xb55.wr W56
    refine own_w (T' := T56) (g' := (mkF m 48 #[.val (.int sel), .val (.int p0), .val (.int p1), .val (.int p2), .val (.int (3 : Int32)), .val (.ref b52), .val (.ref b53), .unset] [(.ref b53)])) (fun _ k_ => XS.aload X56.here hx rfl (hb hby at_46) rfl rfl k_) ?_
    refine own_w (T' := T56) (g' := (mkF m 49 #[.val (.int sel), .val (.int p0), .val (.int p1), .val (.int p2), .val (.int (3 : Int32)), .val (.ref b52), .val (.ref b53), .unset] [(.int (1 : Int32)), (.ref b53)])) (fun _ k_ => XS.iconst X56.here hx rfl (hb hby at_48) k_) ?_
    refine own_w (T' := T56) (g' := (mkF m 50 #[.val (.int sel), .val (.int p0), .val (.int p1), .val (.int p2), .val (.int (3 : Int32)), .val (.ref b52), .val (.ref b53), .unset] [(.int p1), (.int (1 : Int32)), (.ref b53)])) (fun _ k_ => XS.iloadN X56.here hx rfl (hb hby at_49) rfl k_) ?_
    refine own_w (T' := T56) (g' := (mkF m 51 #[.val (.int sel), .val (.int p0), .val (.int p1), .val (.int p2), .val (.int (3 : Int32)), .val (.ref b52), .val (.ref b53), .unset] [(.int (p1.toInt8.toInt32)), (.int (1 : Int32)), (.ref b53)])) (fun _ k_ => XS.i2b X56.here hx rfl (hb hby at_50) rfl k_) ?_
    obtain ⟨cl57, Ar57, hs57⟩ := id B56
    obtain ⟨T57, h57, X57, e57, W57, st57⟩ := stB X56 hx hZ e56 Ar57 (j := (1 : Int32)) (own_Ar_in (i := 1) hs57 (by decide) (by simp)) (g := (mkF m 51 #[.val (.int sel), .val (.int p0), .val (.int p1), .val (.int p2), .val (.int (3 : Int32)), .val (.ref b52), .val (.ref b53), .unset] [(.int (p1.toInt8.toInt32)), (.int (1 : Int32)), (.ref b53)])) rfl rfl (hb hby at_51)
    have V57 := own_Ar_set (i := 1) B56 W57 (by decide) (own_n8 _)
    have N57 := Fr.snoc X57 N56 g_b53
    have Z57 : n0 ≤ h57.size := Nat.le_trans Z56 (Keep.of_wr W57).1
    refine own_w (T' := T57) (g' := (mkF m 52 #[.val (.int sel), .val (.int p0), .val (.int p1), .val (.int p2), .val (.int (3 : Int32)), .val (.ref b52), .val (.ref b53), .unset] [])) st57 ?_
    have B57 := own_Ar_other V56 W57 ne
    have Xa57 := Xa56.wr W57
    have Xb57 := Xb56.wr W57
    refine own_w (T' := T57) (g' := (mkF m 54 #[.val (.int sel), .val (.int p0), .val (.int p1), .val (.int p2), .val (.int (3 : Int32)), .val (.ref b52), .val (.ref b53), .unset] [(.int (3 : Int32))])) (fun _ k_ => XS.iload X57.here hx rfl (hb hby at_52) rfl k_) ?_
    refine own_w (T' := T57) (g' := (mkF m 55 #[.val (.int sel), .val (.int p0), .val (.int p1), .val (.int p2), .val (.int (3 : Int32)), .val (.ref b52), .val (.ref b53), .unset] [(.int (2 : Int32)), (.int (3 : Int32))])) (fun _ k_ => XS.iconst X57.here hx rfl (hb hby at_54) k_) ?_
    refine own_w (T' := T57) (g' := (mkF m 58 #[.val (.int sel), .val (.int p0), .val (.int p1), .val (.int p2), .val (.int (3 : Int32)), .val (.ref b52), .val (.ref b53), .unset] [])) (fun _ k_ => XS.icmpNo X57.here hx rfl (hb hby at_55) rfl (tlt (by decide)).2.2.2 k_) ?_
    refine own_w (T' := T57) (g' := (mkF m 60 #[.val (.int sel), .val (.int p0), .val (.int p1), .val (.int p2), .val (.int (3 : Int32)), .val (.ref b52), .val (.ref b53), .unset] [(.ref b52)])) (fun _ k_ => XS.aload X57.here hx rfl (hb hby at_58) rfl rfl k_) ?_
    refine own_w (T' := T57) (g' := (mkF m 61 #[.val (.int sel), .val (.int p0), .val (.int p1), .val (.int p2), .val (.int (3 : Int32)), .val (.ref b52), .val (.ref b53), .unset] [(.int (2 : Int32)), (.ref b52)])) (fun _ k_ => XS.iconst X57.here hx rfl (hb hby at_60) k_) ?_
    refine own_w (T' := T57) (g' := (mkF m 62 #[.val (.int sel), .val (.int p0), .val (.int p1), .val (.int p2), .val (.int (3 : Int32)), .val (.ref b52), .val (.ref b53), .unset] [(.int p2), (.int (2 : Int32)), (.ref b52)])) (fun _ k_ => XS.iloadN X57.here hx rfl (hb hby at_61) rfl k_) ?_
    refine own_w (T' := T57) (g' := (mkF m 63 #[.val (.int sel), .val (.int p0), .val (.int p1), .val (.int p2), .val (.int (3 : Int32)), .val (.ref b52), .val (.ref b53), .unset] [(.int (p2.toInt8.toInt32)), (.int (2 : Int32)), (.ref b52)])) (fun _ k_ => XS.i2b X57.here hx rfl (hb hby at_62) rfl k_) ?_
    obtain ⟨cl58, Ar58, hs58⟩ := id B57
    obtain ⟨T58, h58, X58, e58, W58, st58⟩ := stB X57 hx hZ e57 Ar58 (j := (2 : Int32)) (own_Ar_in (i := 2) hs58 (by decide) (by simp)) (g := (mkF m 63 #[.val (.int sel), .val (.int p0), .val (.int p1), .val (.int p2), .val (.int (3 : Int32)), .val (.ref b52), .val (.ref b53), .unset] [(.int (p2.toInt8.toInt32)), (.int (2 : Int32)), (.ref b52)])) rfl rfl (hb hby at_63)
    have V58 := own_Ar_set (i := 2) B57 W58 (by decide) (own_n8 _)
    have N58 := Fr.snoc X58 N57 g_b52
    have Z58 : n0 ≤ h58.size := Nat.le_trans Z57 (Keep.of_wr W58).1
    refine own_w (T' := T58) (g' := (mkF m 64 #[.val (.int sel), .val (.int p0), .val (.int p1), .val (.int p2), .val (.int (3 : Int32)), .val (.ref b52), .val (.ref b53), .unset] [])) st58 ?_
    have B58 := own_Ar_other V57 W58 ne.symm
    have Xa58 := Xa57.wr W58
    have Xb58 := Xb57.wr W58
    refine own_w (T' := T58) (g' := (mkF m 66 #[.val (.int sel), .val (.int p0), .val (.int p1), .val (.int p2), .val (.int (3 : Int32)), .val (.ref b52), .val (.ref b53), .unset] [(.ref b53)])) (fun _ k_ => XS.aload X58.here hx rfl (hb hby at_64) rfl rfl k_) ?_
    refine own_w (T' := T58) (g' := (mkF m 67 #[.val (.int sel), .val (.int p0), .val (.int p1), .val (.int p2), .val (.int (3 : Int32)), .val (.ref b52), .val (.ref b53), .unset] [(.int (2 : Int32)), (.ref b53)])) (fun _ k_ => XS.iconst X58.here hx rfl (hb hby at_66) k_) ?_
    refine own_w (T' := T58) (g' := (mkF m 68 #[.val (.int sel), .val (.int p0), .val (.int p1), .val (.int p2), .val (.int (3 : Int32)), .val (.ref b52), .val (.ref b53), .unset] [(.int p2), (.int (2 : Int32)), (.ref b53)])) (fun _ k_ => XS.iloadN X58.here hx rfl (hb hby at_67) rfl k_) ?_
    refine own_w (T' := T58) (g' := (mkF m 69 #[.val (.int sel), .val (.int p0), .val (.int p1), .val (.int p2), .val (.int (3 : Int32)), .val (.ref b52), .val (.ref b53), .unset] [(.int (p2.toInt8.toInt32)), (.int (2 : Int32)), (.ref b53)])) (fun _ k_ => XS.i2b X58.here hx rfl (hb hby at_68) rfl k_) ?_
    obtain ⟨cl59, Ar59, hs59⟩ := id B58
    obtain ⟨T59, h59, X59, e59, W59, st59⟩ := stB X58 hx hZ e58 Ar59 (j := (2 : Int32)) (own_Ar_in (i := 2) hs59 (by decide) (by simp)) (g := (mkF m 69 #[.val (.int sel), .val (.int p0), .val (.int p1), .val (.int p2), .val (.int (3 : Int32)), .val (.ref b52), .val (.ref b53), .unset] [(.int (p2.toInt8.toInt32)), (.int (2 : Int32)), (.ref b53)])) rfl rfl (hb hby at_69)
    have V59 := own_Ar_set (i := 2) B58 W59 (by decide) (own_n8 _)
    have N59 := Fr.snoc X59 N58 g_b53
    have Z59 : n0 ≤ h59.size := Nat.le_trans Z58 (Keep.of_wr W59).1
    refine own_w (T' := T59) (g' := (mkF m 70 #[.val (.int sel), .val (.int p0), .val (.int p1), .val (.int p2), .val (.int (3 : Int32)), .val (.ref b52), .val (.ref b53), .unset] [])) st59 ?_
    have B59 := own_Ar_other V58 W59 ne
    have Xa59 := Xa58.wr W59
    have Xb59 := Xb58.wr W59
    refine own_w (T' := T59) (g' := (mkF m 72 #[.val (.int sel), .val (.int p0), .val (.int p1), .val (.int p2), .val (.int (3 : Int32)), .val (.ref b52), .val (.ref b53), .unset] [(.ref b52)])) (fun _ k_ => XS.aload X59.here hx rfl (hb hby at_70) rfl rfl k_) ?_
    have fc0 := own_f8 p0
    generalize hc0_ : p0.toInt8.toInt32 = c0 at *
    have fc1 := own_f8 p1
    generalize hc1_ : p1.toInt8.toInt32 = c1 at *
    have fc2 := own_f8 p2
    generalize hc2_ : p2.toInt8.toInt32 = c2 at *
    have Vg : own_Ar Z h59 b52 .byte [c0, c1, c2] := B59
    have Ve : own_Ar Z h59 b53 .byte [c0, c1, c2] := V59
    have hf : ∀ x ∈ [c0, c1, c2], fits .byte (.int x) = true := by simp [fc0, fc1, fc2]
    obtain ⟨_, _, ⟨T60, L60, k60, n60⟩, -, X60, ⟨Lc60, hQ60, l60, y60, z60⟩, st60⟩ := Jvm.LawKit.callS X59 hx (y := (⟨"com/example/adjacency/adjacency/wire/PrefixedBytes", "copyOf", "([B)Lcom/example/adjacency/adjacency/wire/PrefixedBytes;"⟩ : MethodName)) hown (mvT hZ (hw _ (List.mem_of_getElem? (i := 1) rfl))) (mvT hZ (hw _ (List.mem_of_getElem? (i := 2) rfl))) (mvT hZ (hw _ (List.mem_of_getElem? (i := 3) rfl))) (mvT hZ (hw _ (List.mem_of_getElem? (i := 4) rfl))) (by decide) (backOf (W := 0) (own_rm1_3 l Z a0 hw [] b52 c0 c1 c2 h59 n0 Z59 Vg Xa59 hf) hZ (hw _ (List.mem_of_getElem? (i := 4) rfl)) (hw _ (List.mem_of_getElem? (i := 3) rfl)) (by decide) (by decide)) (g := (mkF m 72 #[.val (.int sel), .val (.int p0), .val (.int p1), .val (.int p2), .val (.int (3 : Int32)), .val (.ref b52), .val (.ref b53), .unset] [(.ref b52)])) rfl (by rw [hml]; rfl) (argsL := [(.ref b52)]) (rest := []) (lenOf own_pd5 rfl) rfl (by show 2 * 0 + _ ≤ _; exact Nat.le_of_eq rfl) (hb hby at_72) (fun _ _ => ⟨rfl, e59, (by decide : 2 + 2 ≤ _), (by decide : 6 + 6 ≤ _)⟩)
    dsimp only [Pt.U, Pt.locs, Pt.cells, Pt.slots] at X60 l60 y60 z60 st60 hQ60
    subst l60 y60 z60
    obtain ⟨h60, e60⟩ : ∃ h, T60.heap = h := ⟨_, rfl⟩
    rw [e60] at hQ60
    obtain ⟨rfl, N60q, K60, EP60, ar, lt60, P600, P601, P602, VA60, XA60⟩ := hQ60
    have N60 := Fr.app N59 N60q
    refine own_w (T' := T60) (g' := (mkF m 75 #[.val (.int sel), .val (.int p0), .val (.int p1), .val (.int p2), .val (.int (3 : Int32)), .val (.ref b52), .val (.ref b53), .unset] [(.ref h59.size)])) st60 ?_
    have Z60 : n0 ≤ h60.size := Nat.le_trans Z59 K60.1
    generalize hp : h59.size = pp at *
    have Vg60 := own_Ar_keep Vg K60 (by simp)
    have Ve60 := own_Ar_keep Ve K60 (by simp)
    have na : ar ≠ b52 := fun q => Nat.lt_irrefl _ (Nat.lt_trans (hp ▸ own_Ar_lt Vg) (q ▸ lt60))
    have np : pp ≠ b52 := fun q => Nat.lt_irrefl _ (q ▸ hp ▸ own_Ar_lt Vg)
    refine own_w (T' := T60) (g' := (mkF m 77 #[.val (.int sel), .val (.int p0), .val (.int p1), .val (.int p2), .val (.int (3 : Int32)), .val (.ref b52), .val (.ref b53), .val (.ref pp)] [])) (fun _ k_ => XS.astore X60.here hx rfl (hb hby at_75) rfl rfl (l' := #[.val (.int sel), .val (.int p0), .val (.int p1), .val (.int p2), .val (.int (3 : Int32)), .val (.ref b52), .val (.ref b53), .val (.ref pp)]) rfl k_) ?_
    refine own_w (T' := T60) (g' := (mkF m 79 #[.val (.int sel), .val (.int p0), .val (.int p1), .val (.int p2), .val (.int (3 : Int32)), .val (.ref b52), .val (.ref b53), .val (.ref pp)] [(.ref b52)])) (fun _ k_ => XS.aload X60.here hx rfl (hb hby at_77) rfl rfl k_) ?_
    refine own_w (T' := T60) (g' := (mkF m 81 #[.val (.int sel), .val (.int p0), .val (.int p1), .val (.int p2), .val (.int (3 : Int32)), .val (.ref b52), .val (.ref b53), .val (.ref pp)] [(.ref b53), (.ref b52)])) (fun _ k_ => XS.aload X60.here hx rfl (hb hby at_79) rfl rfl k_) ?_
    refine own_w (T' := T60) (g' := (mkF m 83 #[.val (.int sel), .val (.int p0), .val (.int p1), .val (.int p2), .val (.int (3 : Int32)), .val (.ref b52), .val (.ref b53), .val (.ref pp)] [(.int (3 : Int32)), (.ref b53), (.ref b52)])) (fun _ k_ => XS.iload X60.here hx rfl (hb hby at_81) rfl k_) ?_
    obtain ⟨_, _, ⟨T61, L61, k61, n61⟩, -, X61, ⟨Lc61, hQ61, l61, y61, z61⟩, st61⟩ := Jvm.LawKit.callS X60 hx (y := (⟨"com/example/adjacency/adjacency/wire/PrefixedBytesCopyOfPinLaw", "same", "([B[BI)Z"⟩ : MethodName)) hown (mvT hZ (hw _ (List.mem_of_getElem? (i := 28) rfl))) (mvT hZ (hw _ (List.mem_of_getElem? (i := 29) rfl))) (mvT hZ (hw _ (List.mem_of_getElem? (i := 30) rfl))) (mvT hZ (hw _ (List.mem_of_getElem? (i := 31) rfl))) (by decide) (backOf (W := 0) (own_rm4_3 l Z a0 hw [] b52 b53 c0 c1 c2 c0 c1 c2 h60 n0 Z60 Vg60 Ve60) hZ (hw _ (List.mem_of_getElem? (i := 31) rfl)) (hw _ (List.mem_of_getElem? (i := 30) rfl)) (by decide) (by decide)) (g := (mkF m 83 #[.val (.int sel), .val (.int p0), .val (.int p1), .val (.int p2), .val (.int (3 : Int32)), .val (.ref b52), .val (.ref b53), .val (.ref pp)] [(.int (3 : Int32)), (.ref b53), (.ref b52)])) rfl (by rw [hml]; rfl) (argsL := [(.ref b52), (.ref b53), (.int (3 : Int32))]) (rest := []) (lenOf own_pd6 rfl) rfl (by show 2 * 0 + _ ≤ _; exact Nat.le_of_eq rfl) (hb hby at_83) (fun _ _ => ⟨rfl, e60, (by decide : 4 + 0 ≤ _), (by decide : 12 + 0 ≤ _)⟩)
    dsimp only [Pt.U, Pt.locs, Pt.cells, Pt.slots] at X61 l61 y61 z61 st61 hQ61
    subst l61 y61 z61
    obtain ⟨rfl, N61q, e61⟩ := hQ61
    have N61 := Fr.app N60 N61q
    refine own_w (T' := T61) (g' := (mkF m 86 #[.val (.int sel), .val (.int p0), .val (.int p1), .val (.int p2), .val (.int (3 : Int32)), .val (.ref b52), .val (.ref b53), .val (.ref pp)] [(.int (if ([c0, c1, c2] = [c0, c1, c2]) then (1 : Int32) else 0))])) st61 ?_
    refine own_w (T' := T61) (g' := (mkF m 91 #[.val (.int sel), .val (.int p0), .val (.int p1), .val (.int p2), .val (.int (3 : Int32)), .val (.ref b52), .val (.ref b53), .val (.ref pp)] [])) (fun _ k_ => XS.ifYes X61.here hx rfl (pc0 := 86) (pc' := 91) rfl (hb hby at_86) rfl ((if0 _ _).trans (feq (fun q => (own_ite0.mp q) (show (([c0, c1, c2] = [c0, c1, c2])) from rfl))).2) (by decide) (by decide) k_) ?_
    refine own_w (T' := T61) (g' := (mkF m 93 #[.val (.int sel), .val (.int p0), .val (.int p1), .val (.int p2), .val (.int (3 : Int32)), .val (.ref b52), .val (.ref b53), .val (.ref pp)] [(.ref pp)])) (fun _ k_ => XS.aload X61.here hx rfl (hb hby at_91) rfl rfl k_) ?_
    obtain ⟨cq62, kq62, q62a, q62b, q62c⟩ := isOf hZ e61 EP60
    obtain ⟨_, _, ⟨T62, L62, k62, n62⟩, -, X62, ⟨Lc62, hQ62, l62, y62, z62⟩, st62⟩ := X61.virtualBack hx (y := (⟨"com/example/adjacency/adjacency/wire/PrefixedBytes", "length", "()I"⟩ : MethodName)) (z := (⟨"com/example/adjacency/adjacency/wire/PrefixedBytes", "length", "()I"⟩ : MethodName)) hown (mvT hZ (hw _ (List.mem_of_getElem? (i := 32) rfl))) (mvT hZ (hw _ (List.mem_of_getElem? (i := 33) rfl))) (notFace_of_selects (args := #[]) (mvT hZ (hw _ (List.mem_of_getElem? (i := 35) rfl)))) (mvT hZ (hw _ (List.mem_of_getElem? (i := 35) rfl))) (mvT hZ (hw _ (List.mem_of_getElem? (i := 34) rfl))) (by decide) (backOf (W := 0) (own_rm5_3 l Z a0 hw [] pp  h60 n0 Z60 P602) hZ (hw _ (List.mem_of_getElem? (i := 36) rfl)) (hw _ (List.mem_of_getElem? (i := 3) rfl)) (by decide) (by decide)) q62a q62c (g := (mkF m 93 #[.val (.int sel), .val (.int p0), .val (.int p1), .val (.int p2), .val (.int (3 : Int32)), .val (.ref b52), .val (.ref b53), .val (.ref pp)] [(.ref pp)])) rfl (by rw [hml]; rfl) (Steps.refl _) (argsL := []) (rest := []) (lenOf own_pd7 rfl) rfl (by show 2 * 0 + _ ≤ _; exact Nat.le_of_eq rfl) (hb hby at_93) (fun _ _ => ⟨rfl, e61, (by decide : 4 + 0 ≤ _), (by decide : 12 + 0 ≤ _)⟩)
    dsimp only [Pt.U, Pt.locs, Pt.cells, Pt.slots] at X62 l62 y62 z62 st62 hQ62
    subst l62 y62 z62
    obtain ⟨rfl, N62q, e62⟩ := hQ62
    have N62 := Fr.app N61 N62q
    refine own_t (T' := T62) (g' := (mkF m 96 #[.val (.int sel), .val (.int p0), .val (.int p1), .val (.int p2), .val (.int (3 : Int32)), .val (.ref b52), .val (.ref b53), .val (.ref pp)] [(.int (3 : Int32))])) st62 ?_
    refine own_w (T' := T62) (g' := (mkF m 98 #[.val (.int sel), .val (.int p0), .val (.int p1), .val (.int p2), .val (.int (3 : Int32)), .val (.ref b52), .val (.ref b53), .val (.ref pp)] [(.int (3 : Int32)), (.int (3 : Int32))])) (fun _ k_ => XS.iload X62.here hx rfl (hb hby at_96) rfl k_) ?_
    refine own_w (T' := T62) (g' := (mkF m 103 #[.val (.int sel), .val (.int p0), .val (.int p1), .val (.int p2), .val (.int (3 : Int32)), .val (.ref b52), .val (.ref b53), .val (.ref pp)] [])) (fun _ k_ => XS.icmpYes X62.here hx rfl (pc0 := 98) (pc' := 103) rfl (hb hby at_98) rfl (teq rfl).1 (by decide) (by decide) k_) ?_
    refine own_w (T' := T62) (g' := (mkF m 105 #[.val (.int sel), .val (.int p0), .val (.int p1), .val (.int p2), .val (.int (3 : Int32)), .val (.ref b52), .val (.ref b53), .val (.ref pp)] [(.ref pp)])) (fun _ k_ => XS.aload X62.here hx rfl (hb hby at_103) rfl rfl k_) ?_
    obtain ⟨cq63, kq63, q63a, q63b, q63c⟩ := isOf hZ e62 EP60
    obtain ⟨_, _, ⟨T63, L63, k63, n63⟩, -, X63, ⟨Lc63, hQ63, l63, y63, z63⟩, st63⟩ := X62.virtualBack hx (y := (⟨"com/example/adjacency/adjacency/wire/PrefixedBytes", "prefixedLength", "()I"⟩ : MethodName)) (z := (⟨"com/example/adjacency/adjacency/wire/PrefixedBytes", "prefixedLength", "()I"⟩ : MethodName)) hown (mvT hZ (hw _ (List.mem_of_getElem? (i := 37) rfl))) (mvT hZ (hw _ (List.mem_of_getElem? (i := 38) rfl))) (notFace_of_selects (args := #[]) (mvT hZ (hw _ (List.mem_of_getElem? (i := 40) rfl)))) (mvT hZ (hw _ (List.mem_of_getElem? (i := 40) rfl))) (mvT hZ (hw _ (List.mem_of_getElem? (i := 39) rfl))) (by decide) (backOf (W := 0) (own_rm6_3 l Z a0 hw [] pp  h60 n0 Z60 P602) hZ (hw _ (List.mem_of_getElem? (i := 41) rfl)) (hw _ (List.mem_of_getElem? (i := 3) rfl)) (by decide) (by decide)) q63a q63c (g := (mkF m 105 #[.val (.int sel), .val (.int p0), .val (.int p1), .val (.int p2), .val (.int (3 : Int32)), .val (.ref b52), .val (.ref b53), .val (.ref pp)] [(.ref pp)])) rfl (by rw [hml]; rfl) (Steps.refl _) (argsL := []) (rest := []) (lenOf own_pd7 rfl) rfl (by show 2 * 0 + _ ≤ _; exact Nat.le_of_eq rfl) (hb hby at_105) (fun _ _ => ⟨rfl, e62, (by decide : 4 + 0 ≤ _), (by decide : 12 + 0 ≤ _)⟩)
    dsimp only [Pt.U, Pt.locs, Pt.cells, Pt.slots] at X63 l63 y63 z63 st63 hQ63
    subst l63 y63 z63
    obtain ⟨rfl, N63q, e63⟩ := hQ63
    have N63 := Fr.app N62 N63q
    refine own_t (T' := T63) (g' := (mkF m 108 #[.val (.int sel), .val (.int p0), .val (.int p1), .val (.int p2), .val (.int (3 : Int32)), .val (.ref b52), .val (.ref b53), .val (.ref pp)] [(.int (5 : Int32))])) st63 ?_
    refine own_w (T' := T63) (g' := (mkF m 110 #[.val (.int sel), .val (.int p0), .val (.int p1), .val (.int p2), .val (.int (3 : Int32)), .val (.ref b52), .val (.ref b53), .val (.ref pp)] [(.int (3 : Int32)), (.int (5 : Int32))])) (fun _ k_ => XS.iload X63.here hx rfl (hb hby at_108) rfl k_) ?_
    refine own_w (T' := T63) (g' := (mkF m 111 #[.val (.int sel), .val (.int p0), .val (.int p1), .val (.int p2), .val (.int (3 : Int32)), .val (.ref b52), .val (.ref b53), .val (.ref pp)] [(.int (2 : Int32)), (.int (3 : Int32)), (.int (5 : Int32))])) (fun _ k_ => XS.iconst X63.here hx rfl (hb hby at_110) k_) ?_
    refine own_w (T' := T63) (g' := (mkF m 112 #[.val (.int sel), .val (.int p0), .val (.int p1), .val (.int p2), .val (.int (3 : Int32)), .val (.ref b52), .val (.ref b53), .val (.ref pp)] [(.int (5 : Int32)), (.int (5 : Int32))])) (fun _ k_ => XS.iadd X63.here hx rfl (hb hby at_111) rfl k_) ?_
    refine own_w (T' := T63) (g' := (mkF m 117 #[.val (.int sel), .val (.int p0), .val (.int p1), .val (.int p2), .val (.int (3 : Int32)), .val (.ref b52), .val (.ref b53), .val (.ref pp)] [])) (fun _ k_ => XS.icmpYes X63.here hx rfl (pc0 := 112) (pc' := 117) rfl (hb hby at_112) rfl (teq rfl).1 (by decide) (by decide) k_) ?_
    refine own_w (T' := T63) (g' := (mkF m 119 #[.val (.int sel), .val (.int p0), .val (.int p1), .val (.int p2), .val (.int (3 : Int32)), .val (.ref b52), .val (.ref b53), .val (.ref pp)] [(.ref pp)])) (fun _ k_ => XS.aload X63.here hx rfl (hb hby at_117) rfl rfl k_) ?_
    obtain ⟨cq64, kq64, q64a, q64b, q64c⟩ := isOf hZ e63 EP60
    obtain ⟨_, _, ⟨T64, L64, k64, n64⟩, -, X64, ⟨Lc64, hQ64, l64, y64, z64⟩, st64⟩ := X63.virtualBack hx (y := (⟨"com/example/adjacency/adjacency/wire/PrefixedBytes", "toArray", "()[B"⟩ : MethodName)) (z := (⟨"com/example/adjacency/adjacency/wire/PrefixedBytes", "toArray", "()[B"⟩ : MethodName)) hown (mvT hZ (hw _ (List.mem_of_getElem? (i := 42) rfl))) (mvT hZ (hw _ (List.mem_of_getElem? (i := 43) rfl))) (notFace_of_selects (args := #[]) (mvT hZ (hw _ (List.mem_of_getElem? (i := 45) rfl)))) (mvT hZ (hw _ (List.mem_of_getElem? (i := 45) rfl))) (mvT hZ (hw _ (List.mem_of_getElem? (i := 44) rfl))) (by decide) (backOf (W := 0) (own_rm7_3 l Z a0 hw [] pp ar c0 c1 c2 h60 n0 Z60 P600 P601 P602 VA60 XA60 hf) hZ (hw _ (List.mem_of_getElem? (i := 46) rfl)) (hw _ (List.mem_of_getElem? (i := 3) rfl)) (by decide) (by decide)) q64a q64c (g := (mkF m 119 #[.val (.int sel), .val (.int p0), .val (.int p1), .val (.int p2), .val (.int (3 : Int32)), .val (.ref b52), .val (.ref b53), .val (.ref pp)] [(.ref pp)])) rfl (by rw [hml]; rfl) (Steps.refl _) (argsL := []) (rest := []) (lenOf own_pd8 rfl) rfl (by show 2 * 0 + _ ≤ _; exact Nat.le_of_eq rfl) (hb hby at_119) (fun _ _ => ⟨rfl, e63, (by decide : 4 + 1 ≤ _), (by decide : 12 + 3 ≤ _)⟩)
    dsimp only [Pt.U, Pt.locs, Pt.cells, Pt.slots] at X64 l64 y64 z64 st64 hQ64
    subst l64 y64 z64
    obtain ⟨h64, e64⟩ : ∃ h, T64.heap = h := ⟨_, rfl⟩
    rw [e64] at hQ64
    obtain ⟨rfl, N64q, K64, VN64⟩ := hQ64
    have N64 := Fr.app N63 N64q
    refine own_t (T' := T64) (g' := (mkF m 122 #[.val (.int sel), .val (.int p0), .val (.int p1), .val (.int p2), .val (.int (3 : Int32)), .val (.ref b52), .val (.ref b53), .val (.ref pp)] [(.ref h60.size)])) st64 ?_
    have Z64 : n0 ≤ h64.size := Nat.le_trans Z60 K64.1
    have VA_64 := own_Ar_keep VA60 K64 (by simp)
    have Vg_64 := own_Ar_keep Vg60 K64 (by simp)
    have Ve_64 := own_Ar_keep Ve60 K64 (by simp)
    have XA_64 := XA60.keep K64
    have E_64 := EP60.keep K64
    have F_64_0 := P600.keep K64 (by simp)
    have F_64_1 := P601.keep K64 (by simp)
    have F_64_2 := P602.keep K64 (by simp)
    refine own_w (T' := T64) (g' := (mkF m 124 #[.val (.int sel), .val (.int p0), .val (.int p1), .val (.int p2), .val (.int (3 : Int32)), .val (.ref b52), .val (.ref b53), .val (.ref pp)] [(.ref b53), (.ref h60.size)])) (fun _ k_ => XS.aload X64.here hx rfl (hb hby at_122) rfl rfl k_) ?_
    refine own_w (T' := T64) (g' := (mkF m 126 #[.val (.int sel), .val (.int p0), .val (.int p1), .val (.int p2), .val (.int (3 : Int32)), .val (.ref b52), .val (.ref b53), .val (.ref pp)] [(.int (3 : Int32)), (.ref b53), (.ref h60.size)])) (fun _ k_ => XS.iload X64.here hx rfl (hb hby at_124) rfl k_) ?_
    obtain ⟨_, _, ⟨T65, L65, k65, n65⟩, -, X65, ⟨Lc65, hQ65, l65, y65, z65⟩, st65⟩ := Jvm.LawKit.callS X64 hx (y := (⟨"com/example/adjacency/adjacency/wire/PrefixedBytesCopyOfPinLaw", "same", "([B[BI)Z"⟩ : MethodName)) hown (mvT hZ (hw _ (List.mem_of_getElem? (i := 28) rfl))) (mvT hZ (hw _ (List.mem_of_getElem? (i := 29) rfl))) (mvT hZ (hw _ (List.mem_of_getElem? (i := 30) rfl))) (mvT hZ (hw _ (List.mem_of_getElem? (i := 31) rfl))) (by decide) (backOf (W := 0) (own_rm4_3 l Z a0 hw [] h60.size b53 c0 c1 c2 c0 c1 c2 h64 n0 Z64 VN64 Ve_64) hZ (hw _ (List.mem_of_getElem? (i := 31) rfl)) (hw _ (List.mem_of_getElem? (i := 30) rfl)) (by decide) (by decide)) (g := (mkF m 126 #[.val (.int sel), .val (.int p0), .val (.int p1), .val (.int p2), .val (.int (3 : Int32)), .val (.ref b52), .val (.ref b53), .val (.ref pp)] [(.int (3 : Int32)), (.ref b53), (.ref h60.size)])) rfl (by rw [hml]; rfl) (argsL := [(.ref h60.size), (.ref b53), (.int (3 : Int32))]) (rest := []) (lenOf own_pd6 rfl) rfl (by show 2 * 0 + _ ≤ _; exact Nat.le_of_eq rfl) (hb hby at_126) (fun _ _ => ⟨rfl, e64, (by decide : 5 + 0 ≤ _), (by decide : 15 + 0 ≤ _)⟩)
    dsimp only [Pt.U, Pt.locs, Pt.cells, Pt.slots] at X65 l65 y65 z65 st65 hQ65
    subst l65 y65 z65
    obtain ⟨rfl, N65q, e65⟩ := hQ65
    have N65 := Fr.app N64 N65q
    refine own_w (T' := T65) (g' := (mkF m 129 #[.val (.int sel), .val (.int p0), .val (.int p1), .val (.int p2), .val (.int (3 : Int32)), .val (.ref b52), .val (.ref b53), .val (.ref pp)] [(.int (if ([c0, c1, c2] = [c0, c1, c2]) then (1 : Int32) else 0))])) st65 ?_
    refine own_w (T' := T65) (g' := (mkF m 134 #[.val (.int sel), .val (.int p0), .val (.int p1), .val (.int p2), .val (.int (3 : Int32)), .val (.ref b52), .val (.ref b53), .val (.ref pp)] [])) (fun _ k_ => XS.ifYes X65.here hx rfl (pc0 := 129) (pc' := 134) rfl (hb hby at_129) rfl ((if0 _ _).trans (feq (fun q => (own_ite0.mp q) (show (([c0, c1, c2] = [c0, c1, c2])) from rfl))).2) (by decide) (by decide) k_) ?_
    refine own_w (T' := T65) (g' := (mkF m 136 #[.val (.int sel), .val (.int p0), .val (.int p1), .val (.int p2), .val (.int (3 : Int32)), .val (.ref b52), .val (.ref b53), .val (.ref pp)] [(.ref pp)])) (fun _ k_ => XS.aload X65.here hx rfl (hb hby at_134) rfl rfl k_) ?_
    refine own_w (T' := T65) (g' := (mkF m 138 #[.val (.int sel), .val (.int p0), .val (.int p1), .val (.int p2), .val (.int (3 : Int32)), .val (.ref b52), .val (.ref b53), .val (.ref pp)] [(.ref b53), (.ref pp)])) (fun _ k_ => XS.aload X65.here hx rfl (hb hby at_136) rfl rfl k_) ?_
    obtain ⟨cq66, kq66, q66a, q66b, q66c⟩ := isOf hZ e65 E_64
    obtain ⟨_, _, ⟨T66, L66, k66, n66⟩, -, X66, ⟨Lc66, hQ66, l66, y66, z66⟩, st66⟩ := X65.virtualBack hx (y := (⟨"com/example/adjacency/adjacency/wire/PrefixedBytes", "isSameAs", "([B)Z"⟩ : MethodName)) (z := (⟨"com/example/adjacency/adjacency/wire/PrefixedBytes", "isSameAs", "([B)Z"⟩ : MethodName)) hown (mvT hZ (hw _ (List.mem_of_getElem? (i := 53) rfl))) (mvT hZ (hw _ (List.mem_of_getElem? (i := 54) rfl))) (notFace_of_selects (args := #[]) (mvT hZ (hw _ (List.mem_of_getElem? (i := 56) rfl)))) (mvT hZ (hw _ (List.mem_of_getElem? (i := 56) rfl))) (mvT hZ (hw _ (List.mem_of_getElem? (i := 55) rfl))) (by decide) (backOf (W := 0) (own_rm9_3 l Z a0 hw [] pp b53 ar c0 c1 c2 c0 c1 c2 h64 n0 Z64 F_64_0 F_64_1 F_64_2 VA_64 Ve_64) hZ (hw _ (List.mem_of_getElem? (i := 57) rfl)) (hw _ (List.mem_of_getElem? (i := 3) rfl)) (by decide) (by decide)) q66a q66c (g := (mkF m 138 #[.val (.int sel), .val (.int p0), .val (.int p1), .val (.int p2), .val (.int (3 : Int32)), .val (.ref b52), .val (.ref b53), .val (.ref pp)] [(.ref b53), (.ref pp)])) rfl (by rw [hml]; rfl) (Steps.refl _) (argsL := [(.ref b53)]) (rest := []) (lenOf own_pd9 rfl) rfl (by show 2 * 0 + _ ≤ _; exact Nat.le_of_eq rfl) (hb hby at_138) (fun _ _ => ⟨rfl, e65, (by decide : 5 + 0 ≤ _), (by decide : 15 + 0 ≤ _)⟩)
    dsimp only [Pt.U, Pt.locs, Pt.cells, Pt.slots] at X66 l66 y66 z66 st66 hQ66
    subst l66 y66 z66
    obtain ⟨rfl, N66q, e66⟩ := hQ66
    have N66 := Fr.app N65 N66q
    refine own_t (T' := T66) (g' := (mkF m 141 #[.val (.int sel), .val (.int p0), .val (.int p1), .val (.int p2), .val (.int (3 : Int32)), .val (.ref b52), .val (.ref b53), .val (.ref pp)] [(.int (if ([c0, c1, c2] = [c0, c1, c2]) then (1 : Int32) else 0))])) st66 ?_
    refine own_w (T' := T66) (g' := (mkF m 146 #[.val (.int sel), .val (.int p0), .val (.int p1), .val (.int p2), .val (.int (3 : Int32)), .val (.ref b52), .val (.ref b53), .val (.ref pp)] [])) (fun _ k_ => XS.ifYes X66.here hx rfl (pc0 := 141) (pc' := 146) rfl (hb hby at_141) rfl ((if0 _ _).trans (feq (fun q => (own_ite0.mp q) (show (([c0, c1, c2] = [c0, c1, c2])) from rfl))).2) (by decide) (by decide) k_) ?_
    refine own_w (T' := T66) (g' := (mkF m 148 #[.val (.int sel), .val (.int p0), .val (.int p1), .val (.int p2), .val (.int (3 : Int32)), .val (.ref b52), .val (.ref b53), .val (.ref pp)] [(.int (3 : Int32))])) (fun _ k_ => XS.iload X66.here hx rfl (hb hby at_146) rfl k_) ?_
    refine own_w (T' := T66) (g' := (mkF m 151 #[.val (.int sel), .val (.int p0), .val (.int p1), .val (.int p2), .val (.int (3 : Int32)), .val (.ref b52), .val (.ref b53), .val (.ref pp)] [])) (fun _ k_ => XS.ifNo X66.here hx rfl (hb hby at_148) rfl ((if0 _ _).trans (tlt (by decide)).2.2.2) k_) ?_
    refine own_w (T' := T66) (g' := (mkF m 153 #[.val (.int sel), .val (.int p0), .val (.int p1), .val (.int p2), .val (.int (3 : Int32)), .val (.ref b52), .val (.ref b53), .val (.ref pp)] [(.ref b52)])) (fun _ k_ => XS.aload X66.here hx rfl (hb hby at_151) rfl rfl k_) ?_
    refine own_w (T' := T66) (g' := (mkF m 154 #[.val (.int sel), .val (.int p0), .val (.int p1), .val (.int p2), .val (.int (3 : Int32)), .val (.ref b52), .val (.ref b53), .val (.ref pp)] [(.int (0 : Int32)), (.ref b52)])) (fun _ k_ => XS.iconst X66.here hx rfl (hb hby at_153) k_) ?_
    refine own_w (T' := T66) (g' := (mkF m 156 #[.val (.int sel), .val (.int p0), .val (.int p1), .val (.int p2), .val (.int (3 : Int32)), .val (.ref b52), .val (.ref b53), .val (.ref pp)] [(.ref b52), (.int (0 : Int32)), (.ref b52)])) (fun _ k_ => XS.aload X66.here hx rfl (hb hby at_154) rfl rfl k_) ?_
    refine own_w (T' := T66) (g' := (mkF m 157 #[.val (.int sel), .val (.int p0), .val (.int p1), .val (.int p2), .val (.int (3 : Int32)), .val (.ref b52), .val (.ref b53), .val (.ref pp)] [(.int (0 : Int32)), (.ref b52), (.int (0 : Int32)), (.ref b52)])) (fun _ k_ => XS.iconst X66.here hx rfl (hb hby at_156) k_) ?_
    obtain ⟨cl67, Ar67, hs67⟩ := id Vg_64
    refine own_w (T' := T66) (g' := (mkF m 158 #[.val (.int sel), .val (.int p0), .val (.int p1), .val (.int p2), .val (.int (3 : Int32)), .val (.ref b52), .val (.ref b53), .val (.ref pp)] [(.int c0), (.int (0 : Int32)), (.ref b52)])) (fun t_ k_ => X66.baloadBytes hx (j := (0 : Int32)) (v := .int c0) (by rw [e66]; exact Ar67.1) (State.isArrayOf_alike hZ.alike Ar67.2.1) Ar67.2.2 (own_Ar_in (i := 0) hs67 (by decide) (own_get_lt (show _ = some c0 from rfl))) (own_Ar_at (i := 0) hs67 (by decide) (show _ = some c0 from rfl)) (g := (mkF m 157 #[.val (.int sel), .val (.int p0), .val (.int p1), .val (.int p2), .val (.int (3 : Int32)), .val (.ref b52), .val (.ref b53), .val (.ref pp)] [(.int (0 : Int32)), (.ref b52), (.int (0 : Int32)), (.ref b52)])) rfl rfl (hb hby at_157) t_ k_) ?_
    refine own_w (T' := T66) (g' := (mkF m 159 #[.val (.int sel), .val (.int p0), .val (.int p1), .val (.int p2), .val (.int (3 : Int32)), .val (.ref b52), .val (.ref b53), .val (.ref pp)] [(.int (-1 : Int32)), (.int c0), (.int (0 : Int32)), (.ref b52)])) (fun _ k_ => XS.iconst X66.here hx rfl (hb hby at_158) k_) ?_
    refine own_w (T' := T66) (g' := (mkF m 160 #[.val (.int sel), .val (.int p0), .val (.int p1), .val (.int p2), .val (.int (3 : Int32)), .val (.ref b52), .val (.ref b53), .val (.ref pp)] [(.int (c0 ^^^ (-1 : Int32))), (.int (0 : Int32)), (.ref b52)])) (fun _ k_ => XS.ixor X66.here hx rfl (hb hby at_159) rfl k_) ?_
    refine own_w (T' := T66) (g' := (mkF m 161 #[.val (.int sel), .val (.int p0), .val (.int p1), .val (.int p2), .val (.int (3 : Int32)), .val (.ref b52), .val (.ref b53), .val (.ref pp)] [(.int ((c0 ^^^ (-1 : Int32)).toInt8.toInt32)), (.int (0 : Int32)), (.ref b52)])) (fun _ k_ => XS.i2b X66.here hx rfl (hb hby at_160) rfl k_) ?_
    obtain ⟨cl68, Ar68, hs68⟩ := id Vg_64
    obtain ⟨T68, h68, X68, e68, W68, st68⟩ := stB X66 hx hZ e66 Ar68 (j := (0 : Int32)) (own_Ar_in (i := 0) hs68 (by decide) (by simp)) (g := (mkF m 161 #[.val (.int sel), .val (.int p0), .val (.int p1), .val (.int p2), .val (.int (3 : Int32)), .val (.ref b52), .val (.ref b53), .val (.ref pp)] [(.int ((c0 ^^^ (-1 : Int32)).toInt8.toInt32)), (.int (0 : Int32)), (.ref b52)])) rfl rfl (hb hby at_161)
    have V68 := own_Ar_set (i := 0) Vg_64 W68 (by decide) (own_n8 _)
    have N68 := Fr.snoc X68 N66 g_b52
    have Z68 : n0 ≤ h68.size := Nat.le_trans Z64 (Keep.of_wr W68).1
    refine own_w (T' := T68) (g' := (mkF m 162 #[.val (.int sel), .val (.int p0), .val (.int p1), .val (.int p2), .val (.int (3 : Int32)), .val (.ref b52), .val (.ref b53), .val (.ref pp)] [])) st68 ?_
    have VA_68 := own_Ar_other VA_64 W68 na
    have Ve_68 := own_Ar_other Ve_64 W68 ne.symm
    have XA_68 := XA_64.wr W68
    have E_68 := E_64.wr W68
    have F_68_0 := F_64_0.other W68 (Or.inl np)
    have F_68_1 := F_64_1.other W68 (Or.inl np)
    have F_68_2 := F_64_2.other W68 (Or.inl np)
    refine own_w (T' := T68) (g' := (mkF m 164 #[.val (.int sel), .val (.int p0), .val (.int p1), .val (.int p2), .val (.int (3 : Int32)), .val (.ref b52), .val (.ref b53), .val (.ref pp)] [(.int (3 : Int32))])) (fun _ k_ => XS.iload X68.here hx rfl (hb hby at_162) rfl k_) ?_
    refine own_w (T' := T68) (g' := (mkF m 165 #[.val (.int sel), .val (.int p0), .val (.int p1), .val (.int p2), .val (.int (3 : Int32)), .val (.ref b52), .val (.ref b53), .val (.ref pp)] [(.int (1 : Int32)), (.int (3 : Int32))])) (fun _ k_ => XS.iconst X68.here hx rfl (hb hby at_164) k_) ?_
    refine own_w (T' := T68) (g' := (mkF m 168 #[.val (.int sel), .val (.int p0), .val (.int p1), .val (.int p2), .val (.int (3 : Int32)), .val (.ref b52), .val (.ref b53), .val (.ref pp)] [])) (fun _ k_ => XS.icmpNo X68.here hx rfl (hb hby at_165) rfl (tlt (by decide)).2.2.2 k_) ?_
    refine own_w (T' := T68) (g' := (mkF m 170 #[.val (.int sel), .val (.int p0), .val (.int p1), .val (.int p2), .val (.int (3 : Int32)), .val (.ref b52), .val (.ref b53), .val (.ref pp)] [(.ref b52)])) (fun _ k_ => XS.aload X68.here hx rfl (hb hby at_168) rfl rfl k_) ?_
    refine own_w (T' := T68) (g' := (mkF m 171 #[.val (.int sel), .val (.int p0), .val (.int p1), .val (.int p2), .val (.int (3 : Int32)), .val (.ref b52), .val (.ref b53), .val (.ref pp)] [(.int (1 : Int32)), (.ref b52)])) (fun _ k_ => XS.iconst X68.here hx rfl (hb hby at_170) k_) ?_
    refine own_w (T' := T68) (g' := (mkF m 173 #[.val (.int sel), .val (.int p0), .val (.int p1), .val (.int p2), .val (.int (3 : Int32)), .val (.ref b52), .val (.ref b53), .val (.ref pp)] [(.ref b52), (.int (1 : Int32)), (.ref b52)])) (fun _ k_ => XS.aload X68.here hx rfl (hb hby at_171) rfl rfl k_) ?_
    refine own_w (T' := T68) (g' := (mkF m 174 #[.val (.int sel), .val (.int p0), .val (.int p1), .val (.int p2), .val (.int (3 : Int32)), .val (.ref b52), .val (.ref b53), .val (.ref pp)] [(.int (1 : Int32)), (.ref b52), (.int (1 : Int32)), (.ref b52)])) (fun _ k_ => XS.iconst X68.here hx rfl (hb hby at_173) k_) ?_
    obtain ⟨cl69, Ar69, hs69⟩ := id V68
    refine own_w (T' := T68) (g' := (mkF m 175 #[.val (.int sel), .val (.int p0), .val (.int p1), .val (.int p2), .val (.int (3 : Int32)), .val (.ref b52), .val (.ref b53), .val (.ref pp)] [(.int c1), (.int (1 : Int32)), (.ref b52)])) (fun t_ k_ => X68.baloadBytes hx (j := (1 : Int32)) (v := .int c1) (by rw [e68]; exact Ar69.1) (State.isArrayOf_alike hZ.alike Ar69.2.1) Ar69.2.2 (own_Ar_in (i := 1) hs69 (by decide) (own_get_lt (show _ = some c1 from rfl))) (own_Ar_at (i := 1) hs69 (by decide) (show _ = some c1 from rfl)) (g := (mkF m 174 #[.val (.int sel), .val (.int p0), .val (.int p1), .val (.int p2), .val (.int (3 : Int32)), .val (.ref b52), .val (.ref b53), .val (.ref pp)] [(.int (1 : Int32)), (.ref b52), (.int (1 : Int32)), (.ref b52)])) rfl rfl (hb hby at_174) t_ k_) ?_
    refine own_w (T' := T68) (g' := (mkF m 176 #[.val (.int sel), .val (.int p0), .val (.int p1), .val (.int p2), .val (.int (3 : Int32)), .val (.ref b52), .val (.ref b53), .val (.ref pp)] [(.int (-1 : Int32)), (.int c1), (.int (1 : Int32)), (.ref b52)])) (fun _ k_ => XS.iconst X68.here hx rfl (hb hby at_175) k_) ?_
    refine own_w (T' := T68) (g' := (mkF m 177 #[.val (.int sel), .val (.int p0), .val (.int p1), .val (.int p2), .val (.int (3 : Int32)), .val (.ref b52), .val (.ref b53), .val (.ref pp)] [(.int (c1 ^^^ (-1 : Int32))), (.int (1 : Int32)), (.ref b52)])) (fun _ k_ => XS.ixor X68.here hx rfl (hb hby at_176) rfl k_) ?_
    refine own_w (T' := T68) (g' := (mkF m 178 #[.val (.int sel), .val (.int p0), .val (.int p1), .val (.int p2), .val (.int (3 : Int32)), .val (.ref b52), .val (.ref b53), .val (.ref pp)] [(.int ((c1 ^^^ (-1 : Int32)).toInt8.toInt32)), (.int (1 : Int32)), (.ref b52)])) (fun _ k_ => XS.i2b X68.here hx rfl (hb hby at_177) rfl k_) ?_
    obtain ⟨cl70, Ar70, hs70⟩ := id V68
    obtain ⟨T70, h70, X70, e70, W70, st70⟩ := stB X68 hx hZ e68 Ar70 (j := (1 : Int32)) (own_Ar_in (i := 1) hs70 (by decide) (by simp)) (g := (mkF m 178 #[.val (.int sel), .val (.int p0), .val (.int p1), .val (.int p2), .val (.int (3 : Int32)), .val (.ref b52), .val (.ref b53), .val (.ref pp)] [(.int ((c1 ^^^ (-1 : Int32)).toInt8.toInt32)), (.int (1 : Int32)), (.ref b52)])) rfl rfl (hb hby at_178)
    have V70 := own_Ar_set (i := 1) V68 W70 (by decide) (own_n8 _)
    have N70 := Fr.snoc X70 N68 g_b52
    have Z70 : n0 ≤ h70.size := Nat.le_trans Z68 (Keep.of_wr W70).1
    refine own_w (T' := T70) (g' := (mkF m 179 #[.val (.int sel), .val (.int p0), .val (.int p1), .val (.int p2), .val (.int (3 : Int32)), .val (.ref b52), .val (.ref b53), .val (.ref pp)] [])) st70 ?_
    have VA_70 := own_Ar_other VA_68 W70 na
    have Ve_70 := own_Ar_other Ve_68 W70 ne.symm
    have XA_70 := XA_68.wr W70
    have E_70 := E_68.wr W70
    have F_70_0 := F_68_0.other W70 (Or.inl np)
    have F_70_1 := F_68_1.other W70 (Or.inl np)
    have F_70_2 := F_68_2.other W70 (Or.inl np)
    refine own_w (T' := T70) (g' := (mkF m 181 #[.val (.int sel), .val (.int p0), .val (.int p1), .val (.int p2), .val (.int (3 : Int32)), .val (.ref b52), .val (.ref b53), .val (.ref pp)] [(.int (3 : Int32))])) (fun _ k_ => XS.iload X70.here hx rfl (hb hby at_179) rfl k_) ?_
    refine own_w (T' := T70) (g' := (mkF m 182 #[.val (.int sel), .val (.int p0), .val (.int p1), .val (.int p2), .val (.int (3 : Int32)), .val (.ref b52), .val (.ref b53), .val (.ref pp)] [(.int (2 : Int32)), (.int (3 : Int32))])) (fun _ k_ => XS.iconst X70.here hx rfl (hb hby at_181) k_) ?_
    refine own_w (T' := T70) (g' := (mkF m 185 #[.val (.int sel), .val (.int p0), .val (.int p1), .val (.int p2), .val (.int (3 : Int32)), .val (.ref b52), .val (.ref b53), .val (.ref pp)] [])) (fun _ k_ => XS.icmpNo X70.here hx rfl (hb hby at_182) rfl (tlt (by decide)).2.2.2 k_) ?_
    refine own_w (T' := T70) (g' := (mkF m 187 #[.val (.int sel), .val (.int p0), .val (.int p1), .val (.int p2), .val (.int (3 : Int32)), .val (.ref b52), .val (.ref b53), .val (.ref pp)] [(.ref b52)])) (fun _ k_ => XS.aload X70.here hx rfl (hb hby at_185) rfl rfl k_) ?_
    refine own_w (T' := T70) (g' := (mkF m 188 #[.val (.int sel), .val (.int p0), .val (.int p1), .val (.int p2), .val (.int (3 : Int32)), .val (.ref b52), .val (.ref b53), .val (.ref pp)] [(.int (2 : Int32)), (.ref b52)])) (fun _ k_ => XS.iconst X70.here hx rfl (hb hby at_187) k_) ?_
    refine own_w (T' := T70) (g' := (mkF m 190 #[.val (.int sel), .val (.int p0), .val (.int p1), .val (.int p2), .val (.int (3 : Int32)), .val (.ref b52), .val (.ref b53), .val (.ref pp)] [(.ref b52), (.int (2 : Int32)), (.ref b52)])) (fun _ k_ => XS.aload X70.here hx rfl (hb hby at_188) rfl rfl k_) ?_
    refine own_w (T' := T70) (g' := (mkF m 191 #[.val (.int sel), .val (.int p0), .val (.int p1), .val (.int p2), .val (.int (3 : Int32)), .val (.ref b52), .val (.ref b53), .val (.ref pp)] [(.int (2 : Int32)), (.ref b52), (.int (2 : Int32)), (.ref b52)])) (fun _ k_ => XS.iconst X70.here hx rfl (hb hby at_190) k_) ?_
    obtain ⟨cl71, Ar71, hs71⟩ := id V70
    refine own_w (T' := T70) (g' := (mkF m 192 #[.val (.int sel), .val (.int p0), .val (.int p1), .val (.int p2), .val (.int (3 : Int32)), .val (.ref b52), .val (.ref b53), .val (.ref pp)] [(.int c2), (.int (2 : Int32)), (.ref b52)])) (fun t_ k_ => X70.baloadBytes hx (j := (2 : Int32)) (v := .int c2) (by rw [e70]; exact Ar71.1) (State.isArrayOf_alike hZ.alike Ar71.2.1) Ar71.2.2 (own_Ar_in (i := 2) hs71 (by decide) (own_get_lt (show _ = some c2 from rfl))) (own_Ar_at (i := 2) hs71 (by decide) (show _ = some c2 from rfl)) (g := (mkF m 191 #[.val (.int sel), .val (.int p0), .val (.int p1), .val (.int p2), .val (.int (3 : Int32)), .val (.ref b52), .val (.ref b53), .val (.ref pp)] [(.int (2 : Int32)), (.ref b52), (.int (2 : Int32)), (.ref b52)])) rfl rfl (hb hby at_191) t_ k_) ?_
    refine own_w (T' := T70) (g' := (mkF m 193 #[.val (.int sel), .val (.int p0), .val (.int p1), .val (.int p2), .val (.int (3 : Int32)), .val (.ref b52), .val (.ref b53), .val (.ref pp)] [(.int (-1 : Int32)), (.int c2), (.int (2 : Int32)), (.ref b52)])) (fun _ k_ => XS.iconst X70.here hx rfl (hb hby at_192) k_) ?_
    refine own_w (T' := T70) (g' := (mkF m 194 #[.val (.int sel), .val (.int p0), .val (.int p1), .val (.int p2), .val (.int (3 : Int32)), .val (.ref b52), .val (.ref b53), .val (.ref pp)] [(.int (c2 ^^^ (-1 : Int32))), (.int (2 : Int32)), (.ref b52)])) (fun _ k_ => XS.ixor X70.here hx rfl (hb hby at_193) rfl k_) ?_
    refine own_w (T' := T70) (g' := (mkF m 195 #[.val (.int sel), .val (.int p0), .val (.int p1), .val (.int p2), .val (.int (3 : Int32)), .val (.ref b52), .val (.ref b53), .val (.ref pp)] [(.int ((c2 ^^^ (-1 : Int32)).toInt8.toInt32)), (.int (2 : Int32)), (.ref b52)])) (fun _ k_ => XS.i2b X70.here hx rfl (hb hby at_194) rfl k_) ?_
    obtain ⟨cl72, Ar72, hs72⟩ := id V70
    obtain ⟨T72, h72, X72, e72, W72, st72⟩ := stB X70 hx hZ e70 Ar72 (j := (2 : Int32)) (own_Ar_in (i := 2) hs72 (by decide) (by simp)) (g := (mkF m 195 #[.val (.int sel), .val (.int p0), .val (.int p1), .val (.int p2), .val (.int (3 : Int32)), .val (.ref b52), .val (.ref b53), .val (.ref pp)] [(.int ((c2 ^^^ (-1 : Int32)).toInt8.toInt32)), (.int (2 : Int32)), (.ref b52)])) rfl rfl (hb hby at_195)
    have V72 := own_Ar_set (i := 2) V70 W72 (by decide) (own_n8 _)
    have N72 := Fr.snoc X72 N70 g_b52
    have Z72 : n0 ≤ h72.size := Nat.le_trans Z70 (Keep.of_wr W72).1
    refine own_w (T' := T72) (g' := (mkF m 196 #[.val (.int sel), .val (.int p0), .val (.int p1), .val (.int p2), .val (.int (3 : Int32)), .val (.ref b52), .val (.ref b53), .val (.ref pp)] [])) st72 ?_
    have VA_72 := own_Ar_other VA_70 W72 na
    have Ve_72 := own_Ar_other Ve_70 W72 ne.symm
    have XA_72 := XA_70.wr W72
    have E_72 := E_70.wr W72
    have F_72_0 := F_70_0.other W72 (Or.inl np)
    have F_72_1 := F_70_1.other W72 (Or.inl np)
    have F_72_2 := F_70_2.other W72 (Or.inl np)
    refine own_w (T' := T72) (g' := (mkF m 198 #[.val (.int sel), .val (.int p0), .val (.int p1), .val (.int p2), .val (.int (3 : Int32)), .val (.ref b52), .val (.ref b53), .val (.ref pp)] [(.ref pp)])) (fun _ k_ => XS.aload X72.here hx rfl (hb hby at_196) rfl rfl k_) ?_
    obtain ⟨cq73, kq73, q73a, q73b, q73c⟩ := isOf hZ e72 E_72
    obtain ⟨_, _, ⟨T73, L73, k73, n73⟩, -, X73, ⟨Lc73, hQ73, l73, y73, z73⟩, st73⟩ := X72.virtualBack hx (y := (⟨"com/example/adjacency/adjacency/wire/PrefixedBytes", "toArray", "()[B"⟩ : MethodName)) (z := (⟨"com/example/adjacency/adjacency/wire/PrefixedBytes", "toArray", "()[B"⟩ : MethodName)) hown (mvT hZ (hw _ (List.mem_of_getElem? (i := 42) rfl))) (mvT hZ (hw _ (List.mem_of_getElem? (i := 43) rfl))) (notFace_of_selects (args := #[]) (mvT hZ (hw _ (List.mem_of_getElem? (i := 45) rfl)))) (mvT hZ (hw _ (List.mem_of_getElem? (i := 45) rfl))) (mvT hZ (hw _ (List.mem_of_getElem? (i := 44) rfl))) (by decide) (backOf (W := 0) (own_rm7_3 l Z a0 hw [] pp ar c0 c1 c2 h72 n0 Z72 F_72_0 F_72_1 F_72_2 VA_72 XA_72 hf) hZ (hw _ (List.mem_of_getElem? (i := 46) rfl)) (hw _ (List.mem_of_getElem? (i := 3) rfl)) (by decide) (by decide)) q73a q73c (g := (mkF m 198 #[.val (.int sel), .val (.int p0), .val (.int p1), .val (.int p2), .val (.int (3 : Int32)), .val (.ref b52), .val (.ref b53), .val (.ref pp)] [(.ref pp)])) rfl (by rw [hml]; rfl) (Steps.refl _) (argsL := []) (rest := []) (lenOf own_pd8 rfl) rfl (by show 2 * 0 + _ ≤ _; exact Nat.le_of_eq rfl) (hb hby at_198) (fun _ _ => ⟨rfl, e72, (by decide : 5 + 1 ≤ _), (by decide : 15 + 3 ≤ _)⟩)
    dsimp only [Pt.U, Pt.locs, Pt.cells, Pt.slots] at X73 l73 y73 z73 st73 hQ73
    subst l73 y73 z73
    obtain ⟨h73, e73⟩ : ∃ h, T73.heap = h := ⟨_, rfl⟩
    rw [e73] at hQ73
    obtain ⟨rfl, N73q, K73, VN73⟩ := hQ73
    have N73 := Fr.app N72 N73q
    refine own_t (T' := T73) (g' := (mkF m 201 #[.val (.int sel), .val (.int p0), .val (.int p1), .val (.int p2), .val (.int (3 : Int32)), .val (.ref b52), .val (.ref b53), .val (.ref pp)] [(.ref h72.size)])) st73 ?_
    have Z73 : n0 ≤ h73.size := Nat.le_trans Z72 K73.1
    have VA_73 := own_Ar_keep VA_72 K73 (by simp)
    have Vg_73 := own_Ar_keep V72 K73 (by simp)
    have Ve_73 := own_Ar_keep Ve_72 K73 (by simp)
    have XA_73 := XA_72.keep K73
    have E_73 := E_72.keep K73
    have F_73_0 := F_72_0.keep K73 (by simp)
    have F_73_1 := F_72_1.keep K73 (by simp)
    have F_73_2 := F_72_2.keep K73 (by simp)
    refine own_w (T' := T73) (g' := (mkF m 203 #[.val (.int sel), .val (.int p0), .val (.int p1), .val (.int p2), .val (.int (3 : Int32)), .val (.ref b52), .val (.ref b53), .val (.ref pp)] [(.ref b53), (.ref h72.size)])) (fun _ k_ => XS.aload X73.here hx rfl (hb hby at_201) rfl rfl k_) ?_
    refine own_w (T' := T73) (g' := (mkF m 205 #[.val (.int sel), .val (.int p0), .val (.int p1), .val (.int p2), .val (.int (3 : Int32)), .val (.ref b52), .val (.ref b53), .val (.ref pp)] [(.int (3 : Int32)), (.ref b53), (.ref h72.size)])) (fun _ k_ => XS.iload X73.here hx rfl (hb hby at_203) rfl k_) ?_
    obtain ⟨_, _, ⟨T74, L74, k74, n74⟩, -, X74, ⟨Lc74, hQ74, l74, y74, z74⟩, st74⟩ := Jvm.LawKit.callS X73 hx (y := (⟨"com/example/adjacency/adjacency/wire/PrefixedBytesCopyOfPinLaw", "same", "([B[BI)Z"⟩ : MethodName)) hown (mvT hZ (hw _ (List.mem_of_getElem? (i := 28) rfl))) (mvT hZ (hw _ (List.mem_of_getElem? (i := 29) rfl))) (mvT hZ (hw _ (List.mem_of_getElem? (i := 30) rfl))) (mvT hZ (hw _ (List.mem_of_getElem? (i := 31) rfl))) (by decide) (backOf (W := 0) (own_rm4_3 l Z a0 hw [] h72.size b53 c0 c1 c2 c0 c1 c2 h73 n0 Z73 VN73 Ve_73) hZ (hw _ (List.mem_of_getElem? (i := 31) rfl)) (hw _ (List.mem_of_getElem? (i := 30) rfl)) (by decide) (by decide)) (g := (mkF m 205 #[.val (.int sel), .val (.int p0), .val (.int p1), .val (.int p2), .val (.int (3 : Int32)), .val (.ref b52), .val (.ref b53), .val (.ref pp)] [(.int (3 : Int32)), (.ref b53), (.ref h72.size)])) rfl (by rw [hml]; rfl) (argsL := [(.ref h72.size), (.ref b53), (.int (3 : Int32))]) (rest := []) (lenOf own_pd6 rfl) rfl (by show 2 * 0 + _ ≤ _; exact Nat.le_of_eq rfl) (hb hby at_205) (fun _ _ => ⟨rfl, e73, (by decide : 6 + 0 ≤ _), (by decide : 18 + 0 ≤ _)⟩)
    dsimp only [Pt.U, Pt.locs, Pt.cells, Pt.slots] at X74 l74 y74 z74 st74 hQ74
    subst l74 y74 z74
    obtain ⟨rfl, N74q, e74⟩ := hQ74
    have N74 := Fr.app N73 N74q
    refine own_w (T' := T74) (g' := (mkF m 208 #[.val (.int sel), .val (.int p0), .val (.int p1), .val (.int p2), .val (.int (3 : Int32)), .val (.ref b52), .val (.ref b53), .val (.ref pp)] [(.int (if ([c0, c1, c2] = [c0, c1, c2]) then (1 : Int32) else 0))])) st74 ?_
    refine own_w (T' := T74) (g' := (mkF m 213 #[.val (.int sel), .val (.int p0), .val (.int p1), .val (.int p2), .val (.int (3 : Int32)), .val (.ref b52), .val (.ref b53), .val (.ref pp)] [])) (fun _ k_ => XS.ifYes X74.here hx rfl (pc0 := 208) (pc' := 213) rfl (hb hby at_208) rfl ((if0 _ _).trans (feq (fun q => (own_ite0.mp q) (show (([c0, c1, c2] = [c0, c1, c2])) from rfl))).2) (by decide) (by decide) k_) ?_
    refine own_w (T' := T74) (g' := (mkF m 215 #[.val (.int sel), .val (.int p0), .val (.int p1), .val (.int p2), .val (.int (3 : Int32)), .val (.ref b52), .val (.ref b53), .val (.ref pp)] [(.ref pp)])) (fun _ k_ => XS.aload X74.here hx rfl (hb hby at_213) rfl rfl k_) ?_
    refine own_w (T' := T74) (g' := (mkF m 217 #[.val (.int sel), .val (.int p0), .val (.int p1), .val (.int p2), .val (.int (3 : Int32)), .val (.ref b52), .val (.ref b53), .val (.ref pp)] [(.ref b53), (.ref pp)])) (fun _ k_ => XS.aload X74.here hx rfl (hb hby at_215) rfl rfl k_) ?_
    obtain ⟨cq75, kq75, q75a, q75b, q75c⟩ := isOf hZ e74 E_73
    obtain ⟨_, _, ⟨T75, L75, k75, n75⟩, -, X75, ⟨Lc75, hQ75, l75, y75, z75⟩, st75⟩ := X74.virtualBack hx (y := (⟨"com/example/adjacency/adjacency/wire/PrefixedBytes", "isSameAs", "([B)Z"⟩ : MethodName)) (z := (⟨"com/example/adjacency/adjacency/wire/PrefixedBytes", "isSameAs", "([B)Z"⟩ : MethodName)) hown (mvT hZ (hw _ (List.mem_of_getElem? (i := 53) rfl))) (mvT hZ (hw _ (List.mem_of_getElem? (i := 54) rfl))) (notFace_of_selects (args := #[]) (mvT hZ (hw _ (List.mem_of_getElem? (i := 56) rfl)))) (mvT hZ (hw _ (List.mem_of_getElem? (i := 56) rfl))) (mvT hZ (hw _ (List.mem_of_getElem? (i := 55) rfl))) (by decide) (backOf (W := 0) (own_rm9_3 l Z a0 hw [] pp b53 ar c0 c1 c2 c0 c1 c2 h73 n0 Z73 F_73_0 F_73_1 F_73_2 VA_73 Ve_73) hZ (hw _ (List.mem_of_getElem? (i := 57) rfl)) (hw _ (List.mem_of_getElem? (i := 3) rfl)) (by decide) (by decide)) q75a q75c (g := (mkF m 217 #[.val (.int sel), .val (.int p0), .val (.int p1), .val (.int p2), .val (.int (3 : Int32)), .val (.ref b52), .val (.ref b53), .val (.ref pp)] [(.ref b53), (.ref pp)])) rfl (by rw [hml]; rfl) (Steps.refl _) (argsL := [(.ref b53)]) (rest := []) (lenOf own_pd9 rfl) rfl (by show 2 * 0 + _ ≤ _; exact Nat.le_of_eq rfl) (hb hby at_217) (fun _ _ => ⟨rfl, e74, (by decide : 6 + 0 ≤ _), (by decide : 18 + 0 ≤ _)⟩)
    dsimp only [Pt.U, Pt.locs, Pt.cells, Pt.slots] at X75 l75 y75 z75 st75 hQ75
    subst l75 y75 z75
    obtain ⟨rfl, N75q, e75⟩ := hQ75
    have N75 := Fr.app N74 N75q
    refine own_t (T' := T75) (g' := (mkF m 220 #[.val (.int sel), .val (.int p0), .val (.int p1), .val (.int p2), .val (.int (3 : Int32)), .val (.ref b52), .val (.ref b53), .val (.ref pp)] [(.int (if ([c0, c1, c2] = [c0, c1, c2]) then (1 : Int32) else 0))])) st75 ?_
    refine own_w (T' := T75) (g' := (mkF m 225 #[.val (.int sel), .val (.int p0), .val (.int p1), .val (.int p2), .val (.int (3 : Int32)), .val (.ref b52), .val (.ref b53), .val (.ref pp)] [])) (fun _ k_ => XS.ifYes X75.here hx rfl (pc0 := 220) (pc' := 225) rfl (hb hby at_220) rfl ((if0 _ _).trans (feq (fun q => (own_ite0.mp q) (show (([c0, c1, c2] = [c0, c1, c2])) from rfl))).2) (by decide) (by decide) k_) ?_
    refine own_w (T' := T75) (g' := (mkF m 227 #[.val (.int sel), .val (.int p0), .val (.int p1), .val (.int p2), .val (.int (3 : Int32)), .val (.ref b52), .val (.ref b53), .val (.ref pp)] [(.ref pp)])) (fun _ k_ => XS.aload X75.here hx rfl (hb hby at_225) rfl rfl k_) ?_
    refine own_w (T' := T75) (g' := (mkF m 229 #[.val (.int sel), .val (.int p0), .val (.int p1), .val (.int p2), .val (.int (3 : Int32)), .val (.ref b52), .val (.ref b53), .val (.ref pp)] [(.ref b52), (.ref pp)])) (fun _ k_ => XS.aload X75.here hx rfl (hb hby at_227) rfl rfl k_) ?_
    obtain ⟨cq76, kq76, q76a, q76b, q76c⟩ := isOf hZ e75 E_73
    obtain ⟨_, _, ⟨T76, L76, k76, n76⟩, -, X76, ⟨Lc76, hQ76, l76, y76, z76⟩, st76⟩ := X75.virtualBack hx (y := (⟨"com/example/adjacency/adjacency/wire/PrefixedBytes", "isSameAs", "([B)Z"⟩ : MethodName)) (z := (⟨"com/example/adjacency/adjacency/wire/PrefixedBytes", "isSameAs", "([B)Z"⟩ : MethodName)) hown (mvT hZ (hw _ (List.mem_of_getElem? (i := 53) rfl))) (mvT hZ (hw _ (List.mem_of_getElem? (i := 54) rfl))) (notFace_of_selects (args := #[]) (mvT hZ (hw _ (List.mem_of_getElem? (i := 56) rfl)))) (mvT hZ (hw _ (List.mem_of_getElem? (i := 56) rfl))) (mvT hZ (hw _ (List.mem_of_getElem? (i := 55) rfl))) (by decide) (backOf (W := 0) (own_rm9_3 l Z a0 hw [] pp b52 ar c0 c1 c2 ((c0 ^^^ (-1 : Int32)).toInt8.toInt32) ((c1 ^^^ (-1 : Int32)).toInt8.toInt32) ((c2 ^^^ (-1 : Int32)).toInt8.toInt32) h73 n0 Z73 F_73_0 F_73_1 F_73_2 VA_73 Vg_73) hZ (hw _ (List.mem_of_getElem? (i := 57) rfl)) (hw _ (List.mem_of_getElem? (i := 3) rfl)) (by decide) (by decide)) q76a q76c (g := (mkF m 229 #[.val (.int sel), .val (.int p0), .val (.int p1), .val (.int p2), .val (.int (3 : Int32)), .val (.ref b52), .val (.ref b53), .val (.ref pp)] [(.ref b52), (.ref pp)])) rfl (by rw [hml]; rfl) (Steps.refl _) (argsL := [(.ref b52)]) (rest := []) (lenOf own_pd9 rfl) rfl (by show 2 * 0 + _ ≤ _; exact Nat.le_of_eq rfl) (hb hby at_229) (fun _ _ => ⟨rfl, e75, (by decide : 6 + 0 ≤ _), (by decide : 18 + 0 ≤ _)⟩)
    dsimp only [Pt.U, Pt.locs, Pt.cells, Pt.slots] at X76 l76 y76 z76 st76 hQ76
    subst l76 y76 z76
    obtain ⟨rfl, N76q, e76⟩ := hQ76
    have N76 := Fr.app N75 N76q
    refine own_t (T' := T76) (g' := (mkF m 232 #[.val (.int sel), .val (.int p0), .val (.int p1), .val (.int p2), .val (.int (3 : Int32)), .val (.ref b52), .val (.ref b53), .val (.ref pp)] [(.int (if ([c0, c1, c2] = [(c0 ^^^ (-1 : Int32)).toInt8.toInt32, (c1 ^^^ (-1 : Int32)).toInt8.toInt32, (c2 ^^^ (-1 : Int32)).toInt8.toInt32]) then (1 : Int32) else 0))])) st76 ?_
    refine own_w (T' := T76) (g' := (mkF m 234 #[.val (.int sel), .val (.int p0), .val (.int p1), .val (.int p2), .val (.int (3 : Int32)), .val (.ref b52), .val (.ref b53), .val (.ref pp)] [(.int (3 : Int32)), (.int (if ([c0, c1, c2] = [(c0 ^^^ (-1 : Int32)).toInt8.toInt32, (c1 ^^^ (-1 : Int32)).toInt8.toInt32, (c2 ^^^ (-1 : Int32)).toInt8.toInt32]) then (1 : Int32) else 0))])) (fun _ k_ => XS.iload X76.here hx rfl (hb hby at_232) rfl k_) ?_
    refine own_w (T' := T76) (g' := (mkF m 241 #[.val (.int sel), .val (.int p0), .val (.int p1), .val (.int p2), .val (.int (3 : Int32)), .val (.ref b52), .val (.ref b53), .val (.ref pp)] [(.int (if ([c0, c1, c2] = [(c0 ^^^ (-1 : Int32)).toInt8.toInt32, (c1 ^^^ (-1 : Int32)).toInt8.toInt32, (c2 ^^^ (-1 : Int32)).toInt8.toInt32]) then (1 : Int32) else 0))])) (fun _ k_ => XS.ifYes X76.here hx rfl (pc0 := 234) (pc' := 241) rfl (hb hby at_234) rfl ((if0 _ _).trans (feq (by decide)).2) (by decide) (by decide) k_) ?_
    refine own_w (T' := T76) (g' := (mkF m 242 #[.val (.int sel), .val (.int p0), .val (.int p1), .val (.int p2), .val (.int (3 : Int32)), .val (.ref b52), .val (.ref b53), .val (.ref pp)] [(.int (0 : Int32)), (.int (if ([c0, c1, c2] = [(c0 ^^^ (-1 : Int32)).toInt8.toInt32, (c1 ^^^ (-1 : Int32)).toInt8.toInt32, (c2 ^^^ (-1 : Int32)).toInt8.toInt32]) then (1 : Int32) else 0))])) (fun _ k_ => XS.iconst X76.here hx rfl (hb hby at_241) k_) ?_
    refine own_w (T' := T76) (g' := (mkF m 245 #[.val (.int sel), .val (.int p0), .val (.int p1), .val (.int p2), .val (.int (3 : Int32)), .val (.ref b52), .val (.ref b53), .val (.ref pp)] [])) (fun _ k_ => XS.icmpNo X76.here hx rfl (hb hby at_242) rfl (teq (if_neg fun q => own_not c0 (List.cons.inj q).1)).2 k_) ?_
    refine own_w (T' := T76) (g' := (mkF m 246 #[.val (.int sel), .val (.int p0), .val (.int p1), .val (.int p2), .val (.int (3 : Int32)), .val (.ref b52), .val (.ref b53), .val (.ref pp)] [(.int (1 : Int32))])) (fun _ k_ => XS.iconst X76.here hx rfl (hb hby at_245) k_) ?_
    refine own_w (T' := T76) (g' := (mkF m 250 #[.val (.int sel), .val (.int p0), .val (.int p1), .val (.int p2), .val (.int (3 : Int32)), .val (.ref b52), .val (.ref b53), .val (.ref pp)] [(.int (1 : Int32))])) (fun _ k_ => XS.goto X76.here hx rfl (pc0 := 246) (pc' := 250) rfl (hb hby at_246) (by decide) (by decide) k_) ?_
    obtain ⟨fs, hr, hrun, hended, hW, hsame⟩ := X76.leave (v := some (.int (1 : Int32))) (fun h => by rw [Bd.returns] at h; cases h)
    exact ⟨_, _, retOut X76 hx Bd.returns rfl (Or.inl ⟨rfl, Or.inr (Or.inl rfl), _, rfl⟩) (hb hby at_250) hr, hrun, hended, _, _, rfl, (by show own_Q0 Z sel p0 p1 p2 h0 n0 _ T76.heap _; rw [e76]; exact ⟨rfl, N76⟩), ⟨_, rfl⟩, hW, hsame.mono (by decide) (by decide)⟩
set_option maxRecDepth 65536 in
set_option maxHeartbeats 40000000 in
theorem comes_1 {Post : Tables → Env → Array Value → State → Outcome → State → Prop} (hpost : ∀ tb e args s v u, (limb_1_1.after args s (.returned v) u = true ∧ limb_1_2.after args s (.returned v) u = true ∧ True) → FrameEnd s (.returned v) u (Jvm.fieldLocs frame_1_writes args s ++ Jvm.arrayLocs frame_1_arrays args s ++ Jvm.staticLocs frame_1_statics s) 24 128 → Post tb e args s (.returned v) u) :
    ArmFor flags0 classFile x code maxLocals ret World_1 tables_1 room_1 Calls_1 rest_1 Pre_1 Post := by
  intro l hfl _ _ p e ha hc hk s m args below hf hA hF happ hP
  obtain ⟨hcalls, hrest, hpre⟩ := hP
  obtain ⟨-, -, -, hnamed, -, -, -, hat⟩ := (Spec.applies_iff hf).mp happ
  obtain ⟨hg, hn⟩ := and_e (Cond.before_iff.mp (show (Jvm.Cond.and given_1 narrow_1).before args s = true from hpre))
  obtain ⟨hcount, hr0⟩ := and_e hg
  obtain ⟨ga0, hr1⟩ := and_e hr0
  obtain ⟨ga1, hr2⟩ := and_e hr1
  obtain ⟨ga2, hr3⟩ := and_e hr2
  have ga3 := hr3
  obtain ⟨w0, w1, w2, w3, rfl⟩ : ∃ w0 w1 w2 w3 : Value, args = #[w0, w1, w2, w3] := by
    have hs : args.size = 4 := by simpa [Cond.value, given_1] using hcount
    obtain ⟨L⟩ := args
    match L, hs with
    | [w0, w1, w2, w3], _ => exact ⟨w0, w1, w2, w3, rfl⟩
  have hw := fun d (hd : d ∈ tables_1) => atoms_spec (ws := Jvm.Cond.code x code maxLocals ret :: tables_1) hat d (List.mem_cons_of_mem _ hd)
  obtain ⟨i0, ei0⟩ := is_v ga0
  obtain rfl : w0 = (.int i0) := Option.some.inj ei0
  obtain ⟨i1, ei1⟩ := is_v ga1
  obtain rfl : w1 = (.int i1) := Option.some.inj ei1
  obtain ⟨i2, ei2⟩ := is_v ga2
  obtain rfl : w2 = (.int i2) := Option.some.inj ei2
  obtain ⟨i3, ei3⟩ := is_v ga3
  obtain rfl : w3 = (.int i3) := Option.some.inj ei3
  obtain ⟨n, o, h1, h2, h3, _, L, rfl, ⟨rfl, N⟩, hq⟩ := own_rm0 l s _ hw tables_1 i0 i1 i2 i3 s.heap s.heap.size (Nat.le_refl _) p e ha hc hk s m _ below hf ((Spec.applies_iff_loose hf).mp happ).1 ⟨rfl, State.Warmed39.refl s, rfl⟩ trivial
  refine ⟨n, _, h1, h2, h3, hpost _ _ _ _ _ _ ⟨Cond.after_iff.mpr rfl, Cond.after_iff.mpr (eq_i res_at (Term.int_eval (1)) rfl), trivial⟩ ⟨hq.1, hq.2.1, (hq.2.2.sift fun y hy => Or.inr (N y hy)).mono (by decide) (by decide)⟩⟩
theorem main_1_1 : Claimed_1_1 := comes_1 fun _ _ _ _ _ _ h hF => ⟨h.1, hF⟩
theorem main_1_2 : Claimed_1_2 := comes_1 fun _ _ _ _ _ _ h hF => ⟨h.2.1, hF⟩
end Jvm.Pilot.@@N@@
namespace Jvm.Pilot.@@N@@
open Jvm Jvm.ClassFile Sem Op Lib Jvm.Free Jvm.Stand Jvm.Pilot.@@N@@.Jvm.D
/-! MADE BY PROGRAM (witnessworld.py) out of the Statement's table words and the real class files: 11 classes; the members and pool entries that the words name. The judged class is class 1, her method 1. -/
namespace start1
open Jvm.ClassFile
def u (s : String) : CpInfo := .utf8 (stringToUtf16 s)
/-- a pool by its gaps: so many unusable entries, then the entry; so many at the end -/
def gap : Nat → List CpInfo → List CpInfo
  | 0, r => r
  | n + 1, r => .unusable :: gap n r
def poolList (es : List (Nat × CpInfo)) (last : Nat) : List CpInfo := es.foldr (fun e r => gap e.1 (e.2 :: r)) (gap last [])
def pool (es : List (Nat × CpInfo)) (last : Nat) : Array CpInfo := ⟨poolList es last⟩
def fileOf (pool : Array CpInfo) (this : Nat) (attrs : Array Attribute := #[]) (ms : Array MethodInfo := #[]) (fl : Nat := 33) (sup : Nat := 0) (ifs : Array Nat := #[]) (fds : Array FieldInfo := #[]) : ClassFile where
  minorVersion := 0
  majorVersion := 65
  constantPool := pool
  accessFlags := fl
  thisClass := this
  superClass := sup
  interfaces := ifs
  fields := fds
  methods := ms
  attributes := attrs
def plain (name : String) (sup : Option ClassId) : Class where
  name := name
  kind := .ordinary
  loader := none
  accessFlags := 33
  super := sup
  interfaces := #[]
  cf := none
  fields := #[]
  methods := #[]
  instanceTypes := #[]
  staticTypes := #[]
  resolved := #[]
  callSites := []
  init := .initialized
  statics := none
  mirror := none

def pool0 : Array CpInfo := pool [(5, u "<init>"), (0, u "()V"), (1, .class_ 10), (1, u "java/lang/Object"), (85, u "clone"), (0, u "()Ljava/lang/Object;")] 26

def k0c0 : Code := { maxStack := 0, maxLocals := 1, code := object_method_1_code, exceptionTable := #[], attributes := #[] }
def k0m0 : Method := { name := "<init>", desc := "()V", sig := { parameters := [], returnType := none }, accessFlags := 1, code := some k0c0 }
def k0m1 : Method := { name := "clone", desc := "()Ljava/lang/Object;", sig := { parameters := [], returnType := some (.object "java/lang/Object") }, accessFlags := 260, code := none }
/-- java/lang/Object -/
def k0 : Class := { plain "java/lang/Object" none with
  accessFlags := 33
  interfaces := #[]
  cf := some (fileOf pool0 8 #[] #[{ accessFlags := 1, nameIndex := 5, descriptorIndex := 6, attributes := #[] }, { accessFlags := 260, nameIndex := 96, descriptorIndex := 97, attributes := #[] }] 33 0 #[] #[])
  fields := #[]
  methods := #[k0m0, k0m1]
  instanceTypes := #[]
  staticTypes := #[]
  resolved := Array.replicate 124 none
  statics := none }

def pool1 : Array CpInfo := pool [(2, .class_ 4), (1, u "java/lang/Object"), (0, u "<init>"), (0, u "()V"), (0, .methodref 8 9), (0, .class_ 10), (0, .nameAndType 11 12), (0, u "com/example/adjacency/adjacency/wire/PrefixedBytes"), (0, u "copyOf"), (0, u "([B)Lcom/example/adjacency/adjacency/wire/PrefixedBytes;"), (0, .methodref 14 15), (0, .class_ 16), (0, .nameAndType 17 18), (0, u "com/example/adjacency/adjacency/wire/PrefixedBytesCopyOfPinLaw"), (0, u "same"), (0, u "([B[BI)Z"), (0, .methodref 8 20), (0, .nameAndType 21 22), (0, u "length"), (0, u "()I"), (0, .methodref 8 24), (0, .nameAndType 25 22), (0, u "prefixedLength"), (0, .methodref 8 27), (0, .nameAndType 28 29), (0, u "toArray"), (0, u "()[B"), (0, .methodref 8 31), (0, .nameAndType 32 33), (0, u "isSameAs"), (0, u "([B)Z"), (2, u "law"), (0, u "(IIII)Z")] 5

def k1m0 : Method := { name := "<init>", desc := "()V", sig := { parameters := [], returnType := none }, accessFlags := 1, code := none }
def k1c1 : Code := { maxStack := 4, maxLocals := 8, code := code, exceptionTable := #[], attributes := #[] }
def k1m1 : Method := { name := "law", desc := "(IIII)Z", sig := { parameters := [.int, .int, .int, .int], returnType := some .boolean }, accessFlags := 9, code := some k1c1 }
def k1c2 : Code := { maxStack := 3, maxLocals := 3, code := method_3_code, exceptionTable := #[], attributes := #[] }
def k1m2 : Method := { name := "same", desc := "([B[BI)Z", sig := { parameters := [(.array .byte), (.array .byte), .int], returnType := some .boolean }, accessFlags := 10, code := some k1c2 }
/-- com/example/adjacency/adjacency/wire/PrefixedBytesCopyOfPinLaw -/
def k1 : Class := { plain "com/example/adjacency/adjacency/wire/PrefixedBytesCopyOfPinLaw" (some 0) with
  accessFlags := 49
  interfaces := #[]
  cf := some (fileOf pool1 14 #[] #[{ accessFlags := 1, nameIndex := 5, descriptorIndex := 6, attributes := #[] }, { accessFlags := 9, nameIndex := 36, descriptorIndex := 37, attributes := #[] }, { accessFlags := 10, nameIndex := 17, descriptorIndex := 18, attributes := #[] }] 49 2 #[] #[])
  fields := #[]
  methods := #[k1m0, k1m1, k1m2]
  instanceTypes := #[]
  staticTypes := #[]
  resolved := Array.replicate 43 none
  statics := none }

def pool2 : Array CpInfo := pool [(1, .methodref 2 3), (0, .class_ 4), (0, .nameAndType 5 6), (0, u "java/lang/Object"), (0, u "<init>"), (0, u "()V"), (0, .fieldref 8 9), (0, .class_ 10), (0, .nameAndType 11 12), (0, u "com/example/adjacency/adjacency/wire/PrefixedBytes"), (0, u "array"), (0, u "[B"), (0, .fieldref 8 14), (0, .nameAndType 15 16), (0, u "offset"), (0, u "I"), (0, .fieldref 8 18), (0, .nameAndType 19 16), (0, u "length"), (0, .methodref 21 22), (0, .class_ 12), (0, .nameAndType 23 24), (0, u "clone"), (0, u "()Ljava/lang/Object;"), (0, .methodref 8 26), (0, .nameAndType 5 27), (0, u "([BII)V"), (15, u "()I"), (14, u "()[B"), (8, .methodref 68 69), (0, .class_ 70), (0, .nameAndType 71 72), (0, u "java/util/Arrays"), (0, u "copyOfRange"), (0, u "([BII)[B"), (0, .methodref 68 74), (0, .nameAndType 75 76), (0, u "equals"), (0, u "([BII[BII)Z"), (2, u "copyOf"), (0, u "([B)Lcom/example/adjacency/adjacency/wire/PrefixedBytes;"), (3, u "prefixedLength"), (2, u "toArray"), (0, u "isSameAs"), (0, u "([B)Z")] 2

def k2c0 : Code := { maxStack := 2, maxLocals := 4, code := prog_31_method_1_code, exceptionTable := #[], attributes := #[] }
def k2m0 : Method := { name := "<init>", desc := "([BII)V", sig := { parameters := [(.array .byte), .int, .int], returnType := none }, accessFlags := 2, code := some k2c0 }
def k2c1 : Code := { maxStack := 5, maxLocals := 1, code := prog_31_method_2_code, exceptionTable := #[], attributes := #[] }
def k2m1 : Method := { name := "copyOf", desc := "([B)Lcom/example/adjacency/adjacency/wire/PrefixedBytes;", sig := { parameters := [(.array .byte)], returnType := some (.object "com/example/adjacency/adjacency/wire/PrefixedBytes") }, accessFlags := 8, code := some k2c1 }
def k2c2 : Code := { maxStack := 1, maxLocals := 1, code := prog_31_method_4_code, exceptionTable := #[], attributes := #[] }
def k2m2 : Method := { name := "length", desc := "()I", sig := { parameters := [], returnType := some .int }, accessFlags := 0, code := some k2c2 }
def k2c3 : Code := { maxStack := 2, maxLocals := 1, code := prog_31_method_5_code, exceptionTable := #[], attributes := #[] }
def k2m3 : Method := { name := "prefixedLength", desc := "()I", sig := { parameters := [], returnType := some .int }, accessFlags := 0, code := some k2c3 }
def k2c4 : Code := { maxStack := 4, maxLocals := 1, code := prog_31_method_7_code, exceptionTable := #[], attributes := #[] }
def k2m4 : Method := { name := "toArray", desc := "()[B", sig := { parameters := [], returnType := some (.array .byte) }, accessFlags := 0, code := some k2c4 }
def k2c5 : Code := { maxStack := 6, maxLocals := 2, code := prog_31_method_8_code, exceptionTable := #[], attributes := #[] }
def k2m5 : Method := { name := "isSameAs", desc := "([B)Z", sig := { parameters := [(.array .byte)], returnType := some .boolean }, accessFlags := 0, code := some k2c5 }
/-- com/example/adjacency/adjacency/wire/PrefixedBytes -/
def k2 : Class := { plain "com/example/adjacency/adjacency/wire/PrefixedBytes" (some 0) with
  accessFlags := 48
  interfaces := #[]
  cf := some (fileOf pool2 8 #[] #[{ accessFlags := 2, nameIndex := 5, descriptorIndex := 27, attributes := #[] }, { accessFlags := 8, nameIndex := 79, descriptorIndex := 80, attributes := #[] }, { accessFlags := 0, nameIndex := 19, descriptorIndex := 43, attributes := #[] }, { accessFlags := 0, nameIndex := 84, descriptorIndex := 43, attributes := #[] }, { accessFlags := 0, nameIndex := 87, descriptorIndex := 58, attributes := #[] }, { accessFlags := 0, nameIndex := 88, descriptorIndex := 89, attributes := #[] }] 48 2 #[] #[{ accessFlags := 18, nameIndex := 11, descriptorIndex := 12, attributes := #[] }, { accessFlags := 18, nameIndex := 15, descriptorIndex := 16, attributes := #[] }, { accessFlags := 18, nameIndex := 19, descriptorIndex := 16, attributes := #[] }])
  fields := #[{ name := "array", type := (.array .byte), accessFlags := 18, slot := 0, constantValue := 0 }, { name := "offset", type := .int, accessFlags := 18, slot := 1, constantValue := 0 }, { name := "length", type := .int, accessFlags := 18, slot := 2, constantValue := 0 }]
  methods := #[k2m0, k2m1, k2m2, k2m3, k2m4, k2m5]
  instanceTypes := #[(.array .byte), .int, .int]
  staticTypes := #[]
  resolved := Array.replicate 92 none
  statics := none }

def pool3 : Array CpInfo := pool [(1, .class_ 2), (0, u "java/lang/Cloneable"), (0, .class_ 4), (0, u "java/lang/Object")] 2

/-- java/lang/Cloneable -/
def k3 : Class := { plain "java/lang/Cloneable" (some 0) with
  accessFlags := 1537
  interfaces := #[]
  cf := some (fileOf pool3 1 #[] #[] 1537 3 #[] #[])
  fields := #[]
  methods := #[]
  instanceTypes := #[]
  staticTypes := #[]
  resolved := Array.replicate 7 none
  statics := none }

def pool4 : Array CpInfo := pool [(2, .class_ 4), (1, u "java/lang/Object"), (0, u "<init>"), (0, u "()V"), (6, .methodref 14 15), (0, .class_ 16), (0, .nameAndType 17 18), (0, u "java/util/Arrays"), (0, u "rangeCheck"), (0, u "(III)V"), (55, .class_ 76), (1, u "java/util/Arrays$NaturalOrder"), (32, u "()Ljava/lang/Object;"), (3, .class_ 115), (1, u "java/util/Arrays$LegacyMergeSort"), (1, u "Z"), (10, .nameAndType 129 109), (0, u "clone"), (9, u "copyOfRange"), (106, .class_ 248), (1, u "jdk/internal/util/ArraysSupport"), (0, u "mismatch"), (25, .methodref 246 276), (0, .nameAndType 249 277), (0, u "([BI[BII)I"), (20, u "equals"), (11, .methodref 311 128), (0, .class_ 312), (0, u "[B"), (29, u "([BII)[B"), (32, .class_ 376), (0, u "java/util/Arrays$ArrayList"), (68, u "$assertionsDisabled"), (269, u "MIN_ARRAY_SORT_GRAN"), (0, u "I"), (2, u "INSERTIONSORT_THRESHOLD"), (111, u "([BII[BII)Z"), (143, .class_ 976), (0, u "java/util/Arrays$ArrayItr")] 52

def k4m0 : Method := { name := "<init>", desc := "()V", sig := { parameters := [], returnType := none }, accessFlags := 2, code := none }
def k4c1 : Code := { maxStack := 4, maxLocals := 3, code := jdk_65_method_30_code, exceptionTable := #[], attributes := #[] }
def k4m1 : Method := { name := "rangeCheck", desc := "(III)V", sig := { parameters := [.int, .int, .int], returnType := none }, accessFlags := 8, code := some k4c1 }
def k4c2 : Code := { maxStack := 5, maxLocals := 8, code := jdk_65_method_90_code, exceptionTable := #[], attributes := #[] }
def k4m2 : Method := { name := "equals", desc := "([BII[BII)Z", sig := { parameters := [(.array .byte), .int, .int, (.array .byte), .int, .int], returnType := some .boolean }, accessFlags := 9, code := some k4c2 }
def k4c3 : Code := { maxStack := 3, maxLocals := 3, code := jdk_65_method_132_code, exceptionTable := #[], attributes := #[] }
def k4m3 : Method := { name := "copyOfRange", desc := "([BII)[B", sig := { parameters := [(.array .byte), .int, .int], returnType := some (.array .byte) }, accessFlags := 9, code := some k4c3 }
/-- java/util/Arrays -/
def k4 : Class := { plain "java/util/Arrays" (some 0) with
  accessFlags := 49
  interfaces := #[]
  cf := some (fileOf pool4 14 #[.nestMembers #[975, 375, 113, 74]] #[{ accessFlags := 2, nameIndex := 5, descriptorIndex := 6, attributes := #[] }, { accessFlags := 8, nameIndex := 17, descriptorIndex := 18, attributes := #[] }, { accessFlags := 9, nameIndex := 298, descriptorIndex := 831, attributes := #[] }, { accessFlags := 9, nameIndex := 139, descriptorIndex := 342, attributes := #[] }] 49 2 #[] #[{ accessFlags := 26, nameIndex := 715, descriptorIndex := 716, attributes := #[] }, { accessFlags := 26, nameIndex := 719, descriptorIndex := 716, attributes := #[] }, { accessFlags := 4120, nameIndex := 445, descriptorIndex := 117, attributes := #[] }])
  fields := #[{ name := "MIN_ARRAY_SORT_GRAN", type := .int, accessFlags := 26, slot := 0, constantValue := 0 }, { name := "INSERTIONSORT_THRESHOLD", type := .int, accessFlags := 26, slot := 1, constantValue := 0 }, { name := "$assertionsDisabled", type := .boolean, accessFlags := 4120, slot := 2, constantValue := 0 }]
  methods := #[k4m0, k4m1, k4m2, k4m3]
  instanceTypes := #[]
  staticTypes := #[.int, .int, .boolean]
  resolved := Array.replicate 1029 none
  statics := none }

def pool5 : Array CpInfo := pool [(9, u "<init>"), (6, .class_ 18), (1, u "java/lang/Object"), (0, u "()V"), (1, .class_ 23), (1, u "jdk/internal/util/ArraysSupport"), (0, u "LOG2_ARRAY_LONG_INDEX_SCALE"), (0, u "I"), (2, u "U"), (0, u "Ljdk/internal/misc/Unsafe;"), (8, u "BIG_ENDIAN"), (0, u "Z"), (8, u "LOG2_BYTE_BIT_SIZE"), (4, u "LOG2_ARRAY_INT_INDEX_SCALE"), (54, u "JLA"), (0, u "Ljdk/internal/access/JavaLangAccess;"), (11, u "LOG2_ARRAY_BOOLEAN_INDEX_SCALE"), (9, u "LOG2_ARRAY_BYTE_INDEX_SCALE"), (5, u "LOG2_ARRAY_CHAR_INDEX_SCALE"), (5, u "LOG2_ARRAY_SHORT_INDEX_SCALE"), (5, u "mismatch"), (12, u "LOG2_ARRAY_FLOAT_INDEX_SCALE"), (24, u "LOG2_ARRAY_DOUBLE_INDEX_SCALE"), (89, u "T_BOOLEAN"), (2, u "T_CHAR"), (1, u "T_FLOAT"), (1, u "T_DOUBLE"), (1, u "T_BYTE"), (1, u "T_SHORT"), (1, u "T_INT"), (1, u "T_LONG"), (1, u "SOFT_MAX_ARRAY_LENGTH"), (42, u "([BI[BII)I")] 40

def k5m0 : Method := { name := "<init>", desc := "()V", sig := { parameters := [], returnType := none }, accessFlags := 2, code := none }
def k5c1 : Code := { maxStack := 8, maxLocals := 8, code := jdk_48_method_14_code, exceptionTable := #[], attributes := #[] }
def k5m1 : Method := { name := "mismatch", desc := "([BI[BII)I", sig := { parameters := [(.array .byte), .int, (.array .byte), .int, .int], returnType := some .int }, accessFlags := 9, code := some k5c1 }
/-- jdk/internal/util/ArraysSupport -/
def k5 : Class := { plain "jdk/internal/util/ArraysSupport" (some 0) with
  accessFlags := 33
  interfaces := #[]
  cf := some (fileOf pool5 21 #[] #[{ accessFlags := 2, nameIndex := 9, descriptorIndex := 19, attributes := #[] }, { accessFlags := 9, nameIndex := 149, descriptorIndex := 337, attributes := #[] }] 33 16 #[] #[{ accessFlags := 24, nameIndex := 28, descriptorIndex := 29, attributes := #[] }, { accessFlags := 26, nameIndex := 38, descriptorIndex := 39, attributes := #[] }, { accessFlags := 25, nameIndex := 121, descriptorIndex := 25, attributes := #[] }, { accessFlags := 25, nameIndex := 131, descriptorIndex := 25, attributes := #[] }, { accessFlags := 25, nameIndex := 137, descriptorIndex := 25, attributes := #[] }, { accessFlags := 25, nameIndex := 143, descriptorIndex := 25, attributes := #[] }, { accessFlags := 25, nameIndex := 53, descriptorIndex := 25, attributes := #[] }, { accessFlags := 25, nameIndex := 24, descriptorIndex := 25, attributes := #[] }, { accessFlags := 25, nameIndex := 162, descriptorIndex := 25, attributes := #[] }, { accessFlags := 25, nameIndex := 187, descriptorIndex := 25, attributes := #[] }, { accessFlags := 26, nameIndex := 48, descriptorIndex := 25, attributes := #[] }, { accessFlags := 25, nameIndex := 277, descriptorIndex := 25, attributes := #[] }, { accessFlags := 25, nameIndex := 280, descriptorIndex := 25, attributes := #[] }, { accessFlags := 25, nameIndex := 282, descriptorIndex := 25, attributes := #[] }, { accessFlags := 25, nameIndex := 284, descriptorIndex := 25, attributes := #[] }, { accessFlags := 25, nameIndex := 286, descriptorIndex := 25, attributes := #[] }, { accessFlags := 25, nameIndex := 288, descriptorIndex := 25, attributes := #[] }, { accessFlags := 25, nameIndex := 290, descriptorIndex := 25, attributes := #[] }, { accessFlags := 25, nameIndex := 292, descriptorIndex := 25, attributes := #[] }, { accessFlags := 26, nameIndex := 108, descriptorIndex := 109, attributes := #[] }, { accessFlags := 25, nameIndex := 294, descriptorIndex := 25, attributes := #[] }])
  fields := #[{ name := "U", type := (.object "jdk/internal/misc/Unsafe"), accessFlags := 24, slot := 0, constantValue := 0 }, { name := "BIG_ENDIAN", type := .boolean, accessFlags := 26, slot := 1, constantValue := 0 }, { name := "LOG2_ARRAY_BOOLEAN_INDEX_SCALE", type := .int, accessFlags := 25, slot := 2, constantValue := 0 }, { name := "LOG2_ARRAY_BYTE_INDEX_SCALE", type := .int, accessFlags := 25, slot := 3, constantValue := 0 }, { name := "LOG2_ARRAY_CHAR_INDEX_SCALE", type := .int, accessFlags := 25, slot := 4, constantValue := 0 }, { name := "LOG2_ARRAY_SHORT_INDEX_SCALE", type := .int, accessFlags := 25, slot := 5, constantValue := 0 }, { name := "LOG2_ARRAY_INT_INDEX_SCALE", type := .int, accessFlags := 25, slot := 6, constantValue := 0 }, { name := "LOG2_ARRAY_LONG_INDEX_SCALE", type := .int, accessFlags := 25, slot := 7, constantValue := 0 }, { name := "LOG2_ARRAY_FLOAT_INDEX_SCALE", type := .int, accessFlags := 25, slot := 8, constantValue := 0 }, { name := "LOG2_ARRAY_DOUBLE_INDEX_SCALE", type := .int, accessFlags := 25, slot := 9, constantValue := 0 }, { name := "LOG2_BYTE_BIT_SIZE", type := .int, accessFlags := 26, slot := 10, constantValue := 0 }, { name := "T_BOOLEAN", type := .int, accessFlags := 25, slot := 11, constantValue := 0 }, { name := "T_CHAR", type := .int, accessFlags := 25, slot := 12, constantValue := 0 }, { name := "T_FLOAT", type := .int, accessFlags := 25, slot := 13, constantValue := 0 }, { name := "T_DOUBLE", type := .int, accessFlags := 25, slot := 14, constantValue := 0 }, { name := "T_BYTE", type := .int, accessFlags := 25, slot := 15, constantValue := 0 }, { name := "T_SHORT", type := .int, accessFlags := 25, slot := 16, constantValue := 0 }, { name := "T_INT", type := .int, accessFlags := 25, slot := 17, constantValue := 0 }, { name := "T_LONG", type := .int, accessFlags := 25, slot := 18, constantValue := 0 }, { name := "JLA", type := (.object "jdk/internal/access/JavaLangAccess"), accessFlags := 26, slot := 19, constantValue := 0 }, { name := "SOFT_MAX_ARRAY_LENGTH", type := .int, accessFlags := 25, slot := 20, constantValue := 0 }]
  methods := #[k5m0, k5m1]
  instanceTypes := #[]
  staticTypes := #[(.object "jdk/internal/misc/Unsafe"), .boolean, .int, .int, .int, .int, .int, .int, .int, .int, .int, .int, .int, .int, .int, .int, .int, .int, .int, (.object "jdk/internal/access/JavaLangAccess"), .int]
  resolved := Array.replicate 378 none
  statics := none }

def pool6 : Array CpInfo := pool [(1, u "java/io/Serializable"), (0, .class_ 1), (0, u "java/lang/Object"), (0, .class_ 3)] 3

/-- java/io/Serializable -/
def k6 : Class := { plain "java/io/Serializable" (some 0) with
  accessFlags := 1537
  interfaces := #[]
  cf := some (fileOf pool6 2 #[] #[] 1537 4 #[] #[])
  fields := #[]
  methods := #[]
  instanceTypes := #[]
  staticTypes := #[]
  resolved := Array.replicate 8 none
  statics := none }

/-- the primitive byte -/
def k7 : Class := { plain "byte" none with kind := .primitive 'B', accessFlags := 0x411 }
/-- [B -/
def k8 : Class := { plain "[B" (some 0) with kind := .array 7 .byte, interfaces := #[3, 6], accessFlags := 1041 }

/-- the primitive int -/
def k9 : Class := { plain "int" none with kind := .primitive 'I', accessFlags := 0x411 }
/-- [I -/
def k10 : Class := { plain "[I" (some 0) with kind := .array 9 .int, interfaces := #[3, 6], accessFlags := 1041 }

def heap : Heap := #[]
def classes : Array Class := #[k0, k1, k2, k3, k4, k5, k6, k7, k8, k9, k10]
def interned : List (Array UInt16 × Addr) := []
def slotsUsed : Nat := 0
def theMethod : MethodId := ⟨1, 1⟩
def args0 : Array Value := #[.int 3, .int 7, .int 9, .int 100]
def aboutOver (below : List Frame) : State where
  vm := { classes := classes, interned := interned.toArray }
  heap := heap
  slotsUsed := slotsUsed
  threads := #[{ frames := .invoking theMethod args0 :: below }]
def below0 : List Frame := [.native { method := ⟨0, 0⟩, args := #[] }]
def about1 : State := aboutOver below0
def p0 : Program := .bare "" "" ""
def e0 : Env := launch0.env 0 0 0
theorem w_frames : about1.frames = Frame.invoking theMethod args0 :: below0 := rfl
set_option maxRecDepth 65536 in
theorem w_args : argsFit about1.vm theMethod args0 = true := by decide +kernel
set_option maxRecDepth 65536 in
theorem w_heap : heapFits about1 = true := by decide +kernel
set_option maxRecDepth 65536 in
theorem w_runnable : about1.curStatus? = some .runnable := by decide +kernel
set_option maxRecDepth 65536 in
theorem w_alone : about1.alone = true := by decide +kernel
set_option maxRecDepth 65536 in
theorem w_named : about1.methodNamed? x = some theMethod := by decide +kernel
set_option maxRecDepth 65536 in
theorem w_hears : about1.hears theMethod below0 = true := by decide +kernel
set_option maxRecDepth 65536 in
theorem w_ripe : about1.ripe theMethod args0 below0 = true := by decide +kernel
theorem w_running : about1.status = .running := rfl
set_option maxRecDepth 65536 in
theorem w_room : about1.hasRoom e0.platform room_1 = true :=
  launch0.hasRoom_least _ room_1 (by decide +kernel) (by decide +kernel) (by decide +kernel) (by decide +kernel) (by decide +kernel) (by decide +kernel)
theorem allAtoms_all (ts : List Jvm.Cond) (a : Array Jvm.Value) (st : Jvm.State) : (allAtoms ts).before a st = ts.all (fun c => c.before a st) := by
  induction ts with
  | nil => rfl
  | cons c t ih =>
    show (Jvm.Cond.and c (allAtoms t)).before a st = _
    rw [Jvm.Cond.before_and, ih, List.all_cons]
def words1 : List Jvm.Cond := Jvm.Cond.code x code maxLocals ret :: tables_1
/-- a 'code' word, met by the world's own term for the bytes: nothing is compared byte by byte -/
theorem code_word {y : MethodName} {bytes : ByteArray} {mx : Nat} {rt : Option FieldType} {a : Array Value} {s : State} {m : MethodId} {meth : Method} {c : Code} (h1 : s.methodNamed? y = some m) (h2 : s.vm.method? m = some meth) (h3 : meth.code = some c) (h4 : c.code = bytes)
    (h5 : (c.maxLocals == mx && c.exceptionTable.isEmpty && decide (c.maxStack ≤ mostOperands) && decide (meth.sig.returnType = rt) && !meth.locks && decide (parseMethodDescriptor y.desc = some meth.sig)) = true) : (Jvm.Cond.code y bytes mx rt).before a s = true := by
  simp only [Bool.and_eq_true, beq_iff_eq, Bool.not_eq_true', decide_eq_true_eq] at h5
  obtain ⟨⟨⟨⟨⟨g1, g2⟩, g3⟩, g4⟩, g5⟩, g6⟩ := h5
  simp [Cond.before, Cond.holds, Cond.value, h1, h2, h3, h4, g1, g2, g3, g4, g5, g6]
def isCode : Jvm.Cond → Bool
  | .code _ _ _ _ => true
  | _ => false
theorem all_split {L : List Jvm.Cond} {P : Jvm.Cond → Bool} (h1 : L.all (fun c => isCode c || P c) = true) (h2 : ∀ c ∈ L.filter isCode, P c = true) : L.all P = true := by
  refine List.all_eq_true.mpr fun c hc => ?_
  have h := List.all_eq_true.mp h1 c hc
  rcases Bool.eq_false_or_eq_true (isCode c) with hi | hi
  · exact h2 c (List.mem_filter.mpr ⟨hc, hi⟩)
  · simpa [hi] using h
set_option maxRecDepth 65536 in
theorem w_c0 : (Jvm.Cond.code x code maxLocals ret).before args0 about1 = true := code_word (m := ⟨1, 1⟩) (meth := k1m1) (c := k1c1) (by decide +kernel) rfl rfl rfl (by decide +kernel)
set_option maxRecDepth 65536 in
theorem w_c1 : (Jvm.Cond.code ({ cls := "com/example/adjacency/adjacency/wire/PrefixedBytes", name := "copyOf", desc := "([B)Lcom/example/adjacency/adjacency/wire/PrefixedBytes;" } : Jvm.MethodName) prog_31_method_2_code (1 : Nat) (Option.some (Jvm.ClassFile.FieldType.object "com/example/adjacency/adjacency/wire/PrefixedBytes"))).before args0 about1 = true := code_word (m := ⟨2, 1⟩) (meth := k2m1) (c := k2c1) (by decide +kernel) rfl rfl rfl (by decide +kernel)
set_option maxRecDepth 65536 in
theorem w_c2 : (Jvm.Cond.code ({ cls := "com/example/adjacency/adjacency/wire/PrefixedBytes", name := "<init>", desc := "([BII)V" } : Jvm.MethodName) prog_31_method_1_code (4 : Nat) (Option.none : Option Jvm.ClassFile.FieldType)).before args0 about1 = true := code_word (m := ⟨2, 0⟩) (meth := k2m0) (c := k2c0) (by decide +kernel) rfl rfl rfl (by decide +kernel)
set_option maxRecDepth 65536 in
theorem w_c3 : (Jvm.Cond.code ({ cls := "java/lang/Object", name := "<init>", desc := "()V" } : Jvm.MethodName) object_method_1_code (1 : Nat) (Option.none : Option Jvm.ClassFile.FieldType)).before args0 about1 = true := code_word (m := ⟨0, 0⟩) (meth := k0m0) (c := k0c0) (by decide +kernel) rfl rfl rfl (by decide +kernel)
set_option maxRecDepth 65536 in
theorem w_c4 : (Jvm.Cond.code ({ cls := "com/example/adjacency/adjacency/wire/PrefixedBytesCopyOfPinLaw", name := "same", desc := "([B[BI)Z" } : Jvm.MethodName) method_3_code (3 : Nat) (Option.some Jvm.ClassFile.FieldType.boolean)).before args0 about1 = true := code_word (m := ⟨1, 2⟩) (meth := k1m2) (c := k1c2) (by decide +kernel) rfl rfl rfl (by decide +kernel)
set_option maxRecDepth 65536 in
theorem w_c5 : (Jvm.Cond.code ({ cls := "com/example/adjacency/adjacency/wire/PrefixedBytes", name := "length", desc := "()I" } : Jvm.MethodName) prog_31_method_4_code (1 : Nat) (Option.some Jvm.ClassFile.FieldType.int)).before args0 about1 = true := code_word (m := ⟨2, 2⟩) (meth := k2m2) (c := k2c2) (by decide +kernel) rfl rfl rfl (by decide +kernel)
set_option maxRecDepth 65536 in
theorem w_c6 : (Jvm.Cond.code ({ cls := "com/example/adjacency/adjacency/wire/PrefixedBytes", name := "prefixedLength", desc := "()I" } : Jvm.MethodName) prog_31_method_5_code (1 : Nat) (Option.some Jvm.ClassFile.FieldType.int)).before args0 about1 = true := code_word (m := ⟨2, 3⟩) (meth := k2m3) (c := k2c3) (by decide +kernel) rfl rfl rfl (by decide +kernel)
set_option maxRecDepth 65536 in
theorem w_c7 : (Jvm.Cond.code ({ cls := "com/example/adjacency/adjacency/wire/PrefixedBytes", name := "toArray", desc := "()[B" } : Jvm.MethodName) prog_31_method_7_code (1 : Nat) (Option.some (Jvm.ClassFile.FieldType.array Jvm.ClassFile.FieldType.byte))).before args0 about1 = true := code_word (m := ⟨2, 4⟩) (meth := k2m4) (c := k2c4) (by decide +kernel) rfl rfl rfl (by decide +kernel)
set_option maxRecDepth 65536 in
theorem w_c8 : (Jvm.Cond.code ({ cls := "java/util/Arrays", name := "copyOfRange", desc := "([BII)[B" } : Jvm.MethodName) jdk_65_method_132_code (3 : Nat) (Option.some (Jvm.ClassFile.FieldType.array Jvm.ClassFile.FieldType.byte))).before args0 about1 = true := code_word (m := ⟨4, 3⟩) (meth := k4m3) (c := k4c3) (by decide +kernel) rfl rfl rfl (by decide +kernel)
set_option maxRecDepth 65536 in
theorem w_c9 : (Jvm.Cond.code ({ cls := "com/example/adjacency/adjacency/wire/PrefixedBytes", name := "isSameAs", desc := "([B)Z" } : Jvm.MethodName) prog_31_method_8_code (2 : Nat) (Option.some Jvm.ClassFile.FieldType.boolean)).before args0 about1 = true := code_word (m := ⟨2, 5⟩) (meth := k2m5) (c := k2c5) (by decide +kernel) rfl rfl rfl (by decide +kernel)
set_option maxRecDepth 65536 in
theorem w_c10 : (Jvm.Cond.code ({ cls := "java/util/Arrays", name := "equals", desc := "([BII[BII)Z" } : Jvm.MethodName) jdk_65_method_90_code (8 : Nat) (Option.some Jvm.ClassFile.FieldType.boolean)).before args0 about1 = true := code_word (m := ⟨4, 2⟩) (meth := k4m2) (c := k4c2) (by decide +kernel) rfl rfl rfl (by decide +kernel)
set_option maxRecDepth 65536 in
theorem w_c11 : (Jvm.Cond.code ({ cls := "java/util/Arrays", name := "rangeCheck", desc := "(III)V" } : Jvm.MethodName) jdk_65_method_30_code (3 : Nat) (Option.none : Option Jvm.ClassFile.FieldType)).before args0 about1 = true := code_word (m := ⟨4, 1⟩) (meth := k4m1) (c := k4c1) (by decide +kernel) rfl rfl rfl (by decide +kernel)
set_option maxRecDepth 65536 in
theorem w_c12 : (Jvm.Cond.code ({ cls := "jdk/internal/util/ArraysSupport", name := "mismatch", desc := "([BI[BII)I" } : Jvm.MethodName) jdk_48_method_14_code (8 : Nat) (Option.some Jvm.ClassFile.FieldType.int)).before args0 about1 = true := code_word (m := ⟨5, 1⟩) (meth := k5m1) (c := k5c1) (by decide +kernel) rfl rfl rfl (by decide +kernel)
def codes1 : List Jvm.Cond := [Jvm.Cond.code x code maxLocals ret, Jvm.Cond.code ({ cls := "com/example/adjacency/adjacency/wire/PrefixedBytes", name := "copyOf", desc := "([B)Lcom/example/adjacency/adjacency/wire/PrefixedBytes;" } : Jvm.MethodName) prog_31_method_2_code (1 : Nat) (Option.some (Jvm.ClassFile.FieldType.object "com/example/adjacency/adjacency/wire/PrefixedBytes")), Jvm.Cond.code ({ cls := "com/example/adjacency/adjacency/wire/PrefixedBytes", name := "<init>", desc := "([BII)V" } : Jvm.MethodName) prog_31_method_1_code (4 : Nat) (Option.none : Option Jvm.ClassFile.FieldType), Jvm.Cond.code ({ cls := "java/lang/Object", name := "<init>", desc := "()V" } : Jvm.MethodName) object_method_1_code (1 : Nat) (Option.none : Option Jvm.ClassFile.FieldType), Jvm.Cond.code ({ cls := "com/example/adjacency/adjacency/wire/PrefixedBytesCopyOfPinLaw", name := "same", desc := "([B[BI)Z" } : Jvm.MethodName) method_3_code (3 : Nat) (Option.some Jvm.ClassFile.FieldType.boolean), Jvm.Cond.code ({ cls := "com/example/adjacency/adjacency/wire/PrefixedBytes", name := "length", desc := "()I" } : Jvm.MethodName) prog_31_method_4_code (1 : Nat) (Option.some Jvm.ClassFile.FieldType.int), Jvm.Cond.code ({ cls := "com/example/adjacency/adjacency/wire/PrefixedBytes", name := "prefixedLength", desc := "()I" } : Jvm.MethodName) prog_31_method_5_code (1 : Nat) (Option.some Jvm.ClassFile.FieldType.int), Jvm.Cond.code ({ cls := "com/example/adjacency/adjacency/wire/PrefixedBytes", name := "toArray", desc := "()[B" } : Jvm.MethodName) prog_31_method_7_code (1 : Nat) (Option.some (Jvm.ClassFile.FieldType.array Jvm.ClassFile.FieldType.byte)), Jvm.Cond.code ({ cls := "java/util/Arrays", name := "copyOfRange", desc := "([BII)[B" } : Jvm.MethodName) jdk_65_method_132_code (3 : Nat) (Option.some (Jvm.ClassFile.FieldType.array Jvm.ClassFile.FieldType.byte)), Jvm.Cond.code ({ cls := "com/example/adjacency/adjacency/wire/PrefixedBytes", name := "isSameAs", desc := "([B)Z" } : Jvm.MethodName) prog_31_method_8_code (2 : Nat) (Option.some Jvm.ClassFile.FieldType.boolean), Jvm.Cond.code ({ cls := "java/util/Arrays", name := "equals", desc := "([BII[BII)Z" } : Jvm.MethodName) jdk_65_method_90_code (8 : Nat) (Option.some Jvm.ClassFile.FieldType.boolean), Jvm.Cond.code ({ cls := "java/util/Arrays", name := "rangeCheck", desc := "(III)V" } : Jvm.MethodName) jdk_65_method_30_code (3 : Nat) (Option.none : Option Jvm.ClassFile.FieldType), Jvm.Cond.code ({ cls := "jdk/internal/util/ArraysSupport", name := "mismatch", desc := "([BI[BII)I" } : Jvm.MethodName) jdk_48_method_14_code (8 : Nat) (Option.some Jvm.ClassFile.FieldType.int)]
set_option maxRecDepth 65536 in
theorem codes_eq : words1.filter isCode = codes1 := rfl
theorem w_codes : ∀ c ∈ words1.filter isCode, c.before args0 about1 = true := by
  rw [codes_eq]
  intro c hc
  simp only [codes1, List.mem_cons, List.not_mem_nil, or_false] at hc
  rcases hc with rfl | rfl | rfl | rfl | rfl | rfl | rfl | rfl | rfl | rfl | rfl | rfl | rfl
  · exact w_c0
  · exact w_c1
  · exact w_c2
  · exact w_c3
  · exact w_c4
  · exact w_c5
  · exact w_c6
  · exact w_c7
  · exact w_c8
  · exact w_c9
  · exact w_c10
  · exact w_c11
  · exact w_c12
set_option maxRecDepth 65536 in
theorem w_t1 : (words1.take 24).all (fun c => isCode c || c.before args0 about1) = true := by decide +kernel
set_option maxRecDepth 65536 in
theorem w_t2 : ((words1.drop 24).take 24).all (fun c => isCode c || c.before args0 about1) = true := by decide +kernel
set_option maxRecDepth 65536 in
theorem w_t3 : ((words1.drop 24).drop 24).all (fun c => isCode c || c.before args0 about1) = true := by decide +kernel
theorem w_tables : (allAtoms (Jvm.Cond.code x code maxLocals ret :: tables_1)).before args0 about1 = true := by
  rw [allAtoms_all]
  show words1.all (fun c => c.before args0 about1) = true
  refine all_split ?_ w_codes
  rw [← List.take_append_drop 24 words1, List.all_append, w_t1, ← List.take_append_drop 24 (words1.drop 24), List.all_append, w_t2, w_t3]
  rfl
set_option maxRecDepth 65536 in
theorem w_case : (Jvm.Cond.and given_1 narrow_1).before args0 about1 = true := by decide +kernel
theorem w_applies : (headSpec (Jvm.Cond.code x code maxLocals ret :: tables_1) room_1).applies x e0.platform about1 = true :=
  (Spec.applies_iff w_frames).mpr ⟨w_running, w_runnable, w_alone, w_named, w_hears, w_ripe, w_room, w_tables⟩
theorem atStart : AtStart classFile x code maxLocals ret World_1 tables_1 room_1 Calls_1 rest_1 Pre_1 launch0 p0 e0 about1 theMethod args0 below0 :=
  ⟨lists_1, trivial, launch0.admits_env _ _ _, launch0.least_env, fairChoices_fair.cas, fairChoices_fair.clock, w_frames, w_args, w_heap, w_applies, trivial, trivial, w_case⟩
end start1
theorem witness_1 : WitnessClaimed_1 := ⟨start1.p0, start1.e0, start1.about1, start1.theMethod, start1.args0, start1.below0, start1.atStart⟩
end Jvm.Pilot.@@N@@
