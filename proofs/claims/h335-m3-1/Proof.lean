import JvmDerived
import JvmDerived.Pilot.@@N@@Statement
import JvmDerived.Pilot.@@N@@Code
set_option linter.unusedVariables false
set_option linter.unusedSimpArgs false
namespace Jvm.Pilot.@@N@@
open Jvm Jvm.ClassFile Sem Op Lib Jvm.Free Jvm.Stand Jvm.LawKit Jvm.RoadKit Bundle Jvm.Pilot.@@N@@.Jvm.D
/-- what is left to show at a frame of the walk: the run from there ends as the contract says -/
def own_G (p : Program) (e : Env) (below : List Frame) (s : State) (Q : Option Value → Heap → List Loc → Prop) (ce sl : Nat) (T : State) (g : JFrame) : Prop :=
  ∃ s₂ o, Steps p.tables e below (T.setTop g) s₂ ∧ s₂.status = .running ∧ Ended s₂ below o ∧ ∃ v L, o = .returned v ∧ Q v s₂.heap L ∧ FrameEnd s o s₂ L ce sl
theorem own_w {p : Program} {e : Env} {below : List Frame} {s : State} {Q : Option Value → Heap → List Loc → Prop} {ce sl : Nat} {T T' : State} {g g' : JFrame}
    (st : ∀ target, Steps p.tables e below (T'.setTop g') target → Steps p.tables e below (T.setTop g) target) (k : own_G p e below s Q ce sl T' g') : own_G p e below s Q ce sl T g := by
  obtain ⟨u, o, a, r⟩ := k
  exact ⟨u, o, st u a, r⟩
theorem own_t {p : Program} {e : Env} {below : List Frame} {s : State} {Q : Option Value → Heap → List Loc → Prop} {ce sl : Nat} {T T' : State} {g g' : JFrame}
    (st : Steps p.tables e below (T.setTop g) (T'.setTop g')) (k : own_G p e below s Q ce sl T' g') : own_G p e below s Q ce sl T g := own_w (fun _ k => st.trans k) k
theorem own_sta {Z : State} {h h' : Heap} {C n d : String} {v : Value} {a : Addr} (F : Sta Z h C n d v) (K : Keep h h' [a]) (na : ∀ cell : Cell, h[a]? = some cell → cell.vm.isStatics = false) : Sta Z h' C n d v := by
  obtain ⟨cf, i, k, f, st, cell, h1, h2, h3, h4, h5, h6, h7⟩ := F
  refine ⟨cf, i, k, f, st, cell, h1, h2, h3, h4, K.2.1 st cell h5 (fun q => ?_), h6, h7⟩
  have e : st = a := List.mem_singleton.mp q
  subst e
  rw [na _ h5] at h6; cases h6
theorem own_nb {P : Prop} [Decidable P] : narrow .boolean (.int (if P then (1 : Int32) else 0)) = .int (if P then (1 : Int32) else 0) := by split <;> rfl
theorem own_ite0 {P : Prop} [Decidable P] : ((if P then (1 : Int32) else 0) = 0) = ¬ P := by by_cases h : P <;> simp [h]
def own_Ar (Z : State) (h : Heap) (a : Addr) (ty : FieldType) (xs : List Int32) : Prop := ∃ c : Cell, Arr Z h a c ty ∧ c.slots = (xs.map Value.int).toArray
section Arrays
variable {Z : State} {h h' : Heap} {a b : Addr} {ty : FieldType} {xs : List Int32} {c : Cell} {i : Nat} {j x y v : Int32} {sl : Nat} {u : Value} {ws : List Addr}
theorem own_Ar_lt (V : own_Ar Z h a ty xs) : a < h.size := by obtain ⟨c, A, -⟩ := V; exact A.lt
theorem own_Ar_ext (V : own_Ar Z h a ty xs) (E : Ext h h') : own_Ar Z h' a ty xs := by obtain ⟨c, A, r⟩ := V; exact ⟨c, A.ext E, r⟩
theorem own_Ar_other (V : own_Ar Z h b ty xs) (W : Wr h h' a sl u) (q : b ≠ a) : own_Ar Z h' b ty xs := by obtain ⟨c, A, r⟩ := V; exact ⟨c, A.other W q, r⟩
theorem own_Ar_keep (V : own_Ar Z h a ty xs) (K : Keep h h' ws) (q : a ∉ ws) : own_Ar Z h' a ty xs := by obtain ⟨c, A, r⟩ := V; exact ⟨c, ⟨K.2.1 a c A.1 q, A.2⟩, r⟩
theorem own_Ar_new {cA : ClassId} {n : Int32} {k : Nat} (A : Arr Z h a (newA cA ty n) ty) (hd : defaultValue ty = .int 0) (hn : n.toNatClampNeg = k) : own_Ar Z h a ty (List.replicate k 0) := by
  refine ⟨_, A, ?_⟩
  show Array.replicate n.toNatClampNeg (defaultValue ty) = _
  rw [hd, hn]; simp
theorem own_ix (hj : j.toInt = (i : Int)) : j.toNatClampNeg = i := by show j.toInt.toNat = i; rw [hj]; rfl
theorem own_Ar_set (V : own_Ar Z h a ty xs) (W : Wr h h' a j.toNatClampNeg (.int y)) (hj : j.toInt = (i : Int)) (hv : y = v) : own_Ar Z h' a ty (xs.set i v) := by
  obtain ⟨c, A, hs⟩ := V
  subst hv
  refine ⟨_, A.same W, ?_⟩
  show c.slots.setIfInBounds _ _ = _
  rw [hs, own_ix hj]; simp [List.map_set]
theorem own_Ar_in (hs : c.slots = (xs.map Value.int).toArray) (hj : j.toInt = (i : Int)) (hi : i < xs.length) : ¬ (j < 0 ∨ c.slots.size ≤ j.toNatClampNeg) := by
  rw [hs, own_ix hj, Int32.lt_iff_toInt_lt, hj, show (0 : Int32).toInt = 0 from rfl]
  simp; omega
theorem own_Ar_at (hs : c.slots = (xs.map Value.int).toArray) (hj : j.toInt = (i : Int)) (hx : xs[i]? = some x) : c.slots[j.toNatClampNeg]? = some (.int x) := by
  rw [hs, own_ix hj]; simp [hx]
theorem own_fitc (A : Arr Z h a c ty) (hs : c.slots = (xs.map Value.int).toArray) (hf : ∀ x ∈ xs, fits ty (.int x) = true) : FitC Z c := fitC_of A fun i hi v hv => by
  rw [hs] at hv
  simp only [List.getElem?_toArray, List.getElem?_map, Option.map_eq_some_iff] at hv
  obtain ⟨x, hx, rfl⟩ := hv
  exact hf x (List.mem_of_getElem? hx)
theorem own_get_lt (hx : xs[i]? = some x) : i < xs.length := (List.getElem?_eq_some_iff.mp hx).1
end Arrays
theorem own_rem {x y : Int32} (d : Nat) (hy : y.toInt = d) (hd : 0 < d) (hx : 0 ≤ x.toInt) : (x - (x / y) * y).toInt = x.toInt % d := by
  have q := (c_idiv x y d hy (by intro h; rw [h] at hy; have : (-1 : Int32).toInt = -1 := by decide
                                 omega)).1 hx
  have m := c_imul (x / y) y
  have s := c_isub x (x / y * y)
  rw [q, hy] at m
  have e := Int.mul_ediv_add_emod x.toInt d
  have r0 := Int.emod_nonneg x.toInt (show (d : Int) ≠ 0 by omega)
  have r1 := Int.emod_lt_of_pos x.toInt (show (0 : Int) < d by omega)
  have p0 : 0 ≤ x.toInt / d := Int.ediv_nonneg hx (by omega)
  have p1 : 0 ≤ (d : Int) * (x.toInt / d) := Int.mul_nonneg (by omega) p0
  rw [Int.mul_comm (x.toInt / d) d] at m
  have l1 := x.toInt_lt; have l2 := (x / y * y).toInt_lt; have l3 := (x / y * y).le_toInt; have l4 := (x - x / y * y).toInt_lt; have l5 := (x - x / y * y).le_toInt
  have hy2 := y.toInt_lt
  generalize (d : Int) * (x.toInt / d) = P at *
  generalize x.toInt % (d : Int) = r at *
  omega
theorem own_ifc {A B : Prop} [Decidable A] [Decidable B] (h : A ↔ B) : (if A then (1 : Int32) else 0) = if B then 1 else 0 := by
  by_cases a : A
  · rw [if_pos a, if_pos (h.mp a)]
  · rw [if_neg a, if_neg fun b => a (h.mpr b)]
theorem own_d3_0 : decode jdk_89_method_89_code 0 = .ok (.iload_n 0, 1) := by decide +kernel
theorem own_d3_1 : decode jdk_89_method_89_code 1 = .ok (.sipush 159, 3) := by decide +kernel
theorem own_d3_4 : decode jdk_89_method_89_code 4 = .ok (.if_icmp .gt 19, 3) := by decide +kernel
theorem own_d3_23 : decode jdk_89_method_89_code 23 = .ok (.iconst 0, 1) := by decide +kernel
theorem own_d3_24 : decode jdk_89_method_89_code 24 = .ok (.ireturn, 1) := by decide +kernel
theorem own_d3_7 : decode jdk_89_method_89_code 7 = .ok (.iload_n 0, 1) := by decide +kernel
theorem own_d3_8 : decode jdk_89_method_89_code 8 = .ok (.bipush 127, 2) := by decide +kernel
theorem own_d3_10 : decode jdk_89_method_89_code 10 = .ok (.if_icmp .ge 9, 3) := by decide +kernel
theorem own_d3_13 : decode jdk_89_method_89_code 13 = .ok (.iload_n 0, 1) := by decide +kernel
theorem own_d3_14 : decode jdk_89_method_89_code 14 = .ok (.iconst 5, 1) := by decide +kernel
theorem own_d3_15 : decode jdk_89_method_89_code 15 = .ok (.iushr, 1) := by decide +kernel
theorem own_d3_16 : decode jdk_89_method_89_code 16 = .ok (.ifCond .ne 7, 3) := by decide +kernel
theorem own_d3_19 : decode jdk_89_method_89_code 19 = .ok (.iconst 1, 1) := by decide +kernel
theorem own_d3_20 : decode jdk_89_method_89_code 20 = .ok (.goto 4, 3) := by decide +kernel
theorem own_pn_java_lang_Character : plainName "java/lang/Character" = true := by first | (simp [plainName, overriddenIn]; done) | decide +kernel
theorem own_rm3_ef (m : MethodId) (c' : Int32) : entryFrame m #[(.int c')] 1 = mkF m 0 #[.val (.int c')] [] := by first | (simp [entryFrame, mkF, argsToLocals, Value.category]; done) | rfl
def own_Q3 (Z : State) (c' : Int32) (h0 : Heap) (n0 : Nat) (v_ : Option Value) (h : Heap) (L_ : List Loc) : Prop := v_ = some (.int (if (¬ (159 : Int32) < c' ∧ (¬ c' < (127 : Int32) ∨ ((c'.toUInt32 >>> ((5 : Int32) &&& 31).toUInt32).toInt32) = (0 : Int32))) then (1 : Int32) else 0)) ∧ Fr n0 L_ ∧ (h = h0)
set_option maxRecDepth 65536 in
set_option maxHeartbeats 40000000 in
theorem own_rm3 (l : Launch) (Z : State) (a0 : Array Value) (hw : ∀ d ∈ tables_1, d.before a0 Z = true) (ws : List Jvm.Cond) (c' : Int32) (h0 : Heap) (n0 : Nat) (Z0 : n0 ≤ h0.size)  :
    MetFree l (⟨"java/lang/Character", "isISOControl", "(I)Z"⟩ : MethodName) (head1 (Jvm.Cond.code (⟨"java/lang/Character", "isISOControl", "(I)Z"⟩ : MethodName) jdk_89_method_89_code 1 (some .boolean) :: ws) ({ frames := 0, cells := 0, slots := 0, locals := 0 } : Room)) (fun a_ U_ => a_ = #[(.int c')] ∧ Z.Warmed39 U_.vm ∧ U_.heap = h0) (fun _ _ _ _ _ => True) (fun _ U_ o_ V_ => ∃ v_ L_, o_ = .returned v_ ∧ own_Q3 Z c' h0 n0 v_ V_.heap L_ ∧ FrameEnd U_ o_ V_ L_ ({ frames := 0, cells := 0, slots := 0, locals := 0 } : Room).cells ({ frames := 0, cells := 0, slots := 0, locals := 0 } : Room).slots) := by
  refine MetFree.of_bodySF (plainFor_of_name own_pn_java_lang_Character) hisR ?_
  intro p e s m args below meth c s₁ Bd hml0 hP hK
  obtain ⟨rfl, hZ, hh⟩ := hP
  have hx := Bd.exec
  have hby := Bd.bytes
  have hml : c.maxLocals = 1 := hml0
  have hown : s.vm.findClass "java/lang/Character" = some m.cls := findClass_of_methodNamed Bd.named
  have hnm := (name_of_methodNamed Bd.named Bd.method).1
  have X0 : Stand p l e ({ frames := 0, cells := 0, slots := 0, locals := 0 } : Room) s m #[(.int c')] below meth c s₁ [] 0 0 := Stand.of_body Bd
  have e0 : s₁.heap = h0 := by rw [← hh, Bd.state]; rfl
  have N0 := Fr.nil n0
  show own_G p e below s (own_Q3 Z c' h0 n0) ({ frames := 0, cells := 0, slots := 0, locals := 0 } : Room).cells ({ frames := 0, cells := 0, slots := 0, locals := 0 } : Room).slots s₁ (entryFrame m #[(.int c')] 1)
  rw [own_rm3_ef]
  refine own_w (T' := s₁) (g' := (mkF m 1 #[.val (.int c')] [(.int c')])) (fun _ k_ => XS.iloadN X0.here hx rfl (hb hby own_d3_0) rfl k_) ?_
  refine own_w (T' := s₁) (g' := (mkF m 4 #[.val (.int c')] [(.int (159 : Int32)), (.int c')])) (fun _ k_ => XS.sipush X0.here hx rfl (hb hby own_d3_1) k_) ?_
  by_cases hc4 : (159 : Int32) < c'
  · refine own_w (T' := s₁) (g' := (mkF m 23 #[.val (.int c')] [])) (fun _ k_ => XS.icmpYes X0.here hx rfl (pc0 := 4) (pc' := 23) rfl (hb hby own_d3_4) rfl (tlt hc4).2.2.1 (by decide) (by decide) k_) ?_
    refine own_w (T' := s₁) (g' := (mkF m 24 #[.val (.int c')] [(.int (0 : Int32))])) (fun _ k_ => XS.iconst X0.here hx rfl (hb hby own_d3_23) k_) ?_
    obtain ⟨fs, hr, hrun, hended, hW, hsame⟩ := X0.leave (v := some (.int (0 : Int32))) (fun h => by rw [Bd.returns] at h; cases h)
    exact ⟨_, _, retOut X0 hx Bd.returns rfl (Or.inl ⟨rfl, Or.inr (Or.inl rfl), _, rfl⟩) (hb hby own_d3_24) hr, hrun, hended, _, _, rfl, (by show own_Q3 Z c' h0 n0 _ s₁.heap _; rw [e0]; exact ⟨(congrArg (fun z => some (Value.int z)) (if_neg (c := (¬ (159 : Int32) < c' ∧ (¬ c' < (127 : Int32) ∨ ((c'.toUInt32 >>> ((5 : Int32) &&& 31).toUInt32).toInt32) = (0 : Int32)))) (fun q => (fun q => q hc4) q.1)).symm), N0, rfl⟩), ⟨_, rfl⟩, hW, hsame.mono (by decide) (by decide)⟩
  · refine own_w (T' := s₁) (g' := (mkF m 7 #[.val (.int c')] [])) (fun _ k_ => XS.icmpNo X0.here hx rfl (hb hby own_d3_4) rfl (flt hc4).2.2.1 k_) ?_
    refine own_w (T' := s₁) (g' := (mkF m 8 #[.val (.int c')] [(.int c')])) (fun _ k_ => XS.iloadN X0.here hx rfl (hb hby own_d3_7) rfl k_) ?_
    refine own_w (T' := s₁) (g' := (mkF m 10 #[.val (.int c')] [(.int (127 : Int32)), (.int c')])) (fun _ k_ => XS.bipush X0.here hx rfl (hb hby own_d3_8) k_) ?_
    by_cases hc10 : c' < (127 : Int32)
    · refine own_w (T' := s₁) (g' := (mkF m 13 #[.val (.int c')] [])) (fun _ k_ => XS.icmpNo X0.here hx rfl (hb hby own_d3_10) rfl (tlt hc10).2.1 k_) ?_
      refine own_w (T' := s₁) (g' := (mkF m 14 #[.val (.int c')] [(.int c')])) (fun _ k_ => XS.iloadN X0.here hx rfl (hb hby own_d3_13) rfl k_) ?_
      refine own_w (T' := s₁) (g' := (mkF m 15 #[.val (.int c')] [(.int (5 : Int32)), (.int c')])) (fun _ k_ => XS.iconst X0.here hx rfl (hb hby own_d3_14) k_) ?_
      refine own_w (T' := s₁) (g' := (mkF m 16 #[.val (.int c')] [(.int ((c'.toUInt32 >>> ((5 : Int32) &&& 31).toUInt32).toInt32))])) (fun _ k_ => XS.iushr X0.here hx rfl (hb hby own_d3_15) rfl k_) ?_
      by_cases hc16 : ((c'.toUInt32 >>> ((5 : Int32) &&& 31).toUInt32).toInt32) = (0 : Int32)
      · refine own_w (T' := s₁) (g' := (mkF m 19 #[.val (.int c')] [])) (fun _ k_ => XS.ifNo X0.here hx rfl (hb hby own_d3_16) rfl ((if0 _ _).trans (teq hc16).2) k_) ?_
        refine own_w (T' := s₁) (g' := (mkF m 20 #[.val (.int c')] [(.int (1 : Int32))])) (fun _ k_ => XS.iconst X0.here hx rfl (hb hby own_d3_19) k_) ?_
        refine own_w (T' := s₁) (g' := (mkF m 24 #[.val (.int c')] [(.int (1 : Int32))])) (fun _ k_ => XS.goto X0.here hx rfl (pc0 := 20) (pc' := 24) rfl (hb hby own_d3_20) (by decide) (by decide) k_) ?_
        obtain ⟨fs, hr, hrun, hended, hW, hsame⟩ := X0.leave (v := some (.int (1 : Int32))) (fun h => by rw [Bd.returns] at h; cases h)
        exact ⟨_, _, retOut X0 hx Bd.returns rfl (Or.inl ⟨rfl, Or.inr (Or.inl rfl), _, rfl⟩) (hb hby own_d3_24) hr, hrun, hended, _, _, rfl, (by show own_Q3 Z c' h0 n0 _ s₁.heap _; rw [e0]; exact ⟨(congrArg (fun z => some (Value.int z)) (if_pos (c := (¬ (159 : Int32) < c' ∧ (¬ c' < (127 : Int32) ∨ ((c'.toUInt32 >>> ((5 : Int32) &&& 31).toUInt32).toInt32) = (0 : Int32)))) ⟨hc4, (Or.inr hc16)⟩).symm), N0, rfl⟩), ⟨_, rfl⟩, hW, hsame.mono (by decide) (by decide)⟩
      · refine own_w (T' := s₁) (g' := (mkF m 23 #[.val (.int c')] [])) (fun _ k_ => XS.ifYes X0.here hx rfl (pc0 := 16) (pc' := 23) rfl (hb hby own_d3_16) rfl ((if0 _ _).trans (feq hc16).2) (by decide) (by decide) k_) ?_
        refine own_w (T' := s₁) (g' := (mkF m 24 #[.val (.int c')] [(.int (0 : Int32))])) (fun _ k_ => XS.iconst X0.here hx rfl (hb hby own_d3_23) k_) ?_
        obtain ⟨fs, hr, hrun, hended, hW, hsame⟩ := X0.leave (v := some (.int (0 : Int32))) (fun h => by rw [Bd.returns] at h; cases h)
        exact ⟨_, _, retOut X0 hx Bd.returns rfl (Or.inl ⟨rfl, Or.inr (Or.inl rfl), _, rfl⟩) (hb hby own_d3_24) hr, hrun, hended, _, _, rfl, (by show own_Q3 Z c' h0 n0 _ s₁.heap _; rw [e0]; exact ⟨(congrArg (fun z => some (Value.int z)) (if_neg (c := (¬ (159 : Int32) < c' ∧ (¬ c' < (127 : Int32) ∨ ((c'.toUInt32 >>> ((5 : Int32) &&& 31).toUInt32).toInt32) = (0 : Int32)))) (fun q => (fun q => q.elim (fun q => q hc10) hc16) q.2)).symm), N0, rfl⟩), ⟨_, rfl⟩, hW, hsame.mono (by decide) (by decide)⟩
    · refine own_w (T' := s₁) (g' := (mkF m 19 #[.val (.int c')] [])) (fun _ k_ => XS.icmpYes X0.here hx rfl (pc0 := 10) (pc' := 19) rfl (hb hby own_d3_10) rfl (flt hc10).2.1 (by decide) (by decide) k_) ?_
      refine own_w (T' := s₁) (g' := (mkF m 20 #[.val (.int c')] [(.int (1 : Int32))])) (fun _ k_ => XS.iconst X0.here hx rfl (hb hby own_d3_19) k_) ?_
      refine own_w (T' := s₁) (g' := (mkF m 24 #[.val (.int c')] [(.int (1 : Int32))])) (fun _ k_ => XS.goto X0.here hx rfl (pc0 := 20) (pc' := 24) rfl (hb hby own_d3_20) (by decide) (by decide) k_) ?_
      obtain ⟨fs, hr, hrun, hended, hW, hsame⟩ := X0.leave (v := some (.int (1 : Int32))) (fun h => by rw [Bd.returns] at h; cases h)
      exact ⟨_, _, retOut X0 hx Bd.returns rfl (Or.inl ⟨rfl, Or.inr (Or.inl rfl), _, rfl⟩) (hb hby own_d3_24) hr, hrun, hended, _, _, rfl, (by show own_Q3 Z c' h0 n0 _ s₁.heap _; rw [e0]; exact ⟨(congrArg (fun z => some (Value.int z)) (if_pos (c := (¬ (159 : Int32) < c' ∧ (¬ c' < (127 : Int32) ∨ ((c'.toUInt32 >>> ((5 : Int32) &&& 31).toUInt32).toInt32) = (0 : Int32)))) ⟨hc4, (Or.inl hc10)⟩).symm), N0, rfl⟩), ⟨_, rfl⟩, hW, hsame.mono (by decide) (by decide)⟩
theorem own_d2_0 : decode jdk_89_method_88_code 0 = .ok (.iload_n 0, 1) := by decide +kernel
theorem own_d2_1 : decode jdk_89_method_88_code 1 = .ok (.invokestatic 266, 3) := by decide +kernel
theorem own_pd0 : parseMethodDescriptor "(I)Z" = some ⟨[.int], some .boolean⟩ := by decide +kernel
theorem own_d2_4 : decode jdk_89_method_88_code 4 = .ok (.ireturn, 1) := by decide +kernel
theorem own_rm2_ef (m : MethodId) (c' : Int32) : entryFrame m #[(.int c')] 1 = mkF m 0 #[.val (.int c')] [] := by first | (simp [entryFrame, mkF, argsToLocals, Value.category]; done) | rfl
def own_Q2 (Z : State) (c' : Int32) (h0 : Heap) (n0 : Nat) (v_ : Option Value) (h : Heap) (L_ : List Loc) : Prop := v_ = some (.int (if (¬ (159 : Int32) < c' ∧ (¬ c' < (127 : Int32) ∨ ((c'.toUInt32 >>> ((5 : Int32) &&& 31).toUInt32).toInt32) = (0 : Int32))) then (1 : Int32) else 0)) ∧ Fr n0 L_ ∧ (h = h0)
set_option maxRecDepth 65536 in
set_option maxHeartbeats 40000000 in
theorem own_rm2 (l : Launch) (Z : State) (a0 : Array Value) (hw : ∀ d ∈ tables_1, d.before a0 Z = true) (ws : List Jvm.Cond) (c' : Int32) (h0 : Heap) (n0 : Nat) (Z0 : n0 ≤ h0.size)  :
    MetFree l (⟨"java/lang/Character", "isISOControl", "(C)Z"⟩ : MethodName) (head1 (Jvm.Cond.code (⟨"java/lang/Character", "isISOControl", "(C)Z"⟩ : MethodName) jdk_89_method_88_code 1 (some .boolean) :: ws) ({ frames := 1, cells := 0, slots := 0, locals := 12 } : Room)) (fun a_ U_ => a_ = #[(.int c')] ∧ Z.Warmed39 U_.vm ∧ U_.heap = h0) (fun _ _ _ _ _ => True) (fun _ U_ o_ V_ => ∃ v_ L_, o_ = .returned v_ ∧ own_Q2 Z c' h0 n0 v_ V_.heap L_ ∧ FrameEnd U_ o_ V_ L_ ({ frames := 1, cells := 0, slots := 0, locals := 12 } : Room).cells ({ frames := 1, cells := 0, slots := 0, locals := 12 } : Room).slots) := by
  refine MetFree.of_bodySF (plainFor_of_name own_pn_java_lang_Character) hisR ?_
  intro p e s m args below meth c s₁ Bd hml0 hP hK
  obtain ⟨rfl, hZ, hh⟩ := hP
  have hx := Bd.exec
  have hby := Bd.bytes
  have hml : c.maxLocals = 1 := hml0
  have hown : s.vm.findClass "java/lang/Character" = some m.cls := findClass_of_methodNamed Bd.named
  have hnm := (name_of_methodNamed Bd.named Bd.method).1
  have X0 : Stand p l e ({ frames := 1, cells := 0, slots := 0, locals := 12 } : Room) s m #[(.int c')] below meth c s₁ [] 0 0 := Stand.of_body Bd
  have e0 : s₁.heap = h0 := by rw [← hh, Bd.state]; rfl
  have N0 := Fr.nil n0
  show own_G p e below s (own_Q2 Z c' h0 n0) ({ frames := 1, cells := 0, slots := 0, locals := 12 } : Room).cells ({ frames := 1, cells := 0, slots := 0, locals := 12 } : Room).slots s₁ (entryFrame m #[(.int c')] 1)
  rw [own_rm2_ef]
  refine own_w (T' := s₁) (g' := (mkF m 1 #[.val (.int c')] [(.int c')])) (fun _ k_ => XS.iloadN X0.here hx rfl (hb hby own_d2_0) rfl k_) ?_
  obtain ⟨_, _, ⟨T1, L1, k1, n1⟩, -, X1, ⟨Lc1, hQ1, l1, y1, z1⟩, st1⟩ := Jvm.LawKit.callS X0 hx (y := (⟨"java/lang/Character", "isISOControl", "(I)Z"⟩ : MethodName)) hown (mvT hZ (hw _ (List.mem_of_getElem? (i := 10) rfl))) (mvT hZ (hw _ (List.mem_of_getElem? (i := 11) rfl))) (mvT hZ (hw _ (List.mem_of_getElem? (i := 8) rfl))) (mvT hZ (hw _ (List.mem_of_getElem? (i := 12) rfl))) (by decide) (backOf (W := 0) (own_rm3 l Z a0 hw [] c'  h0 n0 Z0 ) hZ (hw _ (List.mem_of_getElem? (i := 12) rfl)) (hw _ (List.mem_of_getElem? (i := 8) rfl)) (by decide) (by decide)) (g := (mkF m 1 #[.val (.int c')] [(.int c')])) rfl (by rw [hml]; rfl) (argsL := [(.int c')]) (rest := []) (lenOf own_pd0 rfl) rfl (by show 2 * 0 + _ ≤ _; exact Nat.le_of_eq rfl) (hb hby own_d2_1) (fun _ _ => ⟨rfl, e0, (by decide : 0 + 0 ≤ _), (by decide : 0 + 0 ≤ _)⟩)
  dsimp only [Pt.U, Pt.locs, Pt.cells, Pt.slots] at X1 l1 y1 z1 st1 hQ1
  subst l1 y1 z1
  obtain ⟨rfl, N1q, e1⟩ := hQ1
  have N1 := Fr.app N0 N1q
  refine own_w (T' := T1) (g' := (mkF m 4 #[.val (.int c')] [(.int (if (¬ (159 : Int32) < c' ∧ (¬ c' < (127 : Int32) ∨ ((c'.toUInt32 >>> ((5 : Int32) &&& 31).toUInt32).toInt32) = (0 : Int32))) then (1 : Int32) else 0))])) st1 ?_
  obtain ⟨fs, hr, hrun, hended, hW, hsame⟩ := X1.leave (v := some (.int (if (¬ (159 : Int32) < c' ∧ (¬ c' < (127 : Int32) ∨ ((c'.toUInt32 >>> ((5 : Int32) &&& 31).toUInt32).toInt32) = (0 : Int32))) then (1 : Int32) else 0))) (fun h => by rw [Bd.returns] at h; cases h)
  exact ⟨_, _, retOut X1 hx Bd.returns own_nb (Or.inl ⟨rfl, Or.inr (Or.inl rfl), _, rfl⟩) (hb hby own_d2_4) hr, hrun, hended, _, _, rfl, (by show own_Q2 Z c' h0 n0 _ T1.heap _; rw [e1]; exact ⟨rfl, N1, rfl⟩), ⟨_, rfl⟩, hW, hsame.mono (by decide) (by decide)⟩
theorem own_d1_19 : decode prog_6_method_3_code 19 = .ok (.istore_n 1, 1) := by decide +kernel
theorem own_d1_46 : decode prog_6_method_3_code 46 = .ok (.istore_n 2, 1) := by decide +kernel
theorem own_d1_66 : decode prog_6_method_3_code 66 = .ok (.istore_n 3, 1) := by decide +kernel
theorem own_d1_86 : decode prog_6_method_3_code 86 = .ok (.istore 4, 2) := by decide +kernel
theorem own_d1_88 : decode prog_6_method_3_code 88 = .ok (.iload_n 0, 1) := by decide +kernel
theorem own_d1_89 : decode prog_6_method_3_code 89 = .ok (.invokestatic 40, 3) := by decide +kernel
theorem own_pd1 : parseMethodDescriptor "(C)Z" = some ⟨[.char], some .boolean⟩ := by decide +kernel
theorem own_d1_92 : decode prog_6_method_3_code 92 = .ok (.ifCond .ne 20, 3) := by decide +kernel
theorem own_d1_112 : decode prog_6_method_3_code 112 = .ok (.iconst 1, 1) := by decide +kernel
theorem own_d1_113 : decode prog_6_method_3_code 113 = .ok (.goto 4, 3) := by decide +kernel
theorem own_d1_117 : decode prog_6_method_3_code 117 = .ok (.ireturn, 1) := by decide +kernel
theorem own_d1_95 : decode prog_6_method_3_code 95 = .ok (.iload_n 1, 1) := by decide +kernel
theorem own_d1_96 : decode prog_6_method_3_code 96 = .ok (.ifCond .ne 16, 3) := by decide +kernel
theorem own_d1_99 : decode prog_6_method_3_code 99 = .ok (.iload_n 2, 1) := by decide +kernel
theorem own_d1_100 : decode prog_6_method_3_code 100 = .ok (.ifCond .ne 12, 3) := by decide +kernel
theorem own_d1_103 : decode prog_6_method_3_code 103 = .ok (.iload_n 3, 1) := by decide +kernel
theorem own_d1_104 : decode prog_6_method_3_code 104 = .ok (.ifCond .ne 8, 3) := by decide +kernel
theorem own_d1_107 : decode prog_6_method_3_code 107 = .ok (.iload 4, 2) := by decide +kernel
theorem own_d1_109 : decode prog_6_method_3_code 109 = .ok (.ifCond .eq 7, 3) := by decide +kernel
theorem own_d1_116 : decode prog_6_method_3_code 116 = .ok (.iconst 0, 1) := by decide +kernel
theorem own_d1_67 : decode prog_6_method_3_code 67 = .ok (.iload_n 0, 1) := by decide +kernel
theorem own_d1_68 : decode prog_6_method_3_code 68 = .ok (.sipush 8294, 3) := by decide +kernel
theorem own_d1_71 : decode prog_6_method_3_code 71 = .ok (.if_icmp .lt 14, 3) := by decide +kernel
theorem own_d1_85 : decode prog_6_method_3_code 85 = .ok (.iconst 0, 1) := by decide +kernel
theorem own_d1_74 : decode prog_6_method_3_code 74 = .ok (.iload_n 0, 1) := by decide +kernel
theorem own_d1_75 : decode prog_6_method_3_code 75 = .ok (.sipush 8297, 3) := by decide +kernel
theorem own_d1_78 : decode prog_6_method_3_code 78 = .ok (.if_icmp .gt 7, 3) := by decide +kernel
theorem own_d1_81 : decode prog_6_method_3_code 81 = .ok (.iconst 1, 1) := by decide +kernel
theorem own_d1_82 : decode prog_6_method_3_code 82 = .ok (.goto 4, 3) := by decide +kernel
theorem own_d1_47 : decode prog_6_method_3_code 47 = .ok (.iload_n 0, 1) := by decide +kernel
theorem own_d1_48 : decode prog_6_method_3_code 48 = .ok (.sipush 8234, 3) := by decide +kernel
theorem own_d1_51 : decode prog_6_method_3_code 51 = .ok (.if_icmp .lt 14, 3) := by decide +kernel
theorem own_d1_65 : decode prog_6_method_3_code 65 = .ok (.iconst 0, 1) := by decide +kernel
theorem own_d1_54 : decode prog_6_method_3_code 54 = .ok (.iload_n 0, 1) := by decide +kernel
theorem own_d1_55 : decode prog_6_method_3_code 55 = .ok (.sipush 8238, 3) := by decide +kernel
theorem own_d1_58 : decode prog_6_method_3_code 58 = .ok (.if_icmp .gt 7, 3) := by decide +kernel
theorem own_d1_61 : decode prog_6_method_3_code 61 = .ok (.iconst 1, 1) := by decide +kernel
theorem own_d1_62 : decode prog_6_method_3_code 62 = .ok (.goto 4, 3) := by decide +kernel
theorem own_d1_20 : decode prog_6_method_3_code 20 = .ok (.iload_n 0, 1) := by decide +kernel
theorem own_d1_21 : decode prog_6_method_3_code 21 = .ok (.sipush 1564, 3) := by decide +kernel
theorem own_d1_24 : decode prog_6_method_3_code 24 = .ok (.if_icmp .eq 17, 3) := by decide +kernel
theorem own_d1_41 : decode prog_6_method_3_code 41 = .ok (.iconst 1, 1) := by decide +kernel
theorem own_d1_42 : decode prog_6_method_3_code 42 = .ok (.goto 4, 3) := by decide +kernel
theorem own_d1_27 : decode prog_6_method_3_code 27 = .ok (.iload_n 0, 1) := by decide +kernel
theorem own_d1_28 : decode prog_6_method_3_code 28 = .ok (.sipush 8206, 3) := by decide +kernel
theorem own_d1_31 : decode prog_6_method_3_code 31 = .ok (.if_icmp .eq 10, 3) := by decide +kernel
theorem own_d1_34 : decode prog_6_method_3_code 34 = .ok (.iload_n 0, 1) := by decide +kernel
theorem own_d1_35 : decode prog_6_method_3_code 35 = .ok (.sipush 8207, 3) := by decide +kernel
theorem own_d1_38 : decode prog_6_method_3_code 38 = .ok (.if_icmp .ne 7, 3) := by decide +kernel
theorem own_d1_45 : decode prog_6_method_3_code 45 = .ok (.iconst 0, 1) := by decide +kernel
theorem own_d1_0 : decode prog_6_method_3_code 0 = .ok (.iload_n 0, 1) := by decide +kernel
theorem own_d1_1 : decode prog_6_method_3_code 1 = .ok (.sipush 8232, 3) := by decide +kernel
theorem own_d1_4 : decode prog_6_method_3_code 4 = .ok (.if_icmp .eq 10, 3) := by decide +kernel
theorem own_d1_14 : decode prog_6_method_3_code 14 = .ok (.iconst 1, 1) := by decide +kernel
theorem own_d1_15 : decode prog_6_method_3_code 15 = .ok (.goto 4, 3) := by decide +kernel
theorem own_d1_7 : decode prog_6_method_3_code 7 = .ok (.iload_n 0, 1) := by decide +kernel
theorem own_d1_8 : decode prog_6_method_3_code 8 = .ok (.sipush 8233, 3) := by decide +kernel
theorem own_d1_11 : decode prog_6_method_3_code 11 = .ok (.if_icmp .ne 7, 3) := by decide +kernel
theorem own_d1_18 : decode prog_6_method_3_code 18 = .ok (.iconst 0, 1) := by decide +kernel
theorem own_pn_com_example_marshal_trust_marshaltrust_ControlCharacters : plainName "com/example/marshal_trust/marshaltrust/ControlCharacters" = true := by first | (simp [plainName, overriddenIn]; done) | decide +kernel
theorem own_rm1_ef (m : MethodId) (c' : Int32) : entryFrame m #[(.int c')] 5 = mkF m 0 #[.val (.int c'), .unset, .unset, .unset, .unset] [] := by first | (simp [entryFrame, mkF, argsToLocals, Value.category]; done) | rfl
def own_Q1 (Z : State) (c' : Int32) (h0 : Heap) (n0 : Nat) (v_ : Option Value) (h : Heap) (L_ : List Loc) : Prop := v_ = some (.int (if ((¬ (159 : Int32) < c' ∧ (¬ c' < (127 : Int32) ∨ ((c'.toUInt32 >>> ((5 : Int32) &&& 31).toUInt32).toInt32) = (0 : Int32))) ∨ (c' = (8232 : Int32) ∨ c' = (8233 : Int32)) ∨ (c' = (1564 : Int32) ∨ c' = (8206 : Int32) ∨ c' = (8207 : Int32)) ∨ (¬ c' < (8234 : Int32) ∧ ¬ (8238 : Int32) < c') ∨ (¬ c' < (8294 : Int32) ∧ ¬ (8297 : Int32) < c')) then (1 : Int32) else 0)) ∧ Fr n0 L_ ∧ (h = h0)
set_option maxRecDepth 65536 in
set_option maxHeartbeats 40000000 in
theorem own_rm1 (l : Launch) (Z : State) (a0 : Array Value) (hw : ∀ d ∈ tables_1, d.before a0 Z = true) (ws : List Jvm.Cond) (c' : Int32) (h0 : Heap) (n0 : Nat) (Z0 : n0 ≤ h0.size)  :
    MetFree l (⟨"com/example/marshal_trust/marshaltrust/ControlCharacters", "needsEscape", "(C)Z"⟩ : MethodName) (head1 (Jvm.Cond.code (⟨"com/example/marshal_trust/marshaltrust/ControlCharacters", "needsEscape", "(C)Z"⟩ : MethodName) prog_6_method_3_code 5 (some .boolean) :: ws) ({ frames := 2, cells := 0, slots := 0, locals := 24 } : Room)) (fun a_ U_ => a_ = #[(.int c')] ∧ Z.Warmed39 U_.vm ∧ U_.heap = h0) (fun _ _ _ _ _ => True) (fun _ U_ o_ V_ => ∃ v_ L_, o_ = .returned v_ ∧ own_Q1 Z c' h0 n0 v_ V_.heap L_ ∧ FrameEnd U_ o_ V_ L_ ({ frames := 2, cells := 0, slots := 0, locals := 24 } : Room).cells ({ frames := 2, cells := 0, slots := 0, locals := 24 } : Room).slots) := by
  refine MetFree.of_bodySF (plainFor_of_name own_pn_com_example_marshal_trust_marshaltrust_ControlCharacters) hisR ?_
  intro p e s m args below meth c s₁ Bd hml0 hP hK
  obtain ⟨rfl, hZ, hh⟩ := hP
  have hx := Bd.exec
  have hby := Bd.bytes
  have hml : c.maxLocals = 5 := hml0
  have hown : s.vm.findClass "com/example/marshal_trust/marshaltrust/ControlCharacters" = some m.cls := findClass_of_methodNamed Bd.named
  have hnm := (name_of_methodNamed Bd.named Bd.method).1
  have X0 : Stand p l e ({ frames := 2, cells := 0, slots := 0, locals := 24 } : Room) s m #[(.int c')] below meth c s₁ [] 0 0 := Stand.of_body Bd
  have e0 : s₁.heap = h0 := by rw [← hh, Bd.state]; rfl
  have N0 := Fr.nil n0
  show own_G p e below s (own_Q1 Z c' h0 n0) ({ frames := 2, cells := 0, slots := 0, locals := 24 } : Room).cells ({ frames := 2, cells := 0, slots := 0, locals := 24 } : Room).slots s₁ (entryFrame m #[(.int c')] 5)
  rw [own_rm1_ef]
  have J19 : ∀ (TJ : State) (LJ : List Loc) (XJ : Stand p l e ({ frames := 2, cells := 0, slots := 0, locals := 24 } : Room) s m #[(.int c')] below meth c TJ LJ 0 0) (eJ : TJ.heap = h0) (NJ : Fr n0 LJ), own_G p e below s (own_Q1 Z c' h0 n0) ({ frames := 2, cells := 0, slots := 0, locals := 24 } : Room).cells ({ frames := 2, cells := 0, slots := 0, locals := 24 } : Room).slots TJ (mkF m 19 #[.val (.int c'), .unset, .unset, .unset, .unset] [(.int (if (c' = (8232 : Int32) ∨ c' = (8233 : Int32)) then (1 : Int32) else 0))]) := by
    intro TJ LJ XJ eJ NJ 
    refine own_w (T' := TJ) (g' := (mkF m 20 #[.val (.int c'), .val (.int (if (c' = (8232 : Int32) ∨ c' = (8233 : Int32)) then (1 : Int32) else 0)), .unset, .unset, .unset] [])) (fun _ k_ => XS.istoreN XJ.here hx rfl (hb hby own_d1_19) rfl (l' := #[.val (.int c'), .val (.int (if (c' = (8232 : Int32) ∨ c' = (8233 : Int32)) then (1 : Int32) else 0)), .unset, .unset, .unset]) rfl k_) ?_
    have J46 : ∀ (TJ : State) (LJ : List Loc) (XJ : Stand p l e ({ frames := 2, cells := 0, slots := 0, locals := 24 } : Room) s m #[(.int c')] below meth c TJ LJ 0 0) (eJ : TJ.heap = h0) (NJ : Fr n0 LJ), own_G p e below s (own_Q1 Z c' h0 n0) ({ frames := 2, cells := 0, slots := 0, locals := 24 } : Room).cells ({ frames := 2, cells := 0, slots := 0, locals := 24 } : Room).slots TJ (mkF m 46 #[.val (.int c'), .val (.int (if (c' = (8232 : Int32) ∨ c' = (8233 : Int32)) then (1 : Int32) else 0)), .unset, .unset, .unset] [(.int (if (c' = (1564 : Int32) ∨ c' = (8206 : Int32) ∨ c' = (8207 : Int32)) then (1 : Int32) else 0))]) := by
      intro TJ LJ XJ eJ NJ 
      refine own_w (T' := TJ) (g' := (mkF m 47 #[.val (.int c'), .val (.int (if (c' = (8232 : Int32) ∨ c' = (8233 : Int32)) then (1 : Int32) else 0)), .val (.int (if (c' = (1564 : Int32) ∨ c' = (8206 : Int32) ∨ c' = (8207 : Int32)) then (1 : Int32) else 0)), .unset, .unset] [])) (fun _ k_ => XS.istoreN XJ.here hx rfl (hb hby own_d1_46) rfl (l' := #[.val (.int c'), .val (.int (if (c' = (8232 : Int32) ∨ c' = (8233 : Int32)) then (1 : Int32) else 0)), .val (.int (if (c' = (1564 : Int32) ∨ c' = (8206 : Int32) ∨ c' = (8207 : Int32)) then (1 : Int32) else 0)), .unset, .unset]) rfl k_) ?_
      have J66 : ∀ (TJ : State) (LJ : List Loc) (XJ : Stand p l e ({ frames := 2, cells := 0, slots := 0, locals := 24 } : Room) s m #[(.int c')] below meth c TJ LJ 0 0) (eJ : TJ.heap = h0) (NJ : Fr n0 LJ), own_G p e below s (own_Q1 Z c' h0 n0) ({ frames := 2, cells := 0, slots := 0, locals := 24 } : Room).cells ({ frames := 2, cells := 0, slots := 0, locals := 24 } : Room).slots TJ (mkF m 66 #[.val (.int c'), .val (.int (if (c' = (8232 : Int32) ∨ c' = (8233 : Int32)) then (1 : Int32) else 0)), .val (.int (if (c' = (1564 : Int32) ∨ c' = (8206 : Int32) ∨ c' = (8207 : Int32)) then (1 : Int32) else 0)), .unset, .unset] [(.int (if (¬ c' < (8234 : Int32) ∧ ¬ (8238 : Int32) < c') then (1 : Int32) else 0))]) := by
        intro TJ LJ XJ eJ NJ 
        refine own_w (T' := TJ) (g' := (mkF m 67 #[.val (.int c'), .val (.int (if (c' = (8232 : Int32) ∨ c' = (8233 : Int32)) then (1 : Int32) else 0)), .val (.int (if (c' = (1564 : Int32) ∨ c' = (8206 : Int32) ∨ c' = (8207 : Int32)) then (1 : Int32) else 0)), .val (.int (if (¬ c' < (8234 : Int32) ∧ ¬ (8238 : Int32) < c') then (1 : Int32) else 0)), .unset] [])) (fun _ k_ => XS.istoreN XJ.here hx rfl (hb hby own_d1_66) rfl (l' := #[.val (.int c'), .val (.int (if (c' = (8232 : Int32) ∨ c' = (8233 : Int32)) then (1 : Int32) else 0)), .val (.int (if (c' = (1564 : Int32) ∨ c' = (8206 : Int32) ∨ c' = (8207 : Int32)) then (1 : Int32) else 0)), .val (.int (if (¬ c' < (8234 : Int32) ∧ ¬ (8238 : Int32) < c') then (1 : Int32) else 0)), .unset]) rfl k_) ?_
        have J86 : ∀ (TJ : State) (LJ : List Loc) (XJ : Stand p l e ({ frames := 2, cells := 0, slots := 0, locals := 24 } : Room) s m #[(.int c')] below meth c TJ LJ 0 0) (eJ : TJ.heap = h0) (NJ : Fr n0 LJ), own_G p e below s (own_Q1 Z c' h0 n0) ({ frames := 2, cells := 0, slots := 0, locals := 24 } : Room).cells ({ frames := 2, cells := 0, slots := 0, locals := 24 } : Room).slots TJ (mkF m 86 #[.val (.int c'), .val (.int (if (c' = (8232 : Int32) ∨ c' = (8233 : Int32)) then (1 : Int32) else 0)), .val (.int (if (c' = (1564 : Int32) ∨ c' = (8206 : Int32) ∨ c' = (8207 : Int32)) then (1 : Int32) else 0)), .val (.int (if (¬ c' < (8234 : Int32) ∧ ¬ (8238 : Int32) < c') then (1 : Int32) else 0)), .unset] [(.int (if (¬ c' < (8294 : Int32) ∧ ¬ (8297 : Int32) < c') then (1 : Int32) else 0))]) := by
          intro TJ LJ XJ eJ NJ 
          refine own_w (T' := TJ) (g' := (mkF m 88 #[.val (.int c'), .val (.int (if (c' = (8232 : Int32) ∨ c' = (8233 : Int32)) then (1 : Int32) else 0)), .val (.int (if (c' = (1564 : Int32) ∨ c' = (8206 : Int32) ∨ c' = (8207 : Int32)) then (1 : Int32) else 0)), .val (.int (if (¬ c' < (8234 : Int32) ∧ ¬ (8238 : Int32) < c') then (1 : Int32) else 0)), .val (.int (if (¬ c' < (8294 : Int32) ∧ ¬ (8297 : Int32) < c') then (1 : Int32) else 0))] [])) (fun _ k_ => XS.istore XJ.here hx rfl (hb hby own_d1_86) rfl (l' := #[.val (.int c'), .val (.int (if (c' = (8232 : Int32) ∨ c' = (8233 : Int32)) then (1 : Int32) else 0)), .val (.int (if (c' = (1564 : Int32) ∨ c' = (8206 : Int32) ∨ c' = (8207 : Int32)) then (1 : Int32) else 0)), .val (.int (if (¬ c' < (8234 : Int32) ∧ ¬ (8238 : Int32) < c') then (1 : Int32) else 0)), .val (.int (if (¬ c' < (8294 : Int32) ∧ ¬ (8297 : Int32) < c') then (1 : Int32) else 0))]) rfl k_) ?_
          refine own_w (T' := TJ) (g' := (mkF m 89 #[.val (.int c'), .val (.int (if (c' = (8232 : Int32) ∨ c' = (8233 : Int32)) then (1 : Int32) else 0)), .val (.int (if (c' = (1564 : Int32) ∨ c' = (8206 : Int32) ∨ c' = (8207 : Int32)) then (1 : Int32) else 0)), .val (.int (if (¬ c' < (8234 : Int32) ∧ ¬ (8238 : Int32) < c') then (1 : Int32) else 0)), .val (.int (if (¬ c' < (8294 : Int32) ∧ ¬ (8297 : Int32) < c') then (1 : Int32) else 0))] [(.int c')])) (fun _ k_ => XS.iloadN XJ.here hx rfl (hb hby own_d1_88) rfl k_) ?_
          obtain ⟨_, _, ⟨T1, L1, k1, n1⟩, -, X1, ⟨Lc1, hQ1, l1, y1, z1⟩, st1⟩ := Jvm.LawKit.callS XJ hx (y := (⟨"java/lang/Character", "isISOControl", "(C)Z"⟩ : MethodName)) hown (mvT hZ (hw _ (List.mem_of_getElem? (i := 6) rfl))) (mvT hZ (hw _ (List.mem_of_getElem? (i := 7) rfl))) (mvT hZ (hw _ (List.mem_of_getElem? (i := 8) rfl))) (mvT hZ (hw _ (List.mem_of_getElem? (i := 9) rfl))) (by decide) (backOf (W := 0) (own_rm2 l Z a0 hw [] c'  h0 n0 Z0 ) hZ (hw _ (List.mem_of_getElem? (i := 9) rfl)) (hw _ (List.mem_of_getElem? (i := 8) rfl)) (by decide) (by decide)) (g := (mkF m 89 #[.val (.int c'), .val (.int (if (c' = (8232 : Int32) ∨ c' = (8233 : Int32)) then (1 : Int32) else 0)), .val (.int (if (c' = (1564 : Int32) ∨ c' = (8206 : Int32) ∨ c' = (8207 : Int32)) then (1 : Int32) else 0)), .val (.int (if (¬ c' < (8234 : Int32) ∧ ¬ (8238 : Int32) < c') then (1 : Int32) else 0)), .val (.int (if (¬ c' < (8294 : Int32) ∧ ¬ (8297 : Int32) < c') then (1 : Int32) else 0))] [(.int c')])) rfl (by rw [hml]; rfl) (argsL := [(.int c')]) (rest := []) (lenOf own_pd1 rfl) rfl (by show 2 * 0 + _ ≤ _; exact Nat.le_of_eq rfl) (hb hby own_d1_89) (fun _ _ => ⟨rfl, eJ, (by decide : 0 + 0 ≤ _), (by decide : 0 + 0 ≤ _)⟩)
          dsimp only [Pt.U, Pt.locs, Pt.cells, Pt.slots] at X1 l1 y1 z1 st1 hQ1
          subst l1 y1 z1
          obtain ⟨rfl, N1q, e1⟩ := hQ1
          have N1 := Fr.app NJ N1q
          refine own_w (T' := T1) (g' := (mkF m 92 #[.val (.int c'), .val (.int (if (c' = (8232 : Int32) ∨ c' = (8233 : Int32)) then (1 : Int32) else 0)), .val (.int (if (c' = (1564 : Int32) ∨ c' = (8206 : Int32) ∨ c' = (8207 : Int32)) then (1 : Int32) else 0)), .val (.int (if (¬ c' < (8234 : Int32) ∧ ¬ (8238 : Int32) < c') then (1 : Int32) else 0)), .val (.int (if (¬ c' < (8294 : Int32) ∧ ¬ (8297 : Int32) < c') then (1 : Int32) else 0))] [(.int (if (¬ (159 : Int32) < c' ∧ (¬ c' < (127 : Int32) ∨ ((c'.toUInt32 >>> ((5 : Int32) &&& 31).toUInt32).toInt32) = (0 : Int32))) then (1 : Int32) else 0))])) st1 ?_
          by_cases hc92 : (¬ (159 : Int32) < c' ∧ (¬ c' < (127 : Int32) ∨ ((c'.toUInt32 >>> ((5 : Int32) &&& 31).toUInt32).toInt32) = (0 : Int32)))
          · refine own_w (T' := T1) (g' := (mkF m 112 #[.val (.int c'), .val (.int (if (c' = (8232 : Int32) ∨ c' = (8233 : Int32)) then (1 : Int32) else 0)), .val (.int (if (c' = (1564 : Int32) ∨ c' = (8206 : Int32) ∨ c' = (8207 : Int32)) then (1 : Int32) else 0)), .val (.int (if (¬ c' < (8234 : Int32) ∧ ¬ (8238 : Int32) < c') then (1 : Int32) else 0)), .val (.int (if (¬ c' < (8294 : Int32) ∧ ¬ (8297 : Int32) < c') then (1 : Int32) else 0))] [])) (fun _ k_ => XS.ifYes X1.here hx rfl (pc0 := 92) (pc' := 112) rfl (hb hby own_d1_92) rfl ((if0 _ _).trans (feq (fun q => (own_ite0.mp q) (show ((¬ (159 : Int32) < c' ∧ (¬ c' < (127 : Int32) ∨ ((c'.toUInt32 >>> ((5 : Int32) &&& 31).toUInt32).toInt32) = (0 : Int32)))) from hc92))).2) (by decide) (by decide) k_) ?_
            refine own_w (T' := T1) (g' := (mkF m 113 #[.val (.int c'), .val (.int (if (c' = (8232 : Int32) ∨ c' = (8233 : Int32)) then (1 : Int32) else 0)), .val (.int (if (c' = (1564 : Int32) ∨ c' = (8206 : Int32) ∨ c' = (8207 : Int32)) then (1 : Int32) else 0)), .val (.int (if (¬ c' < (8234 : Int32) ∧ ¬ (8238 : Int32) < c') then (1 : Int32) else 0)), .val (.int (if (¬ c' < (8294 : Int32) ∧ ¬ (8297 : Int32) < c') then (1 : Int32) else 0))] [(.int (1 : Int32))])) (fun _ k_ => XS.iconst X1.here hx rfl (hb hby own_d1_112) k_) ?_
            refine own_w (T' := T1) (g' := (mkF m 117 #[.val (.int c'), .val (.int (if (c' = (8232 : Int32) ∨ c' = (8233 : Int32)) then (1 : Int32) else 0)), .val (.int (if (c' = (1564 : Int32) ∨ c' = (8206 : Int32) ∨ c' = (8207 : Int32)) then (1 : Int32) else 0)), .val (.int (if (¬ c' < (8234 : Int32) ∧ ¬ (8238 : Int32) < c') then (1 : Int32) else 0)), .val (.int (if (¬ c' < (8294 : Int32) ∧ ¬ (8297 : Int32) < c') then (1 : Int32) else 0))] [(.int (1 : Int32))])) (fun _ k_ => XS.goto X1.here hx rfl (pc0 := 113) (pc' := 117) rfl (hb hby own_d1_113) (by decide) (by decide) k_) ?_
            obtain ⟨fs, hr, hrun, hended, hW, hsame⟩ := X1.leave (v := some (.int (1 : Int32))) (fun h => by rw [Bd.returns] at h; cases h)
            exact ⟨_, _, retOut X1 hx Bd.returns rfl (Or.inl ⟨rfl, Or.inr (Or.inl rfl), _, rfl⟩) (hb hby own_d1_117) hr, hrun, hended, _, _, rfl, (by show own_Q1 Z c' h0 n0 _ T1.heap _; rw [e1]; exact ⟨(congrArg (fun z => some (Value.int z)) (if_pos (c := ((¬ (159 : Int32) < c' ∧ (¬ c' < (127 : Int32) ∨ ((c'.toUInt32 >>> ((5 : Int32) &&& 31).toUInt32).toInt32) = (0 : Int32))) ∨ (c' = (8232 : Int32) ∨ c' = (8233 : Int32)) ∨ (c' = (1564 : Int32) ∨ c' = (8206 : Int32) ∨ c' = (8207 : Int32)) ∨ (¬ c' < (8234 : Int32) ∧ ¬ (8238 : Int32) < c') ∨ (¬ c' < (8294 : Int32) ∧ ¬ (8297 : Int32) < c'))) (Or.inl hc92)).symm), N1, rfl⟩), ⟨_, rfl⟩, hW, hsame.mono (by decide) (by decide)⟩
          · refine own_w (T' := T1) (g' := (mkF m 95 #[.val (.int c'), .val (.int (if (c' = (8232 : Int32) ∨ c' = (8233 : Int32)) then (1 : Int32) else 0)), .val (.int (if (c' = (1564 : Int32) ∨ c' = (8206 : Int32) ∨ c' = (8207 : Int32)) then (1 : Int32) else 0)), .val (.int (if (¬ c' < (8234 : Int32) ∧ ¬ (8238 : Int32) < c') then (1 : Int32) else 0)), .val (.int (if (¬ c' < (8294 : Int32) ∧ ¬ (8297 : Int32) < c') then (1 : Int32) else 0))] [])) (fun _ k_ => XS.ifNo X1.here hx rfl (hb hby own_d1_92) rfl ((if0 _ _).trans (teq (own_ite0.mpr (show ¬ ((¬ (159 : Int32) < c' ∧ (¬ c' < (127 : Int32) ∨ ((c'.toUInt32 >>> ((5 : Int32) &&& 31).toUInt32).toInt32) = (0 : Int32)))) from hc92))).2) k_) ?_
            refine own_w (T' := T1) (g' := (mkF m 96 #[.val (.int c'), .val (.int (if (c' = (8232 : Int32) ∨ c' = (8233 : Int32)) then (1 : Int32) else 0)), .val (.int (if (c' = (1564 : Int32) ∨ c' = (8206 : Int32) ∨ c' = (8207 : Int32)) then (1 : Int32) else 0)), .val (.int (if (¬ c' < (8234 : Int32) ∧ ¬ (8238 : Int32) < c') then (1 : Int32) else 0)), .val (.int (if (¬ c' < (8294 : Int32) ∧ ¬ (8297 : Int32) < c') then (1 : Int32) else 0))] [(.int (if (c' = (8232 : Int32) ∨ c' = (8233 : Int32)) then (1 : Int32) else 0))])) (fun _ k_ => XS.iloadN X1.here hx rfl (hb hby own_d1_95) rfl k_) ?_
            by_cases hc96 : (c' = (8232 : Int32) ∨ c' = (8233 : Int32))
            · refine own_w (T' := T1) (g' := (mkF m 112 #[.val (.int c'), .val (.int (if (c' = (8232 : Int32) ∨ c' = (8233 : Int32)) then (1 : Int32) else 0)), .val (.int (if (c' = (1564 : Int32) ∨ c' = (8206 : Int32) ∨ c' = (8207 : Int32)) then (1 : Int32) else 0)), .val (.int (if (¬ c' < (8234 : Int32) ∧ ¬ (8238 : Int32) < c') then (1 : Int32) else 0)), .val (.int (if (¬ c' < (8294 : Int32) ∧ ¬ (8297 : Int32) < c') then (1 : Int32) else 0))] [])) (fun _ k_ => XS.ifYes X1.here hx rfl (pc0 := 96) (pc' := 112) rfl (hb hby own_d1_96) rfl ((if0 _ _).trans (feq (fun q => (own_ite0.mp q) (show ((c' = (8232 : Int32) ∨ c' = (8233 : Int32))) from hc96))).2) (by decide) (by decide) k_) ?_
              refine own_w (T' := T1) (g' := (mkF m 113 #[.val (.int c'), .val (.int (if (c' = (8232 : Int32) ∨ c' = (8233 : Int32)) then (1 : Int32) else 0)), .val (.int (if (c' = (1564 : Int32) ∨ c' = (8206 : Int32) ∨ c' = (8207 : Int32)) then (1 : Int32) else 0)), .val (.int (if (¬ c' < (8234 : Int32) ∧ ¬ (8238 : Int32) < c') then (1 : Int32) else 0)), .val (.int (if (¬ c' < (8294 : Int32) ∧ ¬ (8297 : Int32) < c') then (1 : Int32) else 0))] [(.int (1 : Int32))])) (fun _ k_ => XS.iconst X1.here hx rfl (hb hby own_d1_112) k_) ?_
              refine own_w (T' := T1) (g' := (mkF m 117 #[.val (.int c'), .val (.int (if (c' = (8232 : Int32) ∨ c' = (8233 : Int32)) then (1 : Int32) else 0)), .val (.int (if (c' = (1564 : Int32) ∨ c' = (8206 : Int32) ∨ c' = (8207 : Int32)) then (1 : Int32) else 0)), .val (.int (if (¬ c' < (8234 : Int32) ∧ ¬ (8238 : Int32) < c') then (1 : Int32) else 0)), .val (.int (if (¬ c' < (8294 : Int32) ∧ ¬ (8297 : Int32) < c') then (1 : Int32) else 0))] [(.int (1 : Int32))])) (fun _ k_ => XS.goto X1.here hx rfl (pc0 := 113) (pc' := 117) rfl (hb hby own_d1_113) (by decide) (by decide) k_) ?_
              obtain ⟨fs, hr, hrun, hended, hW, hsame⟩ := X1.leave (v := some (.int (1 : Int32))) (fun h => by rw [Bd.returns] at h; cases h)
              exact ⟨_, _, retOut X1 hx Bd.returns rfl (Or.inl ⟨rfl, Or.inr (Or.inl rfl), _, rfl⟩) (hb hby own_d1_117) hr, hrun, hended, _, _, rfl, (by show own_Q1 Z c' h0 n0 _ T1.heap _; rw [e1]; exact ⟨(congrArg (fun z => some (Value.int z)) (if_pos (c := ((¬ (159 : Int32) < c' ∧ (¬ c' < (127 : Int32) ∨ ((c'.toUInt32 >>> ((5 : Int32) &&& 31).toUInt32).toInt32) = (0 : Int32))) ∨ (c' = (8232 : Int32) ∨ c' = (8233 : Int32)) ∨ (c' = (1564 : Int32) ∨ c' = (8206 : Int32) ∨ c' = (8207 : Int32)) ∨ (¬ c' < (8234 : Int32) ∧ ¬ (8238 : Int32) < c') ∨ (¬ c' < (8294 : Int32) ∧ ¬ (8297 : Int32) < c'))) (Or.inr (Or.inl hc96))).symm), N1, rfl⟩), ⟨_, rfl⟩, hW, hsame.mono (by decide) (by decide)⟩
            · refine own_w (T' := T1) (g' := (mkF m 99 #[.val (.int c'), .val (.int (if (c' = (8232 : Int32) ∨ c' = (8233 : Int32)) then (1 : Int32) else 0)), .val (.int (if (c' = (1564 : Int32) ∨ c' = (8206 : Int32) ∨ c' = (8207 : Int32)) then (1 : Int32) else 0)), .val (.int (if (¬ c' < (8234 : Int32) ∧ ¬ (8238 : Int32) < c') then (1 : Int32) else 0)), .val (.int (if (¬ c' < (8294 : Int32) ∧ ¬ (8297 : Int32) < c') then (1 : Int32) else 0))] [])) (fun _ k_ => XS.ifNo X1.here hx rfl (hb hby own_d1_96) rfl ((if0 _ _).trans (teq (own_ite0.mpr (show ¬ ((c' = (8232 : Int32) ∨ c' = (8233 : Int32))) from hc96))).2) k_) ?_
              refine own_w (T' := T1) (g' := (mkF m 100 #[.val (.int c'), .val (.int (if (c' = (8232 : Int32) ∨ c' = (8233 : Int32)) then (1 : Int32) else 0)), .val (.int (if (c' = (1564 : Int32) ∨ c' = (8206 : Int32) ∨ c' = (8207 : Int32)) then (1 : Int32) else 0)), .val (.int (if (¬ c' < (8234 : Int32) ∧ ¬ (8238 : Int32) < c') then (1 : Int32) else 0)), .val (.int (if (¬ c' < (8294 : Int32) ∧ ¬ (8297 : Int32) < c') then (1 : Int32) else 0))] [(.int (if (c' = (1564 : Int32) ∨ c' = (8206 : Int32) ∨ c' = (8207 : Int32)) then (1 : Int32) else 0))])) (fun _ k_ => XS.iloadN X1.here hx rfl (hb hby own_d1_99) rfl k_) ?_
              by_cases hc100 : (c' = (1564 : Int32) ∨ c' = (8206 : Int32) ∨ c' = (8207 : Int32))
              · refine own_w (T' := T1) (g' := (mkF m 112 #[.val (.int c'), .val (.int (if (c' = (8232 : Int32) ∨ c' = (8233 : Int32)) then (1 : Int32) else 0)), .val (.int (if (c' = (1564 : Int32) ∨ c' = (8206 : Int32) ∨ c' = (8207 : Int32)) then (1 : Int32) else 0)), .val (.int (if (¬ c' < (8234 : Int32) ∧ ¬ (8238 : Int32) < c') then (1 : Int32) else 0)), .val (.int (if (¬ c' < (8294 : Int32) ∧ ¬ (8297 : Int32) < c') then (1 : Int32) else 0))] [])) (fun _ k_ => XS.ifYes X1.here hx rfl (pc0 := 100) (pc' := 112) rfl (hb hby own_d1_100) rfl ((if0 _ _).trans (feq (fun q => (own_ite0.mp q) (show ((c' = (1564 : Int32) ∨ c' = (8206 : Int32) ∨ c' = (8207 : Int32))) from hc100))).2) (by decide) (by decide) k_) ?_
                refine own_w (T' := T1) (g' := (mkF m 113 #[.val (.int c'), .val (.int (if (c' = (8232 : Int32) ∨ c' = (8233 : Int32)) then (1 : Int32) else 0)), .val (.int (if (c' = (1564 : Int32) ∨ c' = (8206 : Int32) ∨ c' = (8207 : Int32)) then (1 : Int32) else 0)), .val (.int (if (¬ c' < (8234 : Int32) ∧ ¬ (8238 : Int32) < c') then (1 : Int32) else 0)), .val (.int (if (¬ c' < (8294 : Int32) ∧ ¬ (8297 : Int32) < c') then (1 : Int32) else 0))] [(.int (1 : Int32))])) (fun _ k_ => XS.iconst X1.here hx rfl (hb hby own_d1_112) k_) ?_
                refine own_w (T' := T1) (g' := (mkF m 117 #[.val (.int c'), .val (.int (if (c' = (8232 : Int32) ∨ c' = (8233 : Int32)) then (1 : Int32) else 0)), .val (.int (if (c' = (1564 : Int32) ∨ c' = (8206 : Int32) ∨ c' = (8207 : Int32)) then (1 : Int32) else 0)), .val (.int (if (¬ c' < (8234 : Int32) ∧ ¬ (8238 : Int32) < c') then (1 : Int32) else 0)), .val (.int (if (¬ c' < (8294 : Int32) ∧ ¬ (8297 : Int32) < c') then (1 : Int32) else 0))] [(.int (1 : Int32))])) (fun _ k_ => XS.goto X1.here hx rfl (pc0 := 113) (pc' := 117) rfl (hb hby own_d1_113) (by decide) (by decide) k_) ?_
                obtain ⟨fs, hr, hrun, hended, hW, hsame⟩ := X1.leave (v := some (.int (1 : Int32))) (fun h => by rw [Bd.returns] at h; cases h)
                exact ⟨_, _, retOut X1 hx Bd.returns rfl (Or.inl ⟨rfl, Or.inr (Or.inl rfl), _, rfl⟩) (hb hby own_d1_117) hr, hrun, hended, _, _, rfl, (by show own_Q1 Z c' h0 n0 _ T1.heap _; rw [e1]; exact ⟨(congrArg (fun z => some (Value.int z)) (if_pos (c := ((¬ (159 : Int32) < c' ∧ (¬ c' < (127 : Int32) ∨ ((c'.toUInt32 >>> ((5 : Int32) &&& 31).toUInt32).toInt32) = (0 : Int32))) ∨ (c' = (8232 : Int32) ∨ c' = (8233 : Int32)) ∨ (c' = (1564 : Int32) ∨ c' = (8206 : Int32) ∨ c' = (8207 : Int32)) ∨ (¬ c' < (8234 : Int32) ∧ ¬ (8238 : Int32) < c') ∨ (¬ c' < (8294 : Int32) ∧ ¬ (8297 : Int32) < c'))) (Or.inr (Or.inr (Or.inl hc100)))).symm), N1, rfl⟩), ⟨_, rfl⟩, hW, hsame.mono (by decide) (by decide)⟩
              · refine own_w (T' := T1) (g' := (mkF m 103 #[.val (.int c'), .val (.int (if (c' = (8232 : Int32) ∨ c' = (8233 : Int32)) then (1 : Int32) else 0)), .val (.int (if (c' = (1564 : Int32) ∨ c' = (8206 : Int32) ∨ c' = (8207 : Int32)) then (1 : Int32) else 0)), .val (.int (if (¬ c' < (8234 : Int32) ∧ ¬ (8238 : Int32) < c') then (1 : Int32) else 0)), .val (.int (if (¬ c' < (8294 : Int32) ∧ ¬ (8297 : Int32) < c') then (1 : Int32) else 0))] [])) (fun _ k_ => XS.ifNo X1.here hx rfl (hb hby own_d1_100) rfl ((if0 _ _).trans (teq (own_ite0.mpr (show ¬ ((c' = (1564 : Int32) ∨ c' = (8206 : Int32) ∨ c' = (8207 : Int32))) from hc100))).2) k_) ?_
                refine own_w (T' := T1) (g' := (mkF m 104 #[.val (.int c'), .val (.int (if (c' = (8232 : Int32) ∨ c' = (8233 : Int32)) then (1 : Int32) else 0)), .val (.int (if (c' = (1564 : Int32) ∨ c' = (8206 : Int32) ∨ c' = (8207 : Int32)) then (1 : Int32) else 0)), .val (.int (if (¬ c' < (8234 : Int32) ∧ ¬ (8238 : Int32) < c') then (1 : Int32) else 0)), .val (.int (if (¬ c' < (8294 : Int32) ∧ ¬ (8297 : Int32) < c') then (1 : Int32) else 0))] [(.int (if (¬ c' < (8234 : Int32) ∧ ¬ (8238 : Int32) < c') then (1 : Int32) else 0))])) (fun _ k_ => XS.iloadN X1.here hx rfl (hb hby own_d1_103) rfl k_) ?_
                by_cases hc104 : (¬ c' < (8234 : Int32) ∧ ¬ (8238 : Int32) < c')
                · refine own_w (T' := T1) (g' := (mkF m 112 #[.val (.int c'), .val (.int (if (c' = (8232 : Int32) ∨ c' = (8233 : Int32)) then (1 : Int32) else 0)), .val (.int (if (c' = (1564 : Int32) ∨ c' = (8206 : Int32) ∨ c' = (8207 : Int32)) then (1 : Int32) else 0)), .val (.int (if (¬ c' < (8234 : Int32) ∧ ¬ (8238 : Int32) < c') then (1 : Int32) else 0)), .val (.int (if (¬ c' < (8294 : Int32) ∧ ¬ (8297 : Int32) < c') then (1 : Int32) else 0))] [])) (fun _ k_ => XS.ifYes X1.here hx rfl (pc0 := 104) (pc' := 112) rfl (hb hby own_d1_104) rfl ((if0 _ _).trans (feq (fun q => (own_ite0.mp q) (show ((¬ c' < (8234 : Int32) ∧ ¬ (8238 : Int32) < c')) from hc104))).2) (by decide) (by decide) k_) ?_
                  refine own_w (T' := T1) (g' := (mkF m 113 #[.val (.int c'), .val (.int (if (c' = (8232 : Int32) ∨ c' = (8233 : Int32)) then (1 : Int32) else 0)), .val (.int (if (c' = (1564 : Int32) ∨ c' = (8206 : Int32) ∨ c' = (8207 : Int32)) then (1 : Int32) else 0)), .val (.int (if (¬ c' < (8234 : Int32) ∧ ¬ (8238 : Int32) < c') then (1 : Int32) else 0)), .val (.int (if (¬ c' < (8294 : Int32) ∧ ¬ (8297 : Int32) < c') then (1 : Int32) else 0))] [(.int (1 : Int32))])) (fun _ k_ => XS.iconst X1.here hx rfl (hb hby own_d1_112) k_) ?_
                  refine own_w (T' := T1) (g' := (mkF m 117 #[.val (.int c'), .val (.int (if (c' = (8232 : Int32) ∨ c' = (8233 : Int32)) then (1 : Int32) else 0)), .val (.int (if (c' = (1564 : Int32) ∨ c' = (8206 : Int32) ∨ c' = (8207 : Int32)) then (1 : Int32) else 0)), .val (.int (if (¬ c' < (8234 : Int32) ∧ ¬ (8238 : Int32) < c') then (1 : Int32) else 0)), .val (.int (if (¬ c' < (8294 : Int32) ∧ ¬ (8297 : Int32) < c') then (1 : Int32) else 0))] [(.int (1 : Int32))])) (fun _ k_ => XS.goto X1.here hx rfl (pc0 := 113) (pc' := 117) rfl (hb hby own_d1_113) (by decide) (by decide) k_) ?_
                  obtain ⟨fs, hr, hrun, hended, hW, hsame⟩ := X1.leave (v := some (.int (1 : Int32))) (fun h => by rw [Bd.returns] at h; cases h)
                  exact ⟨_, _, retOut X1 hx Bd.returns rfl (Or.inl ⟨rfl, Or.inr (Or.inl rfl), _, rfl⟩) (hb hby own_d1_117) hr, hrun, hended, _, _, rfl, (by show own_Q1 Z c' h0 n0 _ T1.heap _; rw [e1]; exact ⟨(congrArg (fun z => some (Value.int z)) (if_pos (c := ((¬ (159 : Int32) < c' ∧ (¬ c' < (127 : Int32) ∨ ((c'.toUInt32 >>> ((5 : Int32) &&& 31).toUInt32).toInt32) = (0 : Int32))) ∨ (c' = (8232 : Int32) ∨ c' = (8233 : Int32)) ∨ (c' = (1564 : Int32) ∨ c' = (8206 : Int32) ∨ c' = (8207 : Int32)) ∨ (¬ c' < (8234 : Int32) ∧ ¬ (8238 : Int32) < c') ∨ (¬ c' < (8294 : Int32) ∧ ¬ (8297 : Int32) < c'))) (Or.inr (Or.inr (Or.inr (Or.inl hc104))))).symm), N1, rfl⟩), ⟨_, rfl⟩, hW, hsame.mono (by decide) (by decide)⟩
                · refine own_w (T' := T1) (g' := (mkF m 107 #[.val (.int c'), .val (.int (if (c' = (8232 : Int32) ∨ c' = (8233 : Int32)) then (1 : Int32) else 0)), .val (.int (if (c' = (1564 : Int32) ∨ c' = (8206 : Int32) ∨ c' = (8207 : Int32)) then (1 : Int32) else 0)), .val (.int (if (¬ c' < (8234 : Int32) ∧ ¬ (8238 : Int32) < c') then (1 : Int32) else 0)), .val (.int (if (¬ c' < (8294 : Int32) ∧ ¬ (8297 : Int32) < c') then (1 : Int32) else 0))] [])) (fun _ k_ => XS.ifNo X1.here hx rfl (hb hby own_d1_104) rfl ((if0 _ _).trans (teq (own_ite0.mpr (show ¬ ((¬ c' < (8234 : Int32) ∧ ¬ (8238 : Int32) < c')) from hc104))).2) k_) ?_
                  refine own_w (T' := T1) (g' := (mkF m 109 #[.val (.int c'), .val (.int (if (c' = (8232 : Int32) ∨ c' = (8233 : Int32)) then (1 : Int32) else 0)), .val (.int (if (c' = (1564 : Int32) ∨ c' = (8206 : Int32) ∨ c' = (8207 : Int32)) then (1 : Int32) else 0)), .val (.int (if (¬ c' < (8234 : Int32) ∧ ¬ (8238 : Int32) < c') then (1 : Int32) else 0)), .val (.int (if (¬ c' < (8294 : Int32) ∧ ¬ (8297 : Int32) < c') then (1 : Int32) else 0))] [(.int (if (¬ c' < (8294 : Int32) ∧ ¬ (8297 : Int32) < c') then (1 : Int32) else 0))])) (fun _ k_ => XS.iload X1.here hx rfl (hb hby own_d1_107) rfl k_) ?_
                  by_cases hc109 : (¬ c' < (8294 : Int32) ∧ ¬ (8297 : Int32) < c')
                  · refine own_w (T' := T1) (g' := (mkF m 112 #[.val (.int c'), .val (.int (if (c' = (8232 : Int32) ∨ c' = (8233 : Int32)) then (1 : Int32) else 0)), .val (.int (if (c' = (1564 : Int32) ∨ c' = (8206 : Int32) ∨ c' = (8207 : Int32)) then (1 : Int32) else 0)), .val (.int (if (¬ c' < (8234 : Int32) ∧ ¬ (8238 : Int32) < c') then (1 : Int32) else 0)), .val (.int (if (¬ c' < (8294 : Int32) ∧ ¬ (8297 : Int32) < c') then (1 : Int32) else 0))] [])) (fun _ k_ => XS.ifNo X1.here hx rfl (hb hby own_d1_109) rfl ((if0 _ _).trans (feq (fun q => (own_ite0.mp q) (show ((¬ c' < (8294 : Int32) ∧ ¬ (8297 : Int32) < c')) from hc109))).1) k_) ?_
                    refine own_w (T' := T1) (g' := (mkF m 113 #[.val (.int c'), .val (.int (if (c' = (8232 : Int32) ∨ c' = (8233 : Int32)) then (1 : Int32) else 0)), .val (.int (if (c' = (1564 : Int32) ∨ c' = (8206 : Int32) ∨ c' = (8207 : Int32)) then (1 : Int32) else 0)), .val (.int (if (¬ c' < (8234 : Int32) ∧ ¬ (8238 : Int32) < c') then (1 : Int32) else 0)), .val (.int (if (¬ c' < (8294 : Int32) ∧ ¬ (8297 : Int32) < c') then (1 : Int32) else 0))] [(.int (1 : Int32))])) (fun _ k_ => XS.iconst X1.here hx rfl (hb hby own_d1_112) k_) ?_
                    refine own_w (T' := T1) (g' := (mkF m 117 #[.val (.int c'), .val (.int (if (c' = (8232 : Int32) ∨ c' = (8233 : Int32)) then (1 : Int32) else 0)), .val (.int (if (c' = (1564 : Int32) ∨ c' = (8206 : Int32) ∨ c' = (8207 : Int32)) then (1 : Int32) else 0)), .val (.int (if (¬ c' < (8234 : Int32) ∧ ¬ (8238 : Int32) < c') then (1 : Int32) else 0)), .val (.int (if (¬ c' < (8294 : Int32) ∧ ¬ (8297 : Int32) < c') then (1 : Int32) else 0))] [(.int (1 : Int32))])) (fun _ k_ => XS.goto X1.here hx rfl (pc0 := 113) (pc' := 117) rfl (hb hby own_d1_113) (by decide) (by decide) k_) ?_
                    obtain ⟨fs, hr, hrun, hended, hW, hsame⟩ := X1.leave (v := some (.int (1 : Int32))) (fun h => by rw [Bd.returns] at h; cases h)
                    exact ⟨_, _, retOut X1 hx Bd.returns rfl (Or.inl ⟨rfl, Or.inr (Or.inl rfl), _, rfl⟩) (hb hby own_d1_117) hr, hrun, hended, _, _, rfl, (by show own_Q1 Z c' h0 n0 _ T1.heap _; rw [e1]; exact ⟨(congrArg (fun z => some (Value.int z)) (if_pos (c := ((¬ (159 : Int32) < c' ∧ (¬ c' < (127 : Int32) ∨ ((c'.toUInt32 >>> ((5 : Int32) &&& 31).toUInt32).toInt32) = (0 : Int32))) ∨ (c' = (8232 : Int32) ∨ c' = (8233 : Int32)) ∨ (c' = (1564 : Int32) ∨ c' = (8206 : Int32) ∨ c' = (8207 : Int32)) ∨ (¬ c' < (8234 : Int32) ∧ ¬ (8238 : Int32) < c') ∨ (¬ c' < (8294 : Int32) ∧ ¬ (8297 : Int32) < c'))) (Or.inr (Or.inr (Or.inr (Or.inr hc109))))).symm), N1, rfl⟩), ⟨_, rfl⟩, hW, hsame.mono (by decide) (by decide)⟩
                  · refine own_w (T' := T1) (g' := (mkF m 116 #[.val (.int c'), .val (.int (if (c' = (8232 : Int32) ∨ c' = (8233 : Int32)) then (1 : Int32) else 0)), .val (.int (if (c' = (1564 : Int32) ∨ c' = (8206 : Int32) ∨ c' = (8207 : Int32)) then (1 : Int32) else 0)), .val (.int (if (¬ c' < (8234 : Int32) ∧ ¬ (8238 : Int32) < c') then (1 : Int32) else 0)), .val (.int (if (¬ c' < (8294 : Int32) ∧ ¬ (8297 : Int32) < c') then (1 : Int32) else 0))] [])) (fun _ k_ => XS.ifYes X1.here hx rfl (pc0 := 109) (pc' := 116) rfl (hb hby own_d1_109) rfl ((if0 _ _).trans (teq (own_ite0.mpr (show ¬ ((¬ c' < (8294 : Int32) ∧ ¬ (8297 : Int32) < c')) from hc109))).1) (by decide) (by decide) k_) ?_
                    refine own_w (T' := T1) (g' := (mkF m 117 #[.val (.int c'), .val (.int (if (c' = (8232 : Int32) ∨ c' = (8233 : Int32)) then (1 : Int32) else 0)), .val (.int (if (c' = (1564 : Int32) ∨ c' = (8206 : Int32) ∨ c' = (8207 : Int32)) then (1 : Int32) else 0)), .val (.int (if (¬ c' < (8234 : Int32) ∧ ¬ (8238 : Int32) < c') then (1 : Int32) else 0)), .val (.int (if (¬ c' < (8294 : Int32) ∧ ¬ (8297 : Int32) < c') then (1 : Int32) else 0))] [(.int (0 : Int32))])) (fun _ k_ => XS.iconst X1.here hx rfl (hb hby own_d1_116) k_) ?_
                    obtain ⟨fs, hr, hrun, hended, hW, hsame⟩ := X1.leave (v := some (.int (0 : Int32))) (fun h => by rw [Bd.returns] at h; cases h)
                    exact ⟨_, _, retOut X1 hx Bd.returns rfl (Or.inl ⟨rfl, Or.inr (Or.inl rfl), _, rfl⟩) (hb hby own_d1_117) hr, hrun, hended, _, _, rfl, (by show own_Q1 Z c' h0 n0 _ T1.heap _; rw [e1]; exact ⟨(congrArg (fun z => some (Value.int z)) (if_neg (c := ((¬ (159 : Int32) < c' ∧ (¬ c' < (127 : Int32) ∨ ((c'.toUInt32 >>> ((5 : Int32) &&& 31).toUInt32).toInt32) = (0 : Int32))) ∨ (c' = (8232 : Int32) ∨ c' = (8233 : Int32)) ∨ (c' = (1564 : Int32) ∨ c' = (8206 : Int32) ∨ c' = (8207 : Int32)) ∨ (¬ c' < (8234 : Int32) ∧ ¬ (8238 : Int32) < c') ∨ (¬ c' < (8294 : Int32) ∧ ¬ (8297 : Int32) < c'))) (fun q => q.elim hc92 (fun q => q.elim hc96 (fun q => q.elim hc100 (fun q => q.elim hc104 hc109))))).symm), N1, rfl⟩), ⟨_, rfl⟩, hW, hsame.mono (by decide) (by decide)⟩
        refine own_w (T' := TJ) (g' := (mkF m 68 #[.val (.int c'), .val (.int (if (c' = (8232 : Int32) ∨ c' = (8233 : Int32)) then (1 : Int32) else 0)), .val (.int (if (c' = (1564 : Int32) ∨ c' = (8206 : Int32) ∨ c' = (8207 : Int32)) then (1 : Int32) else 0)), .val (.int (if (¬ c' < (8234 : Int32) ∧ ¬ (8238 : Int32) < c') then (1 : Int32) else 0)), .unset] [(.int c')])) (fun _ k_ => XS.iloadN XJ.here hx rfl (hb hby own_d1_67) rfl k_) ?_
        refine own_w (T' := TJ) (g' := (mkF m 71 #[.val (.int c'), .val (.int (if (c' = (8232 : Int32) ∨ c' = (8233 : Int32)) then (1 : Int32) else 0)), .val (.int (if (c' = (1564 : Int32) ∨ c' = (8206 : Int32) ∨ c' = (8207 : Int32)) then (1 : Int32) else 0)), .val (.int (if (¬ c' < (8234 : Int32) ∧ ¬ (8238 : Int32) < c') then (1 : Int32) else 0)), .unset] [(.int (8294 : Int32)), (.int c')])) (fun _ k_ => XS.sipush XJ.here hx rfl (hb hby own_d1_68) k_) ?_
        by_cases hc71 : c' < (8294 : Int32)
        · refine own_w (T' := TJ) (g' := (mkF m 85 #[.val (.int c'), .val (.int (if (c' = (8232 : Int32) ∨ c' = (8233 : Int32)) then (1 : Int32) else 0)), .val (.int (if (c' = (1564 : Int32) ∨ c' = (8206 : Int32) ∨ c' = (8207 : Int32)) then (1 : Int32) else 0)), .val (.int (if (¬ c' < (8234 : Int32) ∧ ¬ (8238 : Int32) < c') then (1 : Int32) else 0)), .unset] [])) (fun _ k_ => XS.icmpYes XJ.here hx rfl (pc0 := 71) (pc' := 85) rfl (hb hby own_d1_71) rfl (tlt hc71).1 (by decide) (by decide) k_) ?_
          refine own_w (T' := TJ) (g' := (mkF m 86 #[.val (.int c'), .val (.int (if (c' = (8232 : Int32) ∨ c' = (8233 : Int32)) then (1 : Int32) else 0)), .val (.int (if (c' = (1564 : Int32) ∨ c' = (8206 : Int32) ∨ c' = (8207 : Int32)) then (1 : Int32) else 0)), .val (.int (if (¬ c' < (8234 : Int32) ∧ ¬ (8238 : Int32) < c') then (1 : Int32) else 0)), .unset] [(.int (0 : Int32))])) (fun _ k_ => XS.iconst XJ.here hx rfl (hb hby own_d1_85) k_) ?_
          have j := J86 _ _ XJ eJ NJ
          rw [if_neg (show ¬ (¬ c' < (8294 : Int32) ∧ ¬ (8297 : Int32) < c') from (fun q => (fun q => q hc71) q.1))] at j
          exact j
        · refine own_w (T' := TJ) (g' := (mkF m 74 #[.val (.int c'), .val (.int (if (c' = (8232 : Int32) ∨ c' = (8233 : Int32)) then (1 : Int32) else 0)), .val (.int (if (c' = (1564 : Int32) ∨ c' = (8206 : Int32) ∨ c' = (8207 : Int32)) then (1 : Int32) else 0)), .val (.int (if (¬ c' < (8234 : Int32) ∧ ¬ (8238 : Int32) < c') then (1 : Int32) else 0)), .unset] [])) (fun _ k_ => XS.icmpNo XJ.here hx rfl (hb hby own_d1_71) rfl (flt hc71).1 k_) ?_
          refine own_w (T' := TJ) (g' := (mkF m 75 #[.val (.int c'), .val (.int (if (c' = (8232 : Int32) ∨ c' = (8233 : Int32)) then (1 : Int32) else 0)), .val (.int (if (c' = (1564 : Int32) ∨ c' = (8206 : Int32) ∨ c' = (8207 : Int32)) then (1 : Int32) else 0)), .val (.int (if (¬ c' < (8234 : Int32) ∧ ¬ (8238 : Int32) < c') then (1 : Int32) else 0)), .unset] [(.int c')])) (fun _ k_ => XS.iloadN XJ.here hx rfl (hb hby own_d1_74) rfl k_) ?_
          refine own_w (T' := TJ) (g' := (mkF m 78 #[.val (.int c'), .val (.int (if (c' = (8232 : Int32) ∨ c' = (8233 : Int32)) then (1 : Int32) else 0)), .val (.int (if (c' = (1564 : Int32) ∨ c' = (8206 : Int32) ∨ c' = (8207 : Int32)) then (1 : Int32) else 0)), .val (.int (if (¬ c' < (8234 : Int32) ∧ ¬ (8238 : Int32) < c') then (1 : Int32) else 0)), .unset] [(.int (8297 : Int32)), (.int c')])) (fun _ k_ => XS.sipush XJ.here hx rfl (hb hby own_d1_75) k_) ?_
          by_cases hc78 : (8297 : Int32) < c'
          · refine own_w (T' := TJ) (g' := (mkF m 85 #[.val (.int c'), .val (.int (if (c' = (8232 : Int32) ∨ c' = (8233 : Int32)) then (1 : Int32) else 0)), .val (.int (if (c' = (1564 : Int32) ∨ c' = (8206 : Int32) ∨ c' = (8207 : Int32)) then (1 : Int32) else 0)), .val (.int (if (¬ c' < (8234 : Int32) ∧ ¬ (8238 : Int32) < c') then (1 : Int32) else 0)), .unset] [])) (fun _ k_ => XS.icmpYes XJ.here hx rfl (pc0 := 78) (pc' := 85) rfl (hb hby own_d1_78) rfl (tlt hc78).2.2.1 (by decide) (by decide) k_) ?_
            refine own_w (T' := TJ) (g' := (mkF m 86 #[.val (.int c'), .val (.int (if (c' = (8232 : Int32) ∨ c' = (8233 : Int32)) then (1 : Int32) else 0)), .val (.int (if (c' = (1564 : Int32) ∨ c' = (8206 : Int32) ∨ c' = (8207 : Int32)) then (1 : Int32) else 0)), .val (.int (if (¬ c' < (8234 : Int32) ∧ ¬ (8238 : Int32) < c') then (1 : Int32) else 0)), .unset] [(.int (0 : Int32))])) (fun _ k_ => XS.iconst XJ.here hx rfl (hb hby own_d1_85) k_) ?_
            have j := J86 _ _ XJ eJ NJ
            rw [if_neg (show ¬ (¬ c' < (8294 : Int32) ∧ ¬ (8297 : Int32) < c') from (fun q => (fun q => q hc78) q.2))] at j
            exact j
          · refine own_w (T' := TJ) (g' := (mkF m 81 #[.val (.int c'), .val (.int (if (c' = (8232 : Int32) ∨ c' = (8233 : Int32)) then (1 : Int32) else 0)), .val (.int (if (c' = (1564 : Int32) ∨ c' = (8206 : Int32) ∨ c' = (8207 : Int32)) then (1 : Int32) else 0)), .val (.int (if (¬ c' < (8234 : Int32) ∧ ¬ (8238 : Int32) < c') then (1 : Int32) else 0)), .unset] [])) (fun _ k_ => XS.icmpNo XJ.here hx rfl (hb hby own_d1_78) rfl (flt hc78).2.2.1 k_) ?_
            refine own_w (T' := TJ) (g' := (mkF m 82 #[.val (.int c'), .val (.int (if (c' = (8232 : Int32) ∨ c' = (8233 : Int32)) then (1 : Int32) else 0)), .val (.int (if (c' = (1564 : Int32) ∨ c' = (8206 : Int32) ∨ c' = (8207 : Int32)) then (1 : Int32) else 0)), .val (.int (if (¬ c' < (8234 : Int32) ∧ ¬ (8238 : Int32) < c') then (1 : Int32) else 0)), .unset] [(.int (1 : Int32))])) (fun _ k_ => XS.iconst XJ.here hx rfl (hb hby own_d1_81) k_) ?_
            refine own_w (T' := TJ) (g' := (mkF m 86 #[.val (.int c'), .val (.int (if (c' = (8232 : Int32) ∨ c' = (8233 : Int32)) then (1 : Int32) else 0)), .val (.int (if (c' = (1564 : Int32) ∨ c' = (8206 : Int32) ∨ c' = (8207 : Int32)) then (1 : Int32) else 0)), .val (.int (if (¬ c' < (8234 : Int32) ∧ ¬ (8238 : Int32) < c') then (1 : Int32) else 0)), .unset] [(.int (1 : Int32))])) (fun _ k_ => XS.goto XJ.here hx rfl (pc0 := 82) (pc' := 86) rfl (hb hby own_d1_82) (by decide) (by decide) k_) ?_
            have j := J86 _ _ XJ eJ NJ
            rw [if_pos (show (¬ c' < (8294 : Int32) ∧ ¬ (8297 : Int32) < c') from ⟨hc71, hc78⟩)] at j
            exact j
      refine own_w (T' := TJ) (g' := (mkF m 48 #[.val (.int c'), .val (.int (if (c' = (8232 : Int32) ∨ c' = (8233 : Int32)) then (1 : Int32) else 0)), .val (.int (if (c' = (1564 : Int32) ∨ c' = (8206 : Int32) ∨ c' = (8207 : Int32)) then (1 : Int32) else 0)), .unset, .unset] [(.int c')])) (fun _ k_ => XS.iloadN XJ.here hx rfl (hb hby own_d1_47) rfl k_) ?_
      refine own_w (T' := TJ) (g' := (mkF m 51 #[.val (.int c'), .val (.int (if (c' = (8232 : Int32) ∨ c' = (8233 : Int32)) then (1 : Int32) else 0)), .val (.int (if (c' = (1564 : Int32) ∨ c' = (8206 : Int32) ∨ c' = (8207 : Int32)) then (1 : Int32) else 0)), .unset, .unset] [(.int (8234 : Int32)), (.int c')])) (fun _ k_ => XS.sipush XJ.here hx rfl (hb hby own_d1_48) k_) ?_
      by_cases hc51 : c' < (8234 : Int32)
      · refine own_w (T' := TJ) (g' := (mkF m 65 #[.val (.int c'), .val (.int (if (c' = (8232 : Int32) ∨ c' = (8233 : Int32)) then (1 : Int32) else 0)), .val (.int (if (c' = (1564 : Int32) ∨ c' = (8206 : Int32) ∨ c' = (8207 : Int32)) then (1 : Int32) else 0)), .unset, .unset] [])) (fun _ k_ => XS.icmpYes XJ.here hx rfl (pc0 := 51) (pc' := 65) rfl (hb hby own_d1_51) rfl (tlt hc51).1 (by decide) (by decide) k_) ?_
        refine own_w (T' := TJ) (g' := (mkF m 66 #[.val (.int c'), .val (.int (if (c' = (8232 : Int32) ∨ c' = (8233 : Int32)) then (1 : Int32) else 0)), .val (.int (if (c' = (1564 : Int32) ∨ c' = (8206 : Int32) ∨ c' = (8207 : Int32)) then (1 : Int32) else 0)), .unset, .unset] [(.int (0 : Int32))])) (fun _ k_ => XS.iconst XJ.here hx rfl (hb hby own_d1_65) k_) ?_
        have j := J66 _ _ XJ eJ NJ
        rw [if_neg (show ¬ (¬ c' < (8234 : Int32) ∧ ¬ (8238 : Int32) < c') from (fun q => (fun q => q hc51) q.1))] at j
        exact j
      · refine own_w (T' := TJ) (g' := (mkF m 54 #[.val (.int c'), .val (.int (if (c' = (8232 : Int32) ∨ c' = (8233 : Int32)) then (1 : Int32) else 0)), .val (.int (if (c' = (1564 : Int32) ∨ c' = (8206 : Int32) ∨ c' = (8207 : Int32)) then (1 : Int32) else 0)), .unset, .unset] [])) (fun _ k_ => XS.icmpNo XJ.here hx rfl (hb hby own_d1_51) rfl (flt hc51).1 k_) ?_
        refine own_w (T' := TJ) (g' := (mkF m 55 #[.val (.int c'), .val (.int (if (c' = (8232 : Int32) ∨ c' = (8233 : Int32)) then (1 : Int32) else 0)), .val (.int (if (c' = (1564 : Int32) ∨ c' = (8206 : Int32) ∨ c' = (8207 : Int32)) then (1 : Int32) else 0)), .unset, .unset] [(.int c')])) (fun _ k_ => XS.iloadN XJ.here hx rfl (hb hby own_d1_54) rfl k_) ?_
        refine own_w (T' := TJ) (g' := (mkF m 58 #[.val (.int c'), .val (.int (if (c' = (8232 : Int32) ∨ c' = (8233 : Int32)) then (1 : Int32) else 0)), .val (.int (if (c' = (1564 : Int32) ∨ c' = (8206 : Int32) ∨ c' = (8207 : Int32)) then (1 : Int32) else 0)), .unset, .unset] [(.int (8238 : Int32)), (.int c')])) (fun _ k_ => XS.sipush XJ.here hx rfl (hb hby own_d1_55) k_) ?_
        by_cases hc58 : (8238 : Int32) < c'
        · refine own_w (T' := TJ) (g' := (mkF m 65 #[.val (.int c'), .val (.int (if (c' = (8232 : Int32) ∨ c' = (8233 : Int32)) then (1 : Int32) else 0)), .val (.int (if (c' = (1564 : Int32) ∨ c' = (8206 : Int32) ∨ c' = (8207 : Int32)) then (1 : Int32) else 0)), .unset, .unset] [])) (fun _ k_ => XS.icmpYes XJ.here hx rfl (pc0 := 58) (pc' := 65) rfl (hb hby own_d1_58) rfl (tlt hc58).2.2.1 (by decide) (by decide) k_) ?_
          refine own_w (T' := TJ) (g' := (mkF m 66 #[.val (.int c'), .val (.int (if (c' = (8232 : Int32) ∨ c' = (8233 : Int32)) then (1 : Int32) else 0)), .val (.int (if (c' = (1564 : Int32) ∨ c' = (8206 : Int32) ∨ c' = (8207 : Int32)) then (1 : Int32) else 0)), .unset, .unset] [(.int (0 : Int32))])) (fun _ k_ => XS.iconst XJ.here hx rfl (hb hby own_d1_65) k_) ?_
          have j := J66 _ _ XJ eJ NJ
          rw [if_neg (show ¬ (¬ c' < (8234 : Int32) ∧ ¬ (8238 : Int32) < c') from (fun q => (fun q => q hc58) q.2))] at j
          exact j
        · refine own_w (T' := TJ) (g' := (mkF m 61 #[.val (.int c'), .val (.int (if (c' = (8232 : Int32) ∨ c' = (8233 : Int32)) then (1 : Int32) else 0)), .val (.int (if (c' = (1564 : Int32) ∨ c' = (8206 : Int32) ∨ c' = (8207 : Int32)) then (1 : Int32) else 0)), .unset, .unset] [])) (fun _ k_ => XS.icmpNo XJ.here hx rfl (hb hby own_d1_58) rfl (flt hc58).2.2.1 k_) ?_
          refine own_w (T' := TJ) (g' := (mkF m 62 #[.val (.int c'), .val (.int (if (c' = (8232 : Int32) ∨ c' = (8233 : Int32)) then (1 : Int32) else 0)), .val (.int (if (c' = (1564 : Int32) ∨ c' = (8206 : Int32) ∨ c' = (8207 : Int32)) then (1 : Int32) else 0)), .unset, .unset] [(.int (1 : Int32))])) (fun _ k_ => XS.iconst XJ.here hx rfl (hb hby own_d1_61) k_) ?_
          refine own_w (T' := TJ) (g' := (mkF m 66 #[.val (.int c'), .val (.int (if (c' = (8232 : Int32) ∨ c' = (8233 : Int32)) then (1 : Int32) else 0)), .val (.int (if (c' = (1564 : Int32) ∨ c' = (8206 : Int32) ∨ c' = (8207 : Int32)) then (1 : Int32) else 0)), .unset, .unset] [(.int (1 : Int32))])) (fun _ k_ => XS.goto XJ.here hx rfl (pc0 := 62) (pc' := 66) rfl (hb hby own_d1_62) (by decide) (by decide) k_) ?_
          have j := J66 _ _ XJ eJ NJ
          rw [if_pos (show (¬ c' < (8234 : Int32) ∧ ¬ (8238 : Int32) < c') from ⟨hc51, hc58⟩)] at j
          exact j
    refine own_w (T' := TJ) (g' := (mkF m 21 #[.val (.int c'), .val (.int (if (c' = (8232 : Int32) ∨ c' = (8233 : Int32)) then (1 : Int32) else 0)), .unset, .unset, .unset] [(.int c')])) (fun _ k_ => XS.iloadN XJ.here hx rfl (hb hby own_d1_20) rfl k_) ?_
    refine own_w (T' := TJ) (g' := (mkF m 24 #[.val (.int c'), .val (.int (if (c' = (8232 : Int32) ∨ c' = (8233 : Int32)) then (1 : Int32) else 0)), .unset, .unset, .unset] [(.int (1564 : Int32)), (.int c')])) (fun _ k_ => XS.sipush XJ.here hx rfl (hb hby own_d1_21) k_) ?_
    by_cases hc24 : c' = (1564 : Int32)
    · refine own_w (T' := TJ) (g' := (mkF m 41 #[.val (.int c'), .val (.int (if (c' = (8232 : Int32) ∨ c' = (8233 : Int32)) then (1 : Int32) else 0)), .unset, .unset, .unset] [])) (fun _ k_ => XS.icmpYes XJ.here hx rfl (pc0 := 24) (pc' := 41) rfl (hb hby own_d1_24) rfl (teq hc24).1 (by decide) (by decide) k_) ?_
      refine own_w (T' := TJ) (g' := (mkF m 42 #[.val (.int c'), .val (.int (if (c' = (8232 : Int32) ∨ c' = (8233 : Int32)) then (1 : Int32) else 0)), .unset, .unset, .unset] [(.int (1 : Int32))])) (fun _ k_ => XS.iconst XJ.here hx rfl (hb hby own_d1_41) k_) ?_
      refine own_w (T' := TJ) (g' := (mkF m 46 #[.val (.int c'), .val (.int (if (c' = (8232 : Int32) ∨ c' = (8233 : Int32)) then (1 : Int32) else 0)), .unset, .unset, .unset] [(.int (1 : Int32))])) (fun _ k_ => XS.goto XJ.here hx rfl (pc0 := 42) (pc' := 46) rfl (hb hby own_d1_42) (by decide) (by decide) k_) ?_
      have j := J46 _ _ XJ eJ NJ
      rw [if_pos (show (c' = (1564 : Int32) ∨ c' = (8206 : Int32) ∨ c' = (8207 : Int32)) from (Or.inl hc24))] at j
      exact j
    · refine own_w (T' := TJ) (g' := (mkF m 27 #[.val (.int c'), .val (.int (if (c' = (8232 : Int32) ∨ c' = (8233 : Int32)) then (1 : Int32) else 0)), .unset, .unset, .unset] [])) (fun _ k_ => XS.icmpNo XJ.here hx rfl (hb hby own_d1_24) rfl (feq hc24).1 k_) ?_
      refine own_w (T' := TJ) (g' := (mkF m 28 #[.val (.int c'), .val (.int (if (c' = (8232 : Int32) ∨ c' = (8233 : Int32)) then (1 : Int32) else 0)), .unset, .unset, .unset] [(.int c')])) (fun _ k_ => XS.iloadN XJ.here hx rfl (hb hby own_d1_27) rfl k_) ?_
      refine own_w (T' := TJ) (g' := (mkF m 31 #[.val (.int c'), .val (.int (if (c' = (8232 : Int32) ∨ c' = (8233 : Int32)) then (1 : Int32) else 0)), .unset, .unset, .unset] [(.int (8206 : Int32)), (.int c')])) (fun _ k_ => XS.sipush XJ.here hx rfl (hb hby own_d1_28) k_) ?_
      by_cases hc31 : c' = (8206 : Int32)
      · refine own_w (T' := TJ) (g' := (mkF m 41 #[.val (.int c'), .val (.int (if (c' = (8232 : Int32) ∨ c' = (8233 : Int32)) then (1 : Int32) else 0)), .unset, .unset, .unset] [])) (fun _ k_ => XS.icmpYes XJ.here hx rfl (pc0 := 31) (pc' := 41) rfl (hb hby own_d1_31) rfl (teq hc31).1 (by decide) (by decide) k_) ?_
        refine own_w (T' := TJ) (g' := (mkF m 42 #[.val (.int c'), .val (.int (if (c' = (8232 : Int32) ∨ c' = (8233 : Int32)) then (1 : Int32) else 0)), .unset, .unset, .unset] [(.int (1 : Int32))])) (fun _ k_ => XS.iconst XJ.here hx rfl (hb hby own_d1_41) k_) ?_
        refine own_w (T' := TJ) (g' := (mkF m 46 #[.val (.int c'), .val (.int (if (c' = (8232 : Int32) ∨ c' = (8233 : Int32)) then (1 : Int32) else 0)), .unset, .unset, .unset] [(.int (1 : Int32))])) (fun _ k_ => XS.goto XJ.here hx rfl (pc0 := 42) (pc' := 46) rfl (hb hby own_d1_42) (by decide) (by decide) k_) ?_
        have j := J46 _ _ XJ eJ NJ
        rw [if_pos (show (c' = (1564 : Int32) ∨ c' = (8206 : Int32) ∨ c' = (8207 : Int32)) from (Or.inr (Or.inl hc31)))] at j
        exact j
      · refine own_w (T' := TJ) (g' := (mkF m 34 #[.val (.int c'), .val (.int (if (c' = (8232 : Int32) ∨ c' = (8233 : Int32)) then (1 : Int32) else 0)), .unset, .unset, .unset] [])) (fun _ k_ => XS.icmpNo XJ.here hx rfl (hb hby own_d1_31) rfl (feq hc31).1 k_) ?_
        refine own_w (T' := TJ) (g' := (mkF m 35 #[.val (.int c'), .val (.int (if (c' = (8232 : Int32) ∨ c' = (8233 : Int32)) then (1 : Int32) else 0)), .unset, .unset, .unset] [(.int c')])) (fun _ k_ => XS.iloadN XJ.here hx rfl (hb hby own_d1_34) rfl k_) ?_
        refine own_w (T' := TJ) (g' := (mkF m 38 #[.val (.int c'), .val (.int (if (c' = (8232 : Int32) ∨ c' = (8233 : Int32)) then (1 : Int32) else 0)), .unset, .unset, .unset] [(.int (8207 : Int32)), (.int c')])) (fun _ k_ => XS.sipush XJ.here hx rfl (hb hby own_d1_35) k_) ?_
        by_cases hc38 : c' = (8207 : Int32)
        · refine own_w (T' := TJ) (g' := (mkF m 41 #[.val (.int c'), .val (.int (if (c' = (8232 : Int32) ∨ c' = (8233 : Int32)) then (1 : Int32) else 0)), .unset, .unset, .unset] [])) (fun _ k_ => XS.icmpNo XJ.here hx rfl (hb hby own_d1_38) rfl (teq hc38).2 k_) ?_
          refine own_w (T' := TJ) (g' := (mkF m 42 #[.val (.int c'), .val (.int (if (c' = (8232 : Int32) ∨ c' = (8233 : Int32)) then (1 : Int32) else 0)), .unset, .unset, .unset] [(.int (1 : Int32))])) (fun _ k_ => XS.iconst XJ.here hx rfl (hb hby own_d1_41) k_) ?_
          refine own_w (T' := TJ) (g' := (mkF m 46 #[.val (.int c'), .val (.int (if (c' = (8232 : Int32) ∨ c' = (8233 : Int32)) then (1 : Int32) else 0)), .unset, .unset, .unset] [(.int (1 : Int32))])) (fun _ k_ => XS.goto XJ.here hx rfl (pc0 := 42) (pc' := 46) rfl (hb hby own_d1_42) (by decide) (by decide) k_) ?_
          have j := J46 _ _ XJ eJ NJ
          rw [if_pos (show (c' = (1564 : Int32) ∨ c' = (8206 : Int32) ∨ c' = (8207 : Int32)) from (Or.inr (Or.inr hc38)))] at j
          exact j
        · refine own_w (T' := TJ) (g' := (mkF m 45 #[.val (.int c'), .val (.int (if (c' = (8232 : Int32) ∨ c' = (8233 : Int32)) then (1 : Int32) else 0)), .unset, .unset, .unset] [])) (fun _ k_ => XS.icmpYes XJ.here hx rfl (pc0 := 38) (pc' := 45) rfl (hb hby own_d1_38) rfl (feq hc38).2 (by decide) (by decide) k_) ?_
          refine own_w (T' := TJ) (g' := (mkF m 46 #[.val (.int c'), .val (.int (if (c' = (8232 : Int32) ∨ c' = (8233 : Int32)) then (1 : Int32) else 0)), .unset, .unset, .unset] [(.int (0 : Int32))])) (fun _ k_ => XS.iconst XJ.here hx rfl (hb hby own_d1_45) k_) ?_
          have j := J46 _ _ XJ eJ NJ
          rw [if_neg (show ¬ (c' = (1564 : Int32) ∨ c' = (8206 : Int32) ∨ c' = (8207 : Int32)) from (fun q => q.elim hc24 (fun q => q.elim hc31 hc38)))] at j
          exact j
  refine own_w (T' := s₁) (g' := (mkF m 1 #[.val (.int c'), .unset, .unset, .unset, .unset] [(.int c')])) (fun _ k_ => XS.iloadN X0.here hx rfl (hb hby own_d1_0) rfl k_) ?_
  refine own_w (T' := s₁) (g' := (mkF m 4 #[.val (.int c'), .unset, .unset, .unset, .unset] [(.int (8232 : Int32)), (.int c')])) (fun _ k_ => XS.sipush X0.here hx rfl (hb hby own_d1_1) k_) ?_
  by_cases hc4 : c' = (8232 : Int32)
  · refine own_w (T' := s₁) (g' := (mkF m 14 #[.val (.int c'), .unset, .unset, .unset, .unset] [])) (fun _ k_ => XS.icmpYes X0.here hx rfl (pc0 := 4) (pc' := 14) rfl (hb hby own_d1_4) rfl (teq hc4).1 (by decide) (by decide) k_) ?_
    refine own_w (T' := s₁) (g' := (mkF m 15 #[.val (.int c'), .unset, .unset, .unset, .unset] [(.int (1 : Int32))])) (fun _ k_ => XS.iconst X0.here hx rfl (hb hby own_d1_14) k_) ?_
    refine own_w (T' := s₁) (g' := (mkF m 19 #[.val (.int c'), .unset, .unset, .unset, .unset] [(.int (1 : Int32))])) (fun _ k_ => XS.goto X0.here hx rfl (pc0 := 15) (pc' := 19) rfl (hb hby own_d1_15) (by decide) (by decide) k_) ?_
    have j := J19 _ _ X0 e0 N0
    rw [if_pos (show (c' = (8232 : Int32) ∨ c' = (8233 : Int32)) from (Or.inl hc4))] at j
    exact j
  · refine own_w (T' := s₁) (g' := (mkF m 7 #[.val (.int c'), .unset, .unset, .unset, .unset] [])) (fun _ k_ => XS.icmpNo X0.here hx rfl (hb hby own_d1_4) rfl (feq hc4).1 k_) ?_
    refine own_w (T' := s₁) (g' := (mkF m 8 #[.val (.int c'), .unset, .unset, .unset, .unset] [(.int c')])) (fun _ k_ => XS.iloadN X0.here hx rfl (hb hby own_d1_7) rfl k_) ?_
    refine own_w (T' := s₁) (g' := (mkF m 11 #[.val (.int c'), .unset, .unset, .unset, .unset] [(.int (8233 : Int32)), (.int c')])) (fun _ k_ => XS.sipush X0.here hx rfl (hb hby own_d1_8) k_) ?_
    by_cases hc11 : c' = (8233 : Int32)
    · refine own_w (T' := s₁) (g' := (mkF m 14 #[.val (.int c'), .unset, .unset, .unset, .unset] [])) (fun _ k_ => XS.icmpNo X0.here hx rfl (hb hby own_d1_11) rfl (teq hc11).2 k_) ?_
      refine own_w (T' := s₁) (g' := (mkF m 15 #[.val (.int c'), .unset, .unset, .unset, .unset] [(.int (1 : Int32))])) (fun _ k_ => XS.iconst X0.here hx rfl (hb hby own_d1_14) k_) ?_
      refine own_w (T' := s₁) (g' := (mkF m 19 #[.val (.int c'), .unset, .unset, .unset, .unset] [(.int (1 : Int32))])) (fun _ k_ => XS.goto X0.here hx rfl (pc0 := 15) (pc' := 19) rfl (hb hby own_d1_15) (by decide) (by decide) k_) ?_
      have j := J19 _ _ X0 e0 N0
      rw [if_pos (show (c' = (8232 : Int32) ∨ c' = (8233 : Int32)) from (Or.inr hc11))] at j
      exact j
    · refine own_w (T' := s₁) (g' := (mkF m 18 #[.val (.int c'), .unset, .unset, .unset, .unset] [])) (fun _ k_ => XS.icmpYes X0.here hx rfl (pc0 := 11) (pc' := 18) rfl (hb hby own_d1_11) rfl (feq hc11).2 (by decide) (by decide) k_) ?_
      refine own_w (T' := s₁) (g' := (mkF m 19 #[.val (.int c'), .unset, .unset, .unset, .unset] [(.int (0 : Int32))])) (fun _ k_ => XS.iconst X0.here hx rfl (hb hby own_d1_18) k_) ?_
      have j := J19 _ _ X0 e0 N0
      rw [if_neg (show ¬ (c' = (8232 : Int32) ∨ c' = (8233 : Int32)) from (fun q => q.elim hc4 hc11))] at j
      exact j
theorem own_d4_24 : decode method_2_code 24 = .ok (.istore_n 1, 1) := by decide +kernel
theorem own_d4_44 : decode method_2_code 44 = .ok (.istore_n 2, 1) := by decide +kernel
theorem own_d4_71 : decode method_2_code 71 = .ok (.istore_n 3, 1) := by decide +kernel
theorem own_d4_91 : decode method_2_code 91 = .ok (.istore 4, 2) := by decide +kernel
theorem own_d4_112 : decode method_2_code 112 = .ok (.istore 5, 2) := by decide +kernel
theorem own_d4_114 : decode method_2_code 114 = .ok (.iload_n 1, 1) := by decide +kernel
theorem own_d4_115 : decode method_2_code 115 = .ok (.ifCond .ne 21, 3) := by decide +kernel
theorem own_d4_136 : decode method_2_code 136 = .ok (.iconst 1, 1) := by decide +kernel
theorem own_d4_137 : decode method_2_code 137 = .ok (.goto 4, 3) := by decide +kernel
theorem own_d4_141 : decode method_2_code 141 = .ok (.ireturn, 1) := by decide +kernel
theorem own_d4_118 : decode method_2_code 118 = .ok (.iload_n 2, 1) := by decide +kernel
theorem own_d4_119 : decode method_2_code 119 = .ok (.ifCond .ne 17, 3) := by decide +kernel
theorem own_d4_122 : decode method_2_code 122 = .ok (.iload_n 3, 1) := by decide +kernel
theorem own_d4_123 : decode method_2_code 123 = .ok (.ifCond .ne 13, 3) := by decide +kernel
theorem own_d4_126 : decode method_2_code 126 = .ok (.iload 4, 2) := by decide +kernel
theorem own_d4_128 : decode method_2_code 128 = .ok (.ifCond .ne 8, 3) := by decide +kernel
theorem own_d4_131 : decode method_2_code 131 = .ok (.iload 5, 2) := by decide +kernel
theorem own_d4_133 : decode method_2_code 133 = .ok (.ifCond .eq 7, 3) := by decide +kernel
theorem own_d4_140 : decode method_2_code 140 = .ok (.iconst 0, 1) := by decide +kernel
theorem own_d4_93 : decode method_2_code 93 = .ok (.iload_n 0, 1) := by decide +kernel
theorem own_d4_94 : decode method_2_code 94 = .ok (.sipush 8294, 3) := by decide +kernel
theorem own_d4_97 : decode method_2_code 97 = .ok (.if_icmp .lt 14, 3) := by decide +kernel
theorem own_d4_111 : decode method_2_code 111 = .ok (.iconst 0, 1) := by decide +kernel
theorem own_d4_100 : decode method_2_code 100 = .ok (.iload_n 0, 1) := by decide +kernel
theorem own_d4_101 : decode method_2_code 101 = .ok (.sipush 8297, 3) := by decide +kernel
theorem own_d4_104 : decode method_2_code 104 = .ok (.if_icmp .gt 7, 3) := by decide +kernel
theorem own_d4_107 : decode method_2_code 107 = .ok (.iconst 1, 1) := by decide +kernel
theorem own_d4_108 : decode method_2_code 108 = .ok (.goto 4, 3) := by decide +kernel
theorem own_d4_72 : decode method_2_code 72 = .ok (.iload_n 0, 1) := by decide +kernel
theorem own_d4_73 : decode method_2_code 73 = .ok (.sipush 8234, 3) := by decide +kernel
theorem own_d4_76 : decode method_2_code 76 = .ok (.if_icmp .lt 14, 3) := by decide +kernel
theorem own_d4_90 : decode method_2_code 90 = .ok (.iconst 0, 1) := by decide +kernel
theorem own_d4_79 : decode method_2_code 79 = .ok (.iload_n 0, 1) := by decide +kernel
theorem own_d4_80 : decode method_2_code 80 = .ok (.sipush 8238, 3) := by decide +kernel
theorem own_d4_83 : decode method_2_code 83 = .ok (.if_icmp .gt 7, 3) := by decide +kernel
theorem own_d4_86 : decode method_2_code 86 = .ok (.iconst 1, 1) := by decide +kernel
theorem own_d4_87 : decode method_2_code 87 = .ok (.goto 4, 3) := by decide +kernel
theorem own_d4_45 : decode method_2_code 45 = .ok (.iload_n 0, 1) := by decide +kernel
theorem own_d4_46 : decode method_2_code 46 = .ok (.sipush 1564, 3) := by decide +kernel
theorem own_d4_49 : decode method_2_code 49 = .ok (.if_icmp .eq 17, 3) := by decide +kernel
theorem own_d4_66 : decode method_2_code 66 = .ok (.iconst 1, 1) := by decide +kernel
theorem own_d4_67 : decode method_2_code 67 = .ok (.goto 4, 3) := by decide +kernel
theorem own_d4_52 : decode method_2_code 52 = .ok (.iload_n 0, 1) := by decide +kernel
theorem own_d4_53 : decode method_2_code 53 = .ok (.sipush 8206, 3) := by decide +kernel
theorem own_d4_56 : decode method_2_code 56 = .ok (.if_icmp .eq 10, 3) := by decide +kernel
theorem own_d4_59 : decode method_2_code 59 = .ok (.iload_n 0, 1) := by decide +kernel
theorem own_d4_60 : decode method_2_code 60 = .ok (.sipush 8207, 3) := by decide +kernel
theorem own_d4_63 : decode method_2_code 63 = .ok (.if_icmp .ne 7, 3) := by decide +kernel
theorem own_d4_70 : decode method_2_code 70 = .ok (.iconst 0, 1) := by decide +kernel
theorem own_d4_25 : decode method_2_code 25 = .ok (.iload_n 0, 1) := by decide +kernel
theorem own_d4_26 : decode method_2_code 26 = .ok (.sipush 8232, 3) := by decide +kernel
theorem own_d4_29 : decode method_2_code 29 = .ok (.if_icmp .eq 10, 3) := by decide +kernel
theorem own_d4_39 : decode method_2_code 39 = .ok (.iconst 1, 1) := by decide +kernel
theorem own_d4_40 : decode method_2_code 40 = .ok (.goto 4, 3) := by decide +kernel
theorem own_d4_32 : decode method_2_code 32 = .ok (.iload_n 0, 1) := by decide +kernel
theorem own_d4_33 : decode method_2_code 33 = .ok (.sipush 8233, 3) := by decide +kernel
theorem own_d4_36 : decode method_2_code 36 = .ok (.if_icmp .ne 7, 3) := by decide +kernel
theorem own_d4_43 : decode method_2_code 43 = .ok (.iconst 0, 1) := by decide +kernel
theorem own_d4_0 : decode method_2_code 0 = .ok (.iload_n 0, 1) := by decide +kernel
theorem own_d4_1 : decode method_2_code 1 = .ok (.bipush 31, 2) := by decide +kernel
theorem own_d4_3 : decode method_2_code 3 = .ok (.if_icmp .le 16, 3) := by decide +kernel
theorem own_d4_6 : decode method_2_code 6 = .ok (.iload_n 0, 1) := by decide +kernel
theorem own_d4_7 : decode method_2_code 7 = .ok (.bipush 127, 2) := by decide +kernel
theorem own_d4_9 : decode method_2_code 9 = .ok (.if_icmp .lt 14, 3) := by decide +kernel
theorem own_d4_23 : decode method_2_code 23 = .ok (.iconst 0, 1) := by decide +kernel
theorem own_d4_12 : decode method_2_code 12 = .ok (.iload_n 0, 1) := by decide +kernel
theorem own_d4_13 : decode method_2_code 13 = .ok (.sipush 159, 3) := by decide +kernel
theorem own_d4_16 : decode method_2_code 16 = .ok (.if_icmp .gt 7, 3) := by decide +kernel
theorem own_d4_19 : decode method_2_code 19 = .ok (.iconst 1, 1) := by decide +kernel
theorem own_d4_20 : decode method_2_code 20 = .ok (.goto 4, 3) := by decide +kernel
theorem own_pn_com_example_marshal_trust_marshaltrust_ControlCharactersNeedsEscapePinLaw : plainName "com/example/marshal_trust/marshaltrust/ControlCharactersNeedsEscapePinLaw" = true := by first | (simp [plainName, overriddenIn]; done) | decide +kernel
theorem own_rm4_ef (m : MethodId) (c' : Int32) : entryFrame m #[(.int c')] 6 = mkF m 0 #[.val (.int c'), .unset, .unset, .unset, .unset, .unset] [] := by first | (simp [entryFrame, mkF, argsToLocals, Value.category]; done) | rfl
def own_Q4 (Z : State) (c' : Int32) (h0 : Heap) (n0 : Nat) (v_ : Option Value) (h : Heap) (L_ : List Loc) : Prop := v_ = some (.int (if ((¬ (31 : Int32) < c' ∨ (¬ c' < (127 : Int32) ∧ ¬ (159 : Int32) < c')) ∨ (c' = (8232 : Int32) ∨ c' = (8233 : Int32)) ∨ (c' = (1564 : Int32) ∨ c' = (8206 : Int32) ∨ c' = (8207 : Int32)) ∨ (¬ c' < (8234 : Int32) ∧ ¬ (8238 : Int32) < c') ∨ (¬ c' < (8294 : Int32) ∧ ¬ (8297 : Int32) < c')) then (1 : Int32) else 0)) ∧ Fr n0 L_ ∧ (h = h0)
set_option maxRecDepth 65536 in
set_option maxHeartbeats 40000000 in
theorem own_rm4 (l : Launch) (Z : State) (a0 : Array Value) (hw : ∀ d ∈ tables_1, d.before a0 Z = true) (ws : List Jvm.Cond) (c' : Int32) (h0 : Heap) (n0 : Nat) (Z0 : n0 ≤ h0.size)  :
    MetFree l (⟨"com/example/marshal_trust/marshaltrust/ControlCharactersNeedsEscapePinLaw", "expected", "(I)Z"⟩ : MethodName) (head1 (Jvm.Cond.code (⟨"com/example/marshal_trust/marshaltrust/ControlCharactersNeedsEscapePinLaw", "expected", "(I)Z"⟩ : MethodName) method_2_code 6 (some .boolean) :: ws) ({ frames := 0, cells := 0, slots := 0, locals := 0 } : Room)) (fun a_ U_ => a_ = #[(.int c')] ∧ Z.Warmed39 U_.vm ∧ U_.heap = h0) (fun _ _ _ _ _ => True) (fun _ U_ o_ V_ => ∃ v_ L_, o_ = .returned v_ ∧ own_Q4 Z c' h0 n0 v_ V_.heap L_ ∧ FrameEnd U_ o_ V_ L_ ({ frames := 0, cells := 0, slots := 0, locals := 0 } : Room).cells ({ frames := 0, cells := 0, slots := 0, locals := 0 } : Room).slots) := by
  refine MetFree.of_bodySF (plainFor_of_name own_pn_com_example_marshal_trust_marshaltrust_ControlCharactersNeedsEscapePinLaw) hisR ?_
  intro p e s m args below meth c s₁ Bd hml0 hP hK
  obtain ⟨rfl, hZ, hh⟩ := hP
  have hx := Bd.exec
  have hby := Bd.bytes
  have hml : c.maxLocals = 6 := hml0
  have hown : s.vm.findClass "com/example/marshal_trust/marshaltrust/ControlCharactersNeedsEscapePinLaw" = some m.cls := findClass_of_methodNamed Bd.named
  have hnm := (name_of_methodNamed Bd.named Bd.method).1
  have X0 : Stand p l e ({ frames := 0, cells := 0, slots := 0, locals := 0 } : Room) s m #[(.int c')] below meth c s₁ [] 0 0 := Stand.of_body Bd
  have e0 : s₁.heap = h0 := by rw [← hh, Bd.state]; rfl
  have N0 := Fr.nil n0
  show own_G p e below s (own_Q4 Z c' h0 n0) ({ frames := 0, cells := 0, slots := 0, locals := 0 } : Room).cells ({ frames := 0, cells := 0, slots := 0, locals := 0 } : Room).slots s₁ (entryFrame m #[(.int c')] 6)
  rw [own_rm4_ef]
  have J24 : ∀ (TJ : State) (LJ : List Loc) (XJ : Stand p l e ({ frames := 0, cells := 0, slots := 0, locals := 0 } : Room) s m #[(.int c')] below meth c TJ LJ 0 0) (eJ : TJ.heap = h0) (NJ : Fr n0 LJ), own_G p e below s (own_Q4 Z c' h0 n0) ({ frames := 0, cells := 0, slots := 0, locals := 0 } : Room).cells ({ frames := 0, cells := 0, slots := 0, locals := 0 } : Room).slots TJ (mkF m 24 #[.val (.int c'), .unset, .unset, .unset, .unset, .unset] [(.int (if (¬ (31 : Int32) < c' ∨ (¬ c' < (127 : Int32) ∧ ¬ (159 : Int32) < c')) then (1 : Int32) else 0))]) := by
    intro TJ LJ XJ eJ NJ 
    refine own_w (T' := TJ) (g' := (mkF m 25 #[.val (.int c'), .val (.int (if (¬ (31 : Int32) < c' ∨ (¬ c' < (127 : Int32) ∧ ¬ (159 : Int32) < c')) then (1 : Int32) else 0)), .unset, .unset, .unset, .unset] [])) (fun _ k_ => XS.istoreN XJ.here hx rfl (hb hby own_d4_24) rfl (l' := #[.val (.int c'), .val (.int (if (¬ (31 : Int32) < c' ∨ (¬ c' < (127 : Int32) ∧ ¬ (159 : Int32) < c')) then (1 : Int32) else 0)), .unset, .unset, .unset, .unset]) rfl k_) ?_
    have J44 : ∀ (TJ : State) (LJ : List Loc) (XJ : Stand p l e ({ frames := 0, cells := 0, slots := 0, locals := 0 } : Room) s m #[(.int c')] below meth c TJ LJ 0 0) (eJ : TJ.heap = h0) (NJ : Fr n0 LJ), own_G p e below s (own_Q4 Z c' h0 n0) ({ frames := 0, cells := 0, slots := 0, locals := 0 } : Room).cells ({ frames := 0, cells := 0, slots := 0, locals := 0 } : Room).slots TJ (mkF m 44 #[.val (.int c'), .val (.int (if (¬ (31 : Int32) < c' ∨ (¬ c' < (127 : Int32) ∧ ¬ (159 : Int32) < c')) then (1 : Int32) else 0)), .unset, .unset, .unset, .unset] [(.int (if (c' = (8232 : Int32) ∨ c' = (8233 : Int32)) then (1 : Int32) else 0))]) := by
      intro TJ LJ XJ eJ NJ 
      refine own_w (T' := TJ) (g' := (mkF m 45 #[.val (.int c'), .val (.int (if (¬ (31 : Int32) < c' ∨ (¬ c' < (127 : Int32) ∧ ¬ (159 : Int32) < c')) then (1 : Int32) else 0)), .val (.int (if (c' = (8232 : Int32) ∨ c' = (8233 : Int32)) then (1 : Int32) else 0)), .unset, .unset, .unset] [])) (fun _ k_ => XS.istoreN XJ.here hx rfl (hb hby own_d4_44) rfl (l' := #[.val (.int c'), .val (.int (if (¬ (31 : Int32) < c' ∨ (¬ c' < (127 : Int32) ∧ ¬ (159 : Int32) < c')) then (1 : Int32) else 0)), .val (.int (if (c' = (8232 : Int32) ∨ c' = (8233 : Int32)) then (1 : Int32) else 0)), .unset, .unset, .unset]) rfl k_) ?_
      have J71 : ∀ (TJ : State) (LJ : List Loc) (XJ : Stand p l e ({ frames := 0, cells := 0, slots := 0, locals := 0 } : Room) s m #[(.int c')] below meth c TJ LJ 0 0) (eJ : TJ.heap = h0) (NJ : Fr n0 LJ), own_G p e below s (own_Q4 Z c' h0 n0) ({ frames := 0, cells := 0, slots := 0, locals := 0 } : Room).cells ({ frames := 0, cells := 0, slots := 0, locals := 0 } : Room).slots TJ (mkF m 71 #[.val (.int c'), .val (.int (if (¬ (31 : Int32) < c' ∨ (¬ c' < (127 : Int32) ∧ ¬ (159 : Int32) < c')) then (1 : Int32) else 0)), .val (.int (if (c' = (8232 : Int32) ∨ c' = (8233 : Int32)) then (1 : Int32) else 0)), .unset, .unset, .unset] [(.int (if (c' = (1564 : Int32) ∨ c' = (8206 : Int32) ∨ c' = (8207 : Int32)) then (1 : Int32) else 0))]) := by
        intro TJ LJ XJ eJ NJ 
        refine own_w (T' := TJ) (g' := (mkF m 72 #[.val (.int c'), .val (.int (if (¬ (31 : Int32) < c' ∨ (¬ c' < (127 : Int32) ∧ ¬ (159 : Int32) < c')) then (1 : Int32) else 0)), .val (.int (if (c' = (8232 : Int32) ∨ c' = (8233 : Int32)) then (1 : Int32) else 0)), .val (.int (if (c' = (1564 : Int32) ∨ c' = (8206 : Int32) ∨ c' = (8207 : Int32)) then (1 : Int32) else 0)), .unset, .unset] [])) (fun _ k_ => XS.istoreN XJ.here hx rfl (hb hby own_d4_71) rfl (l' := #[.val (.int c'), .val (.int (if (¬ (31 : Int32) < c' ∨ (¬ c' < (127 : Int32) ∧ ¬ (159 : Int32) < c')) then (1 : Int32) else 0)), .val (.int (if (c' = (8232 : Int32) ∨ c' = (8233 : Int32)) then (1 : Int32) else 0)), .val (.int (if (c' = (1564 : Int32) ∨ c' = (8206 : Int32) ∨ c' = (8207 : Int32)) then (1 : Int32) else 0)), .unset, .unset]) rfl k_) ?_
        have J91 : ∀ (TJ : State) (LJ : List Loc) (XJ : Stand p l e ({ frames := 0, cells := 0, slots := 0, locals := 0 } : Room) s m #[(.int c')] below meth c TJ LJ 0 0) (eJ : TJ.heap = h0) (NJ : Fr n0 LJ), own_G p e below s (own_Q4 Z c' h0 n0) ({ frames := 0, cells := 0, slots := 0, locals := 0 } : Room).cells ({ frames := 0, cells := 0, slots := 0, locals := 0 } : Room).slots TJ (mkF m 91 #[.val (.int c'), .val (.int (if (¬ (31 : Int32) < c' ∨ (¬ c' < (127 : Int32) ∧ ¬ (159 : Int32) < c')) then (1 : Int32) else 0)), .val (.int (if (c' = (8232 : Int32) ∨ c' = (8233 : Int32)) then (1 : Int32) else 0)), .val (.int (if (c' = (1564 : Int32) ∨ c' = (8206 : Int32) ∨ c' = (8207 : Int32)) then (1 : Int32) else 0)), .unset, .unset] [(.int (if (¬ c' < (8234 : Int32) ∧ ¬ (8238 : Int32) < c') then (1 : Int32) else 0))]) := by
          intro TJ LJ XJ eJ NJ 
          refine own_w (T' := TJ) (g' := (mkF m 93 #[.val (.int c'), .val (.int (if (¬ (31 : Int32) < c' ∨ (¬ c' < (127 : Int32) ∧ ¬ (159 : Int32) < c')) then (1 : Int32) else 0)), .val (.int (if (c' = (8232 : Int32) ∨ c' = (8233 : Int32)) then (1 : Int32) else 0)), .val (.int (if (c' = (1564 : Int32) ∨ c' = (8206 : Int32) ∨ c' = (8207 : Int32)) then (1 : Int32) else 0)), .val (.int (if (¬ c' < (8234 : Int32) ∧ ¬ (8238 : Int32) < c') then (1 : Int32) else 0)), .unset] [])) (fun _ k_ => XS.istore XJ.here hx rfl (hb hby own_d4_91) rfl (l' := #[.val (.int c'), .val (.int (if (¬ (31 : Int32) < c' ∨ (¬ c' < (127 : Int32) ∧ ¬ (159 : Int32) < c')) then (1 : Int32) else 0)), .val (.int (if (c' = (8232 : Int32) ∨ c' = (8233 : Int32)) then (1 : Int32) else 0)), .val (.int (if (c' = (1564 : Int32) ∨ c' = (8206 : Int32) ∨ c' = (8207 : Int32)) then (1 : Int32) else 0)), .val (.int (if (¬ c' < (8234 : Int32) ∧ ¬ (8238 : Int32) < c') then (1 : Int32) else 0)), .unset]) rfl k_) ?_
          have J112 : ∀ (TJ : State) (LJ : List Loc) (XJ : Stand p l e ({ frames := 0, cells := 0, slots := 0, locals := 0 } : Room) s m #[(.int c')] below meth c TJ LJ 0 0) (eJ : TJ.heap = h0) (NJ : Fr n0 LJ), own_G p e below s (own_Q4 Z c' h0 n0) ({ frames := 0, cells := 0, slots := 0, locals := 0 } : Room).cells ({ frames := 0, cells := 0, slots := 0, locals := 0 } : Room).slots TJ (mkF m 112 #[.val (.int c'), .val (.int (if (¬ (31 : Int32) < c' ∨ (¬ c' < (127 : Int32) ∧ ¬ (159 : Int32) < c')) then (1 : Int32) else 0)), .val (.int (if (c' = (8232 : Int32) ∨ c' = (8233 : Int32)) then (1 : Int32) else 0)), .val (.int (if (c' = (1564 : Int32) ∨ c' = (8206 : Int32) ∨ c' = (8207 : Int32)) then (1 : Int32) else 0)), .val (.int (if (¬ c' < (8234 : Int32) ∧ ¬ (8238 : Int32) < c') then (1 : Int32) else 0)), .unset] [(.int (if (¬ c' < (8294 : Int32) ∧ ¬ (8297 : Int32) < c') then (1 : Int32) else 0))]) := by
            intro TJ LJ XJ eJ NJ 
            refine own_w (T' := TJ) (g' := (mkF m 114 #[.val (.int c'), .val (.int (if (¬ (31 : Int32) < c' ∨ (¬ c' < (127 : Int32) ∧ ¬ (159 : Int32) < c')) then (1 : Int32) else 0)), .val (.int (if (c' = (8232 : Int32) ∨ c' = (8233 : Int32)) then (1 : Int32) else 0)), .val (.int (if (c' = (1564 : Int32) ∨ c' = (8206 : Int32) ∨ c' = (8207 : Int32)) then (1 : Int32) else 0)), .val (.int (if (¬ c' < (8234 : Int32) ∧ ¬ (8238 : Int32) < c') then (1 : Int32) else 0)), .val (.int (if (¬ c' < (8294 : Int32) ∧ ¬ (8297 : Int32) < c') then (1 : Int32) else 0))] [])) (fun _ k_ => XS.istore XJ.here hx rfl (hb hby own_d4_112) rfl (l' := #[.val (.int c'), .val (.int (if (¬ (31 : Int32) < c' ∨ (¬ c' < (127 : Int32) ∧ ¬ (159 : Int32) < c')) then (1 : Int32) else 0)), .val (.int (if (c' = (8232 : Int32) ∨ c' = (8233 : Int32)) then (1 : Int32) else 0)), .val (.int (if (c' = (1564 : Int32) ∨ c' = (8206 : Int32) ∨ c' = (8207 : Int32)) then (1 : Int32) else 0)), .val (.int (if (¬ c' < (8234 : Int32) ∧ ¬ (8238 : Int32) < c') then (1 : Int32) else 0)), .val (.int (if (¬ c' < (8294 : Int32) ∧ ¬ (8297 : Int32) < c') then (1 : Int32) else 0))]) rfl k_) ?_
            refine own_w (T' := TJ) (g' := (mkF m 115 #[.val (.int c'), .val (.int (if (¬ (31 : Int32) < c' ∨ (¬ c' < (127 : Int32) ∧ ¬ (159 : Int32) < c')) then (1 : Int32) else 0)), .val (.int (if (c' = (8232 : Int32) ∨ c' = (8233 : Int32)) then (1 : Int32) else 0)), .val (.int (if (c' = (1564 : Int32) ∨ c' = (8206 : Int32) ∨ c' = (8207 : Int32)) then (1 : Int32) else 0)), .val (.int (if (¬ c' < (8234 : Int32) ∧ ¬ (8238 : Int32) < c') then (1 : Int32) else 0)), .val (.int (if (¬ c' < (8294 : Int32) ∧ ¬ (8297 : Int32) < c') then (1 : Int32) else 0))] [(.int (if (¬ (31 : Int32) < c' ∨ (¬ c' < (127 : Int32) ∧ ¬ (159 : Int32) < c')) then (1 : Int32) else 0))])) (fun _ k_ => XS.iloadN XJ.here hx rfl (hb hby own_d4_114) rfl k_) ?_
            by_cases hc115 : (¬ (31 : Int32) < c' ∨ (¬ c' < (127 : Int32) ∧ ¬ (159 : Int32) < c'))
            · refine own_w (T' := TJ) (g' := (mkF m 136 #[.val (.int c'), .val (.int (if (¬ (31 : Int32) < c' ∨ (¬ c' < (127 : Int32) ∧ ¬ (159 : Int32) < c')) then (1 : Int32) else 0)), .val (.int (if (c' = (8232 : Int32) ∨ c' = (8233 : Int32)) then (1 : Int32) else 0)), .val (.int (if (c' = (1564 : Int32) ∨ c' = (8206 : Int32) ∨ c' = (8207 : Int32)) then (1 : Int32) else 0)), .val (.int (if (¬ c' < (8234 : Int32) ∧ ¬ (8238 : Int32) < c') then (1 : Int32) else 0)), .val (.int (if (¬ c' < (8294 : Int32) ∧ ¬ (8297 : Int32) < c') then (1 : Int32) else 0))] [])) (fun _ k_ => XS.ifYes XJ.here hx rfl (pc0 := 115) (pc' := 136) rfl (hb hby own_d4_115) rfl ((if0 _ _).trans (feq (fun q => (own_ite0.mp q) (show ((¬ (31 : Int32) < c' ∨ (¬ c' < (127 : Int32) ∧ ¬ (159 : Int32) < c'))) from hc115))).2) (by decide) (by decide) k_) ?_
              refine own_w (T' := TJ) (g' := (mkF m 137 #[.val (.int c'), .val (.int (if (¬ (31 : Int32) < c' ∨ (¬ c' < (127 : Int32) ∧ ¬ (159 : Int32) < c')) then (1 : Int32) else 0)), .val (.int (if (c' = (8232 : Int32) ∨ c' = (8233 : Int32)) then (1 : Int32) else 0)), .val (.int (if (c' = (1564 : Int32) ∨ c' = (8206 : Int32) ∨ c' = (8207 : Int32)) then (1 : Int32) else 0)), .val (.int (if (¬ c' < (8234 : Int32) ∧ ¬ (8238 : Int32) < c') then (1 : Int32) else 0)), .val (.int (if (¬ c' < (8294 : Int32) ∧ ¬ (8297 : Int32) < c') then (1 : Int32) else 0))] [(.int (1 : Int32))])) (fun _ k_ => XS.iconst XJ.here hx rfl (hb hby own_d4_136) k_) ?_
              refine own_w (T' := TJ) (g' := (mkF m 141 #[.val (.int c'), .val (.int (if (¬ (31 : Int32) < c' ∨ (¬ c' < (127 : Int32) ∧ ¬ (159 : Int32) < c')) then (1 : Int32) else 0)), .val (.int (if (c' = (8232 : Int32) ∨ c' = (8233 : Int32)) then (1 : Int32) else 0)), .val (.int (if (c' = (1564 : Int32) ∨ c' = (8206 : Int32) ∨ c' = (8207 : Int32)) then (1 : Int32) else 0)), .val (.int (if (¬ c' < (8234 : Int32) ∧ ¬ (8238 : Int32) < c') then (1 : Int32) else 0)), .val (.int (if (¬ c' < (8294 : Int32) ∧ ¬ (8297 : Int32) < c') then (1 : Int32) else 0))] [(.int (1 : Int32))])) (fun _ k_ => XS.goto XJ.here hx rfl (pc0 := 137) (pc' := 141) rfl (hb hby own_d4_137) (by decide) (by decide) k_) ?_
              obtain ⟨fs, hr, hrun, hended, hW, hsame⟩ := XJ.leave (v := some (.int (1 : Int32))) (fun h => by rw [Bd.returns] at h; cases h)
              exact ⟨_, _, retOut XJ hx Bd.returns rfl (Or.inl ⟨rfl, Or.inr (Or.inl rfl), _, rfl⟩) (hb hby own_d4_141) hr, hrun, hended, _, _, rfl, (by show own_Q4 Z c' h0 n0 _ TJ.heap _; rw [eJ]; exact ⟨(congrArg (fun z => some (Value.int z)) (if_pos (c := ((¬ (31 : Int32) < c' ∨ (¬ c' < (127 : Int32) ∧ ¬ (159 : Int32) < c')) ∨ (c' = (8232 : Int32) ∨ c' = (8233 : Int32)) ∨ (c' = (1564 : Int32) ∨ c' = (8206 : Int32) ∨ c' = (8207 : Int32)) ∨ (¬ c' < (8234 : Int32) ∧ ¬ (8238 : Int32) < c') ∨ (¬ c' < (8294 : Int32) ∧ ¬ (8297 : Int32) < c'))) (Or.inl hc115)).symm), NJ, rfl⟩), ⟨_, rfl⟩, hW, hsame.mono (by decide) (by decide)⟩
            · refine own_w (T' := TJ) (g' := (mkF m 118 #[.val (.int c'), .val (.int (if (¬ (31 : Int32) < c' ∨ (¬ c' < (127 : Int32) ∧ ¬ (159 : Int32) < c')) then (1 : Int32) else 0)), .val (.int (if (c' = (8232 : Int32) ∨ c' = (8233 : Int32)) then (1 : Int32) else 0)), .val (.int (if (c' = (1564 : Int32) ∨ c' = (8206 : Int32) ∨ c' = (8207 : Int32)) then (1 : Int32) else 0)), .val (.int (if (¬ c' < (8234 : Int32) ∧ ¬ (8238 : Int32) < c') then (1 : Int32) else 0)), .val (.int (if (¬ c' < (8294 : Int32) ∧ ¬ (8297 : Int32) < c') then (1 : Int32) else 0))] [])) (fun _ k_ => XS.ifNo XJ.here hx rfl (hb hby own_d4_115) rfl ((if0 _ _).trans (teq (own_ite0.mpr (show ¬ ((¬ (31 : Int32) < c' ∨ (¬ c' < (127 : Int32) ∧ ¬ (159 : Int32) < c'))) from hc115))).2) k_) ?_
              refine own_w (T' := TJ) (g' := (mkF m 119 #[.val (.int c'), .val (.int (if (¬ (31 : Int32) < c' ∨ (¬ c' < (127 : Int32) ∧ ¬ (159 : Int32) < c')) then (1 : Int32) else 0)), .val (.int (if (c' = (8232 : Int32) ∨ c' = (8233 : Int32)) then (1 : Int32) else 0)), .val (.int (if (c' = (1564 : Int32) ∨ c' = (8206 : Int32) ∨ c' = (8207 : Int32)) then (1 : Int32) else 0)), .val (.int (if (¬ c' < (8234 : Int32) ∧ ¬ (8238 : Int32) < c') then (1 : Int32) else 0)), .val (.int (if (¬ c' < (8294 : Int32) ∧ ¬ (8297 : Int32) < c') then (1 : Int32) else 0))] [(.int (if (c' = (8232 : Int32) ∨ c' = (8233 : Int32)) then (1 : Int32) else 0))])) (fun _ k_ => XS.iloadN XJ.here hx rfl (hb hby own_d4_118) rfl k_) ?_
              by_cases hc119 : (c' = (8232 : Int32) ∨ c' = (8233 : Int32))
              · refine own_w (T' := TJ) (g' := (mkF m 136 #[.val (.int c'), .val (.int (if (¬ (31 : Int32) < c' ∨ (¬ c' < (127 : Int32) ∧ ¬ (159 : Int32) < c')) then (1 : Int32) else 0)), .val (.int (if (c' = (8232 : Int32) ∨ c' = (8233 : Int32)) then (1 : Int32) else 0)), .val (.int (if (c' = (1564 : Int32) ∨ c' = (8206 : Int32) ∨ c' = (8207 : Int32)) then (1 : Int32) else 0)), .val (.int (if (¬ c' < (8234 : Int32) ∧ ¬ (8238 : Int32) < c') then (1 : Int32) else 0)), .val (.int (if (¬ c' < (8294 : Int32) ∧ ¬ (8297 : Int32) < c') then (1 : Int32) else 0))] [])) (fun _ k_ => XS.ifYes XJ.here hx rfl (pc0 := 119) (pc' := 136) rfl (hb hby own_d4_119) rfl ((if0 _ _).trans (feq (fun q => (own_ite0.mp q) (show ((c' = (8232 : Int32) ∨ c' = (8233 : Int32))) from hc119))).2) (by decide) (by decide) k_) ?_
                refine own_w (T' := TJ) (g' := (mkF m 137 #[.val (.int c'), .val (.int (if (¬ (31 : Int32) < c' ∨ (¬ c' < (127 : Int32) ∧ ¬ (159 : Int32) < c')) then (1 : Int32) else 0)), .val (.int (if (c' = (8232 : Int32) ∨ c' = (8233 : Int32)) then (1 : Int32) else 0)), .val (.int (if (c' = (1564 : Int32) ∨ c' = (8206 : Int32) ∨ c' = (8207 : Int32)) then (1 : Int32) else 0)), .val (.int (if (¬ c' < (8234 : Int32) ∧ ¬ (8238 : Int32) < c') then (1 : Int32) else 0)), .val (.int (if (¬ c' < (8294 : Int32) ∧ ¬ (8297 : Int32) < c') then (1 : Int32) else 0))] [(.int (1 : Int32))])) (fun _ k_ => XS.iconst XJ.here hx rfl (hb hby own_d4_136) k_) ?_
                refine own_w (T' := TJ) (g' := (mkF m 141 #[.val (.int c'), .val (.int (if (¬ (31 : Int32) < c' ∨ (¬ c' < (127 : Int32) ∧ ¬ (159 : Int32) < c')) then (1 : Int32) else 0)), .val (.int (if (c' = (8232 : Int32) ∨ c' = (8233 : Int32)) then (1 : Int32) else 0)), .val (.int (if (c' = (1564 : Int32) ∨ c' = (8206 : Int32) ∨ c' = (8207 : Int32)) then (1 : Int32) else 0)), .val (.int (if (¬ c' < (8234 : Int32) ∧ ¬ (8238 : Int32) < c') then (1 : Int32) else 0)), .val (.int (if (¬ c' < (8294 : Int32) ∧ ¬ (8297 : Int32) < c') then (1 : Int32) else 0))] [(.int (1 : Int32))])) (fun _ k_ => XS.goto XJ.here hx rfl (pc0 := 137) (pc' := 141) rfl (hb hby own_d4_137) (by decide) (by decide) k_) ?_
                obtain ⟨fs, hr, hrun, hended, hW, hsame⟩ := XJ.leave (v := some (.int (1 : Int32))) (fun h => by rw [Bd.returns] at h; cases h)
                exact ⟨_, _, retOut XJ hx Bd.returns rfl (Or.inl ⟨rfl, Or.inr (Or.inl rfl), _, rfl⟩) (hb hby own_d4_141) hr, hrun, hended, _, _, rfl, (by show own_Q4 Z c' h0 n0 _ TJ.heap _; rw [eJ]; exact ⟨(congrArg (fun z => some (Value.int z)) (if_pos (c := ((¬ (31 : Int32) < c' ∨ (¬ c' < (127 : Int32) ∧ ¬ (159 : Int32) < c')) ∨ (c' = (8232 : Int32) ∨ c' = (8233 : Int32)) ∨ (c' = (1564 : Int32) ∨ c' = (8206 : Int32) ∨ c' = (8207 : Int32)) ∨ (¬ c' < (8234 : Int32) ∧ ¬ (8238 : Int32) < c') ∨ (¬ c' < (8294 : Int32) ∧ ¬ (8297 : Int32) < c'))) (Or.inr (Or.inl hc119))).symm), NJ, rfl⟩), ⟨_, rfl⟩, hW, hsame.mono (by decide) (by decide)⟩
              · refine own_w (T' := TJ) (g' := (mkF m 122 #[.val (.int c'), .val (.int (if (¬ (31 : Int32) < c' ∨ (¬ c' < (127 : Int32) ∧ ¬ (159 : Int32) < c')) then (1 : Int32) else 0)), .val (.int (if (c' = (8232 : Int32) ∨ c' = (8233 : Int32)) then (1 : Int32) else 0)), .val (.int (if (c' = (1564 : Int32) ∨ c' = (8206 : Int32) ∨ c' = (8207 : Int32)) then (1 : Int32) else 0)), .val (.int (if (¬ c' < (8234 : Int32) ∧ ¬ (8238 : Int32) < c') then (1 : Int32) else 0)), .val (.int (if (¬ c' < (8294 : Int32) ∧ ¬ (8297 : Int32) < c') then (1 : Int32) else 0))] [])) (fun _ k_ => XS.ifNo XJ.here hx rfl (hb hby own_d4_119) rfl ((if0 _ _).trans (teq (own_ite0.mpr (show ¬ ((c' = (8232 : Int32) ∨ c' = (8233 : Int32))) from hc119))).2) k_) ?_
                refine own_w (T' := TJ) (g' := (mkF m 123 #[.val (.int c'), .val (.int (if (¬ (31 : Int32) < c' ∨ (¬ c' < (127 : Int32) ∧ ¬ (159 : Int32) < c')) then (1 : Int32) else 0)), .val (.int (if (c' = (8232 : Int32) ∨ c' = (8233 : Int32)) then (1 : Int32) else 0)), .val (.int (if (c' = (1564 : Int32) ∨ c' = (8206 : Int32) ∨ c' = (8207 : Int32)) then (1 : Int32) else 0)), .val (.int (if (¬ c' < (8234 : Int32) ∧ ¬ (8238 : Int32) < c') then (1 : Int32) else 0)), .val (.int (if (¬ c' < (8294 : Int32) ∧ ¬ (8297 : Int32) < c') then (1 : Int32) else 0))] [(.int (if (c' = (1564 : Int32) ∨ c' = (8206 : Int32) ∨ c' = (8207 : Int32)) then (1 : Int32) else 0))])) (fun _ k_ => XS.iloadN XJ.here hx rfl (hb hby own_d4_122) rfl k_) ?_
                by_cases hc123 : (c' = (1564 : Int32) ∨ c' = (8206 : Int32) ∨ c' = (8207 : Int32))
                · refine own_w (T' := TJ) (g' := (mkF m 136 #[.val (.int c'), .val (.int (if (¬ (31 : Int32) < c' ∨ (¬ c' < (127 : Int32) ∧ ¬ (159 : Int32) < c')) then (1 : Int32) else 0)), .val (.int (if (c' = (8232 : Int32) ∨ c' = (8233 : Int32)) then (1 : Int32) else 0)), .val (.int (if (c' = (1564 : Int32) ∨ c' = (8206 : Int32) ∨ c' = (8207 : Int32)) then (1 : Int32) else 0)), .val (.int (if (¬ c' < (8234 : Int32) ∧ ¬ (8238 : Int32) < c') then (1 : Int32) else 0)), .val (.int (if (¬ c' < (8294 : Int32) ∧ ¬ (8297 : Int32) < c') then (1 : Int32) else 0))] [])) (fun _ k_ => XS.ifYes XJ.here hx rfl (pc0 := 123) (pc' := 136) rfl (hb hby own_d4_123) rfl ((if0 _ _).trans (feq (fun q => (own_ite0.mp q) (show ((c' = (1564 : Int32) ∨ c' = (8206 : Int32) ∨ c' = (8207 : Int32))) from hc123))).2) (by decide) (by decide) k_) ?_
                  refine own_w (T' := TJ) (g' := (mkF m 137 #[.val (.int c'), .val (.int (if (¬ (31 : Int32) < c' ∨ (¬ c' < (127 : Int32) ∧ ¬ (159 : Int32) < c')) then (1 : Int32) else 0)), .val (.int (if (c' = (8232 : Int32) ∨ c' = (8233 : Int32)) then (1 : Int32) else 0)), .val (.int (if (c' = (1564 : Int32) ∨ c' = (8206 : Int32) ∨ c' = (8207 : Int32)) then (1 : Int32) else 0)), .val (.int (if (¬ c' < (8234 : Int32) ∧ ¬ (8238 : Int32) < c') then (1 : Int32) else 0)), .val (.int (if (¬ c' < (8294 : Int32) ∧ ¬ (8297 : Int32) < c') then (1 : Int32) else 0))] [(.int (1 : Int32))])) (fun _ k_ => XS.iconst XJ.here hx rfl (hb hby own_d4_136) k_) ?_
                  refine own_w (T' := TJ) (g' := (mkF m 141 #[.val (.int c'), .val (.int (if (¬ (31 : Int32) < c' ∨ (¬ c' < (127 : Int32) ∧ ¬ (159 : Int32) < c')) then (1 : Int32) else 0)), .val (.int (if (c' = (8232 : Int32) ∨ c' = (8233 : Int32)) then (1 : Int32) else 0)), .val (.int (if (c' = (1564 : Int32) ∨ c' = (8206 : Int32) ∨ c' = (8207 : Int32)) then (1 : Int32) else 0)), .val (.int (if (¬ c' < (8234 : Int32) ∧ ¬ (8238 : Int32) < c') then (1 : Int32) else 0)), .val (.int (if (¬ c' < (8294 : Int32) ∧ ¬ (8297 : Int32) < c') then (1 : Int32) else 0))] [(.int (1 : Int32))])) (fun _ k_ => XS.goto XJ.here hx rfl (pc0 := 137) (pc' := 141) rfl (hb hby own_d4_137) (by decide) (by decide) k_) ?_
                  obtain ⟨fs, hr, hrun, hended, hW, hsame⟩ := XJ.leave (v := some (.int (1 : Int32))) (fun h => by rw [Bd.returns] at h; cases h)
                  exact ⟨_, _, retOut XJ hx Bd.returns rfl (Or.inl ⟨rfl, Or.inr (Or.inl rfl), _, rfl⟩) (hb hby own_d4_141) hr, hrun, hended, _, _, rfl, (by show own_Q4 Z c' h0 n0 _ TJ.heap _; rw [eJ]; exact ⟨(congrArg (fun z => some (Value.int z)) (if_pos (c := ((¬ (31 : Int32) < c' ∨ (¬ c' < (127 : Int32) ∧ ¬ (159 : Int32) < c')) ∨ (c' = (8232 : Int32) ∨ c' = (8233 : Int32)) ∨ (c' = (1564 : Int32) ∨ c' = (8206 : Int32) ∨ c' = (8207 : Int32)) ∨ (¬ c' < (8234 : Int32) ∧ ¬ (8238 : Int32) < c') ∨ (¬ c' < (8294 : Int32) ∧ ¬ (8297 : Int32) < c'))) (Or.inr (Or.inr (Or.inl hc123)))).symm), NJ, rfl⟩), ⟨_, rfl⟩, hW, hsame.mono (by decide) (by decide)⟩
                · refine own_w (T' := TJ) (g' := (mkF m 126 #[.val (.int c'), .val (.int (if (¬ (31 : Int32) < c' ∨ (¬ c' < (127 : Int32) ∧ ¬ (159 : Int32) < c')) then (1 : Int32) else 0)), .val (.int (if (c' = (8232 : Int32) ∨ c' = (8233 : Int32)) then (1 : Int32) else 0)), .val (.int (if (c' = (1564 : Int32) ∨ c' = (8206 : Int32) ∨ c' = (8207 : Int32)) then (1 : Int32) else 0)), .val (.int (if (¬ c' < (8234 : Int32) ∧ ¬ (8238 : Int32) < c') then (1 : Int32) else 0)), .val (.int (if (¬ c' < (8294 : Int32) ∧ ¬ (8297 : Int32) < c') then (1 : Int32) else 0))] [])) (fun _ k_ => XS.ifNo XJ.here hx rfl (hb hby own_d4_123) rfl ((if0 _ _).trans (teq (own_ite0.mpr (show ¬ ((c' = (1564 : Int32) ∨ c' = (8206 : Int32) ∨ c' = (8207 : Int32))) from hc123))).2) k_) ?_
                  refine own_w (T' := TJ) (g' := (mkF m 128 #[.val (.int c'), .val (.int (if (¬ (31 : Int32) < c' ∨ (¬ c' < (127 : Int32) ∧ ¬ (159 : Int32) < c')) then (1 : Int32) else 0)), .val (.int (if (c' = (8232 : Int32) ∨ c' = (8233 : Int32)) then (1 : Int32) else 0)), .val (.int (if (c' = (1564 : Int32) ∨ c' = (8206 : Int32) ∨ c' = (8207 : Int32)) then (1 : Int32) else 0)), .val (.int (if (¬ c' < (8234 : Int32) ∧ ¬ (8238 : Int32) < c') then (1 : Int32) else 0)), .val (.int (if (¬ c' < (8294 : Int32) ∧ ¬ (8297 : Int32) < c') then (1 : Int32) else 0))] [(.int (if (¬ c' < (8234 : Int32) ∧ ¬ (8238 : Int32) < c') then (1 : Int32) else 0))])) (fun _ k_ => XS.iload XJ.here hx rfl (hb hby own_d4_126) rfl k_) ?_
                  by_cases hc128 : (¬ c' < (8234 : Int32) ∧ ¬ (8238 : Int32) < c')
                  · refine own_w (T' := TJ) (g' := (mkF m 136 #[.val (.int c'), .val (.int (if (¬ (31 : Int32) < c' ∨ (¬ c' < (127 : Int32) ∧ ¬ (159 : Int32) < c')) then (1 : Int32) else 0)), .val (.int (if (c' = (8232 : Int32) ∨ c' = (8233 : Int32)) then (1 : Int32) else 0)), .val (.int (if (c' = (1564 : Int32) ∨ c' = (8206 : Int32) ∨ c' = (8207 : Int32)) then (1 : Int32) else 0)), .val (.int (if (¬ c' < (8234 : Int32) ∧ ¬ (8238 : Int32) < c') then (1 : Int32) else 0)), .val (.int (if (¬ c' < (8294 : Int32) ∧ ¬ (8297 : Int32) < c') then (1 : Int32) else 0))] [])) (fun _ k_ => XS.ifYes XJ.here hx rfl (pc0 := 128) (pc' := 136) rfl (hb hby own_d4_128) rfl ((if0 _ _).trans (feq (fun q => (own_ite0.mp q) (show ((¬ c' < (8234 : Int32) ∧ ¬ (8238 : Int32) < c')) from hc128))).2) (by decide) (by decide) k_) ?_
                    refine own_w (T' := TJ) (g' := (mkF m 137 #[.val (.int c'), .val (.int (if (¬ (31 : Int32) < c' ∨ (¬ c' < (127 : Int32) ∧ ¬ (159 : Int32) < c')) then (1 : Int32) else 0)), .val (.int (if (c' = (8232 : Int32) ∨ c' = (8233 : Int32)) then (1 : Int32) else 0)), .val (.int (if (c' = (1564 : Int32) ∨ c' = (8206 : Int32) ∨ c' = (8207 : Int32)) then (1 : Int32) else 0)), .val (.int (if (¬ c' < (8234 : Int32) ∧ ¬ (8238 : Int32) < c') then (1 : Int32) else 0)), .val (.int (if (¬ c' < (8294 : Int32) ∧ ¬ (8297 : Int32) < c') then (1 : Int32) else 0))] [(.int (1 : Int32))])) (fun _ k_ => XS.iconst XJ.here hx rfl (hb hby own_d4_136) k_) ?_
                    refine own_w (T' := TJ) (g' := (mkF m 141 #[.val (.int c'), .val (.int (if (¬ (31 : Int32) < c' ∨ (¬ c' < (127 : Int32) ∧ ¬ (159 : Int32) < c')) then (1 : Int32) else 0)), .val (.int (if (c' = (8232 : Int32) ∨ c' = (8233 : Int32)) then (1 : Int32) else 0)), .val (.int (if (c' = (1564 : Int32) ∨ c' = (8206 : Int32) ∨ c' = (8207 : Int32)) then (1 : Int32) else 0)), .val (.int (if (¬ c' < (8234 : Int32) ∧ ¬ (8238 : Int32) < c') then (1 : Int32) else 0)), .val (.int (if (¬ c' < (8294 : Int32) ∧ ¬ (8297 : Int32) < c') then (1 : Int32) else 0))] [(.int (1 : Int32))])) (fun _ k_ => XS.goto XJ.here hx rfl (pc0 := 137) (pc' := 141) rfl (hb hby own_d4_137) (by decide) (by decide) k_) ?_
                    obtain ⟨fs, hr, hrun, hended, hW, hsame⟩ := XJ.leave (v := some (.int (1 : Int32))) (fun h => by rw [Bd.returns] at h; cases h)
                    exact ⟨_, _, retOut XJ hx Bd.returns rfl (Or.inl ⟨rfl, Or.inr (Or.inl rfl), _, rfl⟩) (hb hby own_d4_141) hr, hrun, hended, _, _, rfl, (by show own_Q4 Z c' h0 n0 _ TJ.heap _; rw [eJ]; exact ⟨(congrArg (fun z => some (Value.int z)) (if_pos (c := ((¬ (31 : Int32) < c' ∨ (¬ c' < (127 : Int32) ∧ ¬ (159 : Int32) < c')) ∨ (c' = (8232 : Int32) ∨ c' = (8233 : Int32)) ∨ (c' = (1564 : Int32) ∨ c' = (8206 : Int32) ∨ c' = (8207 : Int32)) ∨ (¬ c' < (8234 : Int32) ∧ ¬ (8238 : Int32) < c') ∨ (¬ c' < (8294 : Int32) ∧ ¬ (8297 : Int32) < c'))) (Or.inr (Or.inr (Or.inr (Or.inl hc128))))).symm), NJ, rfl⟩), ⟨_, rfl⟩, hW, hsame.mono (by decide) (by decide)⟩
                  · refine own_w (T' := TJ) (g' := (mkF m 131 #[.val (.int c'), .val (.int (if (¬ (31 : Int32) < c' ∨ (¬ c' < (127 : Int32) ∧ ¬ (159 : Int32) < c')) then (1 : Int32) else 0)), .val (.int (if (c' = (8232 : Int32) ∨ c' = (8233 : Int32)) then (1 : Int32) else 0)), .val (.int (if (c' = (1564 : Int32) ∨ c' = (8206 : Int32) ∨ c' = (8207 : Int32)) then (1 : Int32) else 0)), .val (.int (if (¬ c' < (8234 : Int32) ∧ ¬ (8238 : Int32) < c') then (1 : Int32) else 0)), .val (.int (if (¬ c' < (8294 : Int32) ∧ ¬ (8297 : Int32) < c') then (1 : Int32) else 0))] [])) (fun _ k_ => XS.ifNo XJ.here hx rfl (hb hby own_d4_128) rfl ((if0 _ _).trans (teq (own_ite0.mpr (show ¬ ((¬ c' < (8234 : Int32) ∧ ¬ (8238 : Int32) < c')) from hc128))).2) k_) ?_
                    refine own_w (T' := TJ) (g' := (mkF m 133 #[.val (.int c'), .val (.int (if (¬ (31 : Int32) < c' ∨ (¬ c' < (127 : Int32) ∧ ¬ (159 : Int32) < c')) then (1 : Int32) else 0)), .val (.int (if (c' = (8232 : Int32) ∨ c' = (8233 : Int32)) then (1 : Int32) else 0)), .val (.int (if (c' = (1564 : Int32) ∨ c' = (8206 : Int32) ∨ c' = (8207 : Int32)) then (1 : Int32) else 0)), .val (.int (if (¬ c' < (8234 : Int32) ∧ ¬ (8238 : Int32) < c') then (1 : Int32) else 0)), .val (.int (if (¬ c' < (8294 : Int32) ∧ ¬ (8297 : Int32) < c') then (1 : Int32) else 0))] [(.int (if (¬ c' < (8294 : Int32) ∧ ¬ (8297 : Int32) < c') then (1 : Int32) else 0))])) (fun _ k_ => XS.iload XJ.here hx rfl (hb hby own_d4_131) rfl k_) ?_
                    by_cases hc133 : (¬ c' < (8294 : Int32) ∧ ¬ (8297 : Int32) < c')
                    · refine own_w (T' := TJ) (g' := (mkF m 136 #[.val (.int c'), .val (.int (if (¬ (31 : Int32) < c' ∨ (¬ c' < (127 : Int32) ∧ ¬ (159 : Int32) < c')) then (1 : Int32) else 0)), .val (.int (if (c' = (8232 : Int32) ∨ c' = (8233 : Int32)) then (1 : Int32) else 0)), .val (.int (if (c' = (1564 : Int32) ∨ c' = (8206 : Int32) ∨ c' = (8207 : Int32)) then (1 : Int32) else 0)), .val (.int (if (¬ c' < (8234 : Int32) ∧ ¬ (8238 : Int32) < c') then (1 : Int32) else 0)), .val (.int (if (¬ c' < (8294 : Int32) ∧ ¬ (8297 : Int32) < c') then (1 : Int32) else 0))] [])) (fun _ k_ => XS.ifNo XJ.here hx rfl (hb hby own_d4_133) rfl ((if0 _ _).trans (feq (fun q => (own_ite0.mp q) (show ((¬ c' < (8294 : Int32) ∧ ¬ (8297 : Int32) < c')) from hc133))).1) k_) ?_
                      refine own_w (T' := TJ) (g' := (mkF m 137 #[.val (.int c'), .val (.int (if (¬ (31 : Int32) < c' ∨ (¬ c' < (127 : Int32) ∧ ¬ (159 : Int32) < c')) then (1 : Int32) else 0)), .val (.int (if (c' = (8232 : Int32) ∨ c' = (8233 : Int32)) then (1 : Int32) else 0)), .val (.int (if (c' = (1564 : Int32) ∨ c' = (8206 : Int32) ∨ c' = (8207 : Int32)) then (1 : Int32) else 0)), .val (.int (if (¬ c' < (8234 : Int32) ∧ ¬ (8238 : Int32) < c') then (1 : Int32) else 0)), .val (.int (if (¬ c' < (8294 : Int32) ∧ ¬ (8297 : Int32) < c') then (1 : Int32) else 0))] [(.int (1 : Int32))])) (fun _ k_ => XS.iconst XJ.here hx rfl (hb hby own_d4_136) k_) ?_
                      refine own_w (T' := TJ) (g' := (mkF m 141 #[.val (.int c'), .val (.int (if (¬ (31 : Int32) < c' ∨ (¬ c' < (127 : Int32) ∧ ¬ (159 : Int32) < c')) then (1 : Int32) else 0)), .val (.int (if (c' = (8232 : Int32) ∨ c' = (8233 : Int32)) then (1 : Int32) else 0)), .val (.int (if (c' = (1564 : Int32) ∨ c' = (8206 : Int32) ∨ c' = (8207 : Int32)) then (1 : Int32) else 0)), .val (.int (if (¬ c' < (8234 : Int32) ∧ ¬ (8238 : Int32) < c') then (1 : Int32) else 0)), .val (.int (if (¬ c' < (8294 : Int32) ∧ ¬ (8297 : Int32) < c') then (1 : Int32) else 0))] [(.int (1 : Int32))])) (fun _ k_ => XS.goto XJ.here hx rfl (pc0 := 137) (pc' := 141) rfl (hb hby own_d4_137) (by decide) (by decide) k_) ?_
                      obtain ⟨fs, hr, hrun, hended, hW, hsame⟩ := XJ.leave (v := some (.int (1 : Int32))) (fun h => by rw [Bd.returns] at h; cases h)
                      exact ⟨_, _, retOut XJ hx Bd.returns rfl (Or.inl ⟨rfl, Or.inr (Or.inl rfl), _, rfl⟩) (hb hby own_d4_141) hr, hrun, hended, _, _, rfl, (by show own_Q4 Z c' h0 n0 _ TJ.heap _; rw [eJ]; exact ⟨(congrArg (fun z => some (Value.int z)) (if_pos (c := ((¬ (31 : Int32) < c' ∨ (¬ c' < (127 : Int32) ∧ ¬ (159 : Int32) < c')) ∨ (c' = (8232 : Int32) ∨ c' = (8233 : Int32)) ∨ (c' = (1564 : Int32) ∨ c' = (8206 : Int32) ∨ c' = (8207 : Int32)) ∨ (¬ c' < (8234 : Int32) ∧ ¬ (8238 : Int32) < c') ∨ (¬ c' < (8294 : Int32) ∧ ¬ (8297 : Int32) < c'))) (Or.inr (Or.inr (Or.inr (Or.inr hc133))))).symm), NJ, rfl⟩), ⟨_, rfl⟩, hW, hsame.mono (by decide) (by decide)⟩
                    · refine own_w (T' := TJ) (g' := (mkF m 140 #[.val (.int c'), .val (.int (if (¬ (31 : Int32) < c' ∨ (¬ c' < (127 : Int32) ∧ ¬ (159 : Int32) < c')) then (1 : Int32) else 0)), .val (.int (if (c' = (8232 : Int32) ∨ c' = (8233 : Int32)) then (1 : Int32) else 0)), .val (.int (if (c' = (1564 : Int32) ∨ c' = (8206 : Int32) ∨ c' = (8207 : Int32)) then (1 : Int32) else 0)), .val (.int (if (¬ c' < (8234 : Int32) ∧ ¬ (8238 : Int32) < c') then (1 : Int32) else 0)), .val (.int (if (¬ c' < (8294 : Int32) ∧ ¬ (8297 : Int32) < c') then (1 : Int32) else 0))] [])) (fun _ k_ => XS.ifYes XJ.here hx rfl (pc0 := 133) (pc' := 140) rfl (hb hby own_d4_133) rfl ((if0 _ _).trans (teq (own_ite0.mpr (show ¬ ((¬ c' < (8294 : Int32) ∧ ¬ (8297 : Int32) < c')) from hc133))).1) (by decide) (by decide) k_) ?_
                      refine own_w (T' := TJ) (g' := (mkF m 141 #[.val (.int c'), .val (.int (if (¬ (31 : Int32) < c' ∨ (¬ c' < (127 : Int32) ∧ ¬ (159 : Int32) < c')) then (1 : Int32) else 0)), .val (.int (if (c' = (8232 : Int32) ∨ c' = (8233 : Int32)) then (1 : Int32) else 0)), .val (.int (if (c' = (1564 : Int32) ∨ c' = (8206 : Int32) ∨ c' = (8207 : Int32)) then (1 : Int32) else 0)), .val (.int (if (¬ c' < (8234 : Int32) ∧ ¬ (8238 : Int32) < c') then (1 : Int32) else 0)), .val (.int (if (¬ c' < (8294 : Int32) ∧ ¬ (8297 : Int32) < c') then (1 : Int32) else 0))] [(.int (0 : Int32))])) (fun _ k_ => XS.iconst XJ.here hx rfl (hb hby own_d4_140) k_) ?_
                      obtain ⟨fs, hr, hrun, hended, hW, hsame⟩ := XJ.leave (v := some (.int (0 : Int32))) (fun h => by rw [Bd.returns] at h; cases h)
                      exact ⟨_, _, retOut XJ hx Bd.returns rfl (Or.inl ⟨rfl, Or.inr (Or.inl rfl), _, rfl⟩) (hb hby own_d4_141) hr, hrun, hended, _, _, rfl, (by show own_Q4 Z c' h0 n0 _ TJ.heap _; rw [eJ]; exact ⟨(congrArg (fun z => some (Value.int z)) (if_neg (c := ((¬ (31 : Int32) < c' ∨ (¬ c' < (127 : Int32) ∧ ¬ (159 : Int32) < c')) ∨ (c' = (8232 : Int32) ∨ c' = (8233 : Int32)) ∨ (c' = (1564 : Int32) ∨ c' = (8206 : Int32) ∨ c' = (8207 : Int32)) ∨ (¬ c' < (8234 : Int32) ∧ ¬ (8238 : Int32) < c') ∨ (¬ c' < (8294 : Int32) ∧ ¬ (8297 : Int32) < c'))) (fun q => q.elim hc115 (fun q => q.elim hc119 (fun q => q.elim hc123 (fun q => q.elim hc128 hc133))))).symm), NJ, rfl⟩), ⟨_, rfl⟩, hW, hsame.mono (by decide) (by decide)⟩
          refine own_w (T' := TJ) (g' := (mkF m 94 #[.val (.int c'), .val (.int (if (¬ (31 : Int32) < c' ∨ (¬ c' < (127 : Int32) ∧ ¬ (159 : Int32) < c')) then (1 : Int32) else 0)), .val (.int (if (c' = (8232 : Int32) ∨ c' = (8233 : Int32)) then (1 : Int32) else 0)), .val (.int (if (c' = (1564 : Int32) ∨ c' = (8206 : Int32) ∨ c' = (8207 : Int32)) then (1 : Int32) else 0)), .val (.int (if (¬ c' < (8234 : Int32) ∧ ¬ (8238 : Int32) < c') then (1 : Int32) else 0)), .unset] [(.int c')])) (fun _ k_ => XS.iloadN XJ.here hx rfl (hb hby own_d4_93) rfl k_) ?_
          refine own_w (T' := TJ) (g' := (mkF m 97 #[.val (.int c'), .val (.int (if (¬ (31 : Int32) < c' ∨ (¬ c' < (127 : Int32) ∧ ¬ (159 : Int32) < c')) then (1 : Int32) else 0)), .val (.int (if (c' = (8232 : Int32) ∨ c' = (8233 : Int32)) then (1 : Int32) else 0)), .val (.int (if (c' = (1564 : Int32) ∨ c' = (8206 : Int32) ∨ c' = (8207 : Int32)) then (1 : Int32) else 0)), .val (.int (if (¬ c' < (8234 : Int32) ∧ ¬ (8238 : Int32) < c') then (1 : Int32) else 0)), .unset] [(.int (8294 : Int32)), (.int c')])) (fun _ k_ => XS.sipush XJ.here hx rfl (hb hby own_d4_94) k_) ?_
          by_cases hc97 : c' < (8294 : Int32)
          · refine own_w (T' := TJ) (g' := (mkF m 111 #[.val (.int c'), .val (.int (if (¬ (31 : Int32) < c' ∨ (¬ c' < (127 : Int32) ∧ ¬ (159 : Int32) < c')) then (1 : Int32) else 0)), .val (.int (if (c' = (8232 : Int32) ∨ c' = (8233 : Int32)) then (1 : Int32) else 0)), .val (.int (if (c' = (1564 : Int32) ∨ c' = (8206 : Int32) ∨ c' = (8207 : Int32)) then (1 : Int32) else 0)), .val (.int (if (¬ c' < (8234 : Int32) ∧ ¬ (8238 : Int32) < c') then (1 : Int32) else 0)), .unset] [])) (fun _ k_ => XS.icmpYes XJ.here hx rfl (pc0 := 97) (pc' := 111) rfl (hb hby own_d4_97) rfl (tlt hc97).1 (by decide) (by decide) k_) ?_
            refine own_w (T' := TJ) (g' := (mkF m 112 #[.val (.int c'), .val (.int (if (¬ (31 : Int32) < c' ∨ (¬ c' < (127 : Int32) ∧ ¬ (159 : Int32) < c')) then (1 : Int32) else 0)), .val (.int (if (c' = (8232 : Int32) ∨ c' = (8233 : Int32)) then (1 : Int32) else 0)), .val (.int (if (c' = (1564 : Int32) ∨ c' = (8206 : Int32) ∨ c' = (8207 : Int32)) then (1 : Int32) else 0)), .val (.int (if (¬ c' < (8234 : Int32) ∧ ¬ (8238 : Int32) < c') then (1 : Int32) else 0)), .unset] [(.int (0 : Int32))])) (fun _ k_ => XS.iconst XJ.here hx rfl (hb hby own_d4_111) k_) ?_
            have j := J112 _ _ XJ eJ NJ
            rw [if_neg (show ¬ (¬ c' < (8294 : Int32) ∧ ¬ (8297 : Int32) < c') from (fun q => (fun q => q hc97) q.1))] at j
            exact j
          · refine own_w (T' := TJ) (g' := (mkF m 100 #[.val (.int c'), .val (.int (if (¬ (31 : Int32) < c' ∨ (¬ c' < (127 : Int32) ∧ ¬ (159 : Int32) < c')) then (1 : Int32) else 0)), .val (.int (if (c' = (8232 : Int32) ∨ c' = (8233 : Int32)) then (1 : Int32) else 0)), .val (.int (if (c' = (1564 : Int32) ∨ c' = (8206 : Int32) ∨ c' = (8207 : Int32)) then (1 : Int32) else 0)), .val (.int (if (¬ c' < (8234 : Int32) ∧ ¬ (8238 : Int32) < c') then (1 : Int32) else 0)), .unset] [])) (fun _ k_ => XS.icmpNo XJ.here hx rfl (hb hby own_d4_97) rfl (flt hc97).1 k_) ?_
            refine own_w (T' := TJ) (g' := (mkF m 101 #[.val (.int c'), .val (.int (if (¬ (31 : Int32) < c' ∨ (¬ c' < (127 : Int32) ∧ ¬ (159 : Int32) < c')) then (1 : Int32) else 0)), .val (.int (if (c' = (8232 : Int32) ∨ c' = (8233 : Int32)) then (1 : Int32) else 0)), .val (.int (if (c' = (1564 : Int32) ∨ c' = (8206 : Int32) ∨ c' = (8207 : Int32)) then (1 : Int32) else 0)), .val (.int (if (¬ c' < (8234 : Int32) ∧ ¬ (8238 : Int32) < c') then (1 : Int32) else 0)), .unset] [(.int c')])) (fun _ k_ => XS.iloadN XJ.here hx rfl (hb hby own_d4_100) rfl k_) ?_
            refine own_w (T' := TJ) (g' := (mkF m 104 #[.val (.int c'), .val (.int (if (¬ (31 : Int32) < c' ∨ (¬ c' < (127 : Int32) ∧ ¬ (159 : Int32) < c')) then (1 : Int32) else 0)), .val (.int (if (c' = (8232 : Int32) ∨ c' = (8233 : Int32)) then (1 : Int32) else 0)), .val (.int (if (c' = (1564 : Int32) ∨ c' = (8206 : Int32) ∨ c' = (8207 : Int32)) then (1 : Int32) else 0)), .val (.int (if (¬ c' < (8234 : Int32) ∧ ¬ (8238 : Int32) < c') then (1 : Int32) else 0)), .unset] [(.int (8297 : Int32)), (.int c')])) (fun _ k_ => XS.sipush XJ.here hx rfl (hb hby own_d4_101) k_) ?_
            by_cases hc104 : (8297 : Int32) < c'
            · refine own_w (T' := TJ) (g' := (mkF m 111 #[.val (.int c'), .val (.int (if (¬ (31 : Int32) < c' ∨ (¬ c' < (127 : Int32) ∧ ¬ (159 : Int32) < c')) then (1 : Int32) else 0)), .val (.int (if (c' = (8232 : Int32) ∨ c' = (8233 : Int32)) then (1 : Int32) else 0)), .val (.int (if (c' = (1564 : Int32) ∨ c' = (8206 : Int32) ∨ c' = (8207 : Int32)) then (1 : Int32) else 0)), .val (.int (if (¬ c' < (8234 : Int32) ∧ ¬ (8238 : Int32) < c') then (1 : Int32) else 0)), .unset] [])) (fun _ k_ => XS.icmpYes XJ.here hx rfl (pc0 := 104) (pc' := 111) rfl (hb hby own_d4_104) rfl (tlt hc104).2.2.1 (by decide) (by decide) k_) ?_
              refine own_w (T' := TJ) (g' := (mkF m 112 #[.val (.int c'), .val (.int (if (¬ (31 : Int32) < c' ∨ (¬ c' < (127 : Int32) ∧ ¬ (159 : Int32) < c')) then (1 : Int32) else 0)), .val (.int (if (c' = (8232 : Int32) ∨ c' = (8233 : Int32)) then (1 : Int32) else 0)), .val (.int (if (c' = (1564 : Int32) ∨ c' = (8206 : Int32) ∨ c' = (8207 : Int32)) then (1 : Int32) else 0)), .val (.int (if (¬ c' < (8234 : Int32) ∧ ¬ (8238 : Int32) < c') then (1 : Int32) else 0)), .unset] [(.int (0 : Int32))])) (fun _ k_ => XS.iconst XJ.here hx rfl (hb hby own_d4_111) k_) ?_
              have j := J112 _ _ XJ eJ NJ
              rw [if_neg (show ¬ (¬ c' < (8294 : Int32) ∧ ¬ (8297 : Int32) < c') from (fun q => (fun q => q hc104) q.2))] at j
              exact j
            · refine own_w (T' := TJ) (g' := (mkF m 107 #[.val (.int c'), .val (.int (if (¬ (31 : Int32) < c' ∨ (¬ c' < (127 : Int32) ∧ ¬ (159 : Int32) < c')) then (1 : Int32) else 0)), .val (.int (if (c' = (8232 : Int32) ∨ c' = (8233 : Int32)) then (1 : Int32) else 0)), .val (.int (if (c' = (1564 : Int32) ∨ c' = (8206 : Int32) ∨ c' = (8207 : Int32)) then (1 : Int32) else 0)), .val (.int (if (¬ c' < (8234 : Int32) ∧ ¬ (8238 : Int32) < c') then (1 : Int32) else 0)), .unset] [])) (fun _ k_ => XS.icmpNo XJ.here hx rfl (hb hby own_d4_104) rfl (flt hc104).2.2.1 k_) ?_
              refine own_w (T' := TJ) (g' := (mkF m 108 #[.val (.int c'), .val (.int (if (¬ (31 : Int32) < c' ∨ (¬ c' < (127 : Int32) ∧ ¬ (159 : Int32) < c')) then (1 : Int32) else 0)), .val (.int (if (c' = (8232 : Int32) ∨ c' = (8233 : Int32)) then (1 : Int32) else 0)), .val (.int (if (c' = (1564 : Int32) ∨ c' = (8206 : Int32) ∨ c' = (8207 : Int32)) then (1 : Int32) else 0)), .val (.int (if (¬ c' < (8234 : Int32) ∧ ¬ (8238 : Int32) < c') then (1 : Int32) else 0)), .unset] [(.int (1 : Int32))])) (fun _ k_ => XS.iconst XJ.here hx rfl (hb hby own_d4_107) k_) ?_
              refine own_w (T' := TJ) (g' := (mkF m 112 #[.val (.int c'), .val (.int (if (¬ (31 : Int32) < c' ∨ (¬ c' < (127 : Int32) ∧ ¬ (159 : Int32) < c')) then (1 : Int32) else 0)), .val (.int (if (c' = (8232 : Int32) ∨ c' = (8233 : Int32)) then (1 : Int32) else 0)), .val (.int (if (c' = (1564 : Int32) ∨ c' = (8206 : Int32) ∨ c' = (8207 : Int32)) then (1 : Int32) else 0)), .val (.int (if (¬ c' < (8234 : Int32) ∧ ¬ (8238 : Int32) < c') then (1 : Int32) else 0)), .unset] [(.int (1 : Int32))])) (fun _ k_ => XS.goto XJ.here hx rfl (pc0 := 108) (pc' := 112) rfl (hb hby own_d4_108) (by decide) (by decide) k_) ?_
              have j := J112 _ _ XJ eJ NJ
              rw [if_pos (show (¬ c' < (8294 : Int32) ∧ ¬ (8297 : Int32) < c') from ⟨hc97, hc104⟩)] at j
              exact j
        refine own_w (T' := TJ) (g' := (mkF m 73 #[.val (.int c'), .val (.int (if (¬ (31 : Int32) < c' ∨ (¬ c' < (127 : Int32) ∧ ¬ (159 : Int32) < c')) then (1 : Int32) else 0)), .val (.int (if (c' = (8232 : Int32) ∨ c' = (8233 : Int32)) then (1 : Int32) else 0)), .val (.int (if (c' = (1564 : Int32) ∨ c' = (8206 : Int32) ∨ c' = (8207 : Int32)) then (1 : Int32) else 0)), .unset, .unset] [(.int c')])) (fun _ k_ => XS.iloadN XJ.here hx rfl (hb hby own_d4_72) rfl k_) ?_
        refine own_w (T' := TJ) (g' := (mkF m 76 #[.val (.int c'), .val (.int (if (¬ (31 : Int32) < c' ∨ (¬ c' < (127 : Int32) ∧ ¬ (159 : Int32) < c')) then (1 : Int32) else 0)), .val (.int (if (c' = (8232 : Int32) ∨ c' = (8233 : Int32)) then (1 : Int32) else 0)), .val (.int (if (c' = (1564 : Int32) ∨ c' = (8206 : Int32) ∨ c' = (8207 : Int32)) then (1 : Int32) else 0)), .unset, .unset] [(.int (8234 : Int32)), (.int c')])) (fun _ k_ => XS.sipush XJ.here hx rfl (hb hby own_d4_73) k_) ?_
        by_cases hc76 : c' < (8234 : Int32)
        · refine own_w (T' := TJ) (g' := (mkF m 90 #[.val (.int c'), .val (.int (if (¬ (31 : Int32) < c' ∨ (¬ c' < (127 : Int32) ∧ ¬ (159 : Int32) < c')) then (1 : Int32) else 0)), .val (.int (if (c' = (8232 : Int32) ∨ c' = (8233 : Int32)) then (1 : Int32) else 0)), .val (.int (if (c' = (1564 : Int32) ∨ c' = (8206 : Int32) ∨ c' = (8207 : Int32)) then (1 : Int32) else 0)), .unset, .unset] [])) (fun _ k_ => XS.icmpYes XJ.here hx rfl (pc0 := 76) (pc' := 90) rfl (hb hby own_d4_76) rfl (tlt hc76).1 (by decide) (by decide) k_) ?_
          refine own_w (T' := TJ) (g' := (mkF m 91 #[.val (.int c'), .val (.int (if (¬ (31 : Int32) < c' ∨ (¬ c' < (127 : Int32) ∧ ¬ (159 : Int32) < c')) then (1 : Int32) else 0)), .val (.int (if (c' = (8232 : Int32) ∨ c' = (8233 : Int32)) then (1 : Int32) else 0)), .val (.int (if (c' = (1564 : Int32) ∨ c' = (8206 : Int32) ∨ c' = (8207 : Int32)) then (1 : Int32) else 0)), .unset, .unset] [(.int (0 : Int32))])) (fun _ k_ => XS.iconst XJ.here hx rfl (hb hby own_d4_90) k_) ?_
          have j := J91 _ _ XJ eJ NJ
          rw [if_neg (show ¬ (¬ c' < (8234 : Int32) ∧ ¬ (8238 : Int32) < c') from (fun q => (fun q => q hc76) q.1))] at j
          exact j
        · refine own_w (T' := TJ) (g' := (mkF m 79 #[.val (.int c'), .val (.int (if (¬ (31 : Int32) < c' ∨ (¬ c' < (127 : Int32) ∧ ¬ (159 : Int32) < c')) then (1 : Int32) else 0)), .val (.int (if (c' = (8232 : Int32) ∨ c' = (8233 : Int32)) then (1 : Int32) else 0)), .val (.int (if (c' = (1564 : Int32) ∨ c' = (8206 : Int32) ∨ c' = (8207 : Int32)) then (1 : Int32) else 0)), .unset, .unset] [])) (fun _ k_ => XS.icmpNo XJ.here hx rfl (hb hby own_d4_76) rfl (flt hc76).1 k_) ?_
          refine own_w (T' := TJ) (g' := (mkF m 80 #[.val (.int c'), .val (.int (if (¬ (31 : Int32) < c' ∨ (¬ c' < (127 : Int32) ∧ ¬ (159 : Int32) < c')) then (1 : Int32) else 0)), .val (.int (if (c' = (8232 : Int32) ∨ c' = (8233 : Int32)) then (1 : Int32) else 0)), .val (.int (if (c' = (1564 : Int32) ∨ c' = (8206 : Int32) ∨ c' = (8207 : Int32)) then (1 : Int32) else 0)), .unset, .unset] [(.int c')])) (fun _ k_ => XS.iloadN XJ.here hx rfl (hb hby own_d4_79) rfl k_) ?_
          refine own_w (T' := TJ) (g' := (mkF m 83 #[.val (.int c'), .val (.int (if (¬ (31 : Int32) < c' ∨ (¬ c' < (127 : Int32) ∧ ¬ (159 : Int32) < c')) then (1 : Int32) else 0)), .val (.int (if (c' = (8232 : Int32) ∨ c' = (8233 : Int32)) then (1 : Int32) else 0)), .val (.int (if (c' = (1564 : Int32) ∨ c' = (8206 : Int32) ∨ c' = (8207 : Int32)) then (1 : Int32) else 0)), .unset, .unset] [(.int (8238 : Int32)), (.int c')])) (fun _ k_ => XS.sipush XJ.here hx rfl (hb hby own_d4_80) k_) ?_
          by_cases hc83 : (8238 : Int32) < c'
          · refine own_w (T' := TJ) (g' := (mkF m 90 #[.val (.int c'), .val (.int (if (¬ (31 : Int32) < c' ∨ (¬ c' < (127 : Int32) ∧ ¬ (159 : Int32) < c')) then (1 : Int32) else 0)), .val (.int (if (c' = (8232 : Int32) ∨ c' = (8233 : Int32)) then (1 : Int32) else 0)), .val (.int (if (c' = (1564 : Int32) ∨ c' = (8206 : Int32) ∨ c' = (8207 : Int32)) then (1 : Int32) else 0)), .unset, .unset] [])) (fun _ k_ => XS.icmpYes XJ.here hx rfl (pc0 := 83) (pc' := 90) rfl (hb hby own_d4_83) rfl (tlt hc83).2.2.1 (by decide) (by decide) k_) ?_
            refine own_w (T' := TJ) (g' := (mkF m 91 #[.val (.int c'), .val (.int (if (¬ (31 : Int32) < c' ∨ (¬ c' < (127 : Int32) ∧ ¬ (159 : Int32) < c')) then (1 : Int32) else 0)), .val (.int (if (c' = (8232 : Int32) ∨ c' = (8233 : Int32)) then (1 : Int32) else 0)), .val (.int (if (c' = (1564 : Int32) ∨ c' = (8206 : Int32) ∨ c' = (8207 : Int32)) then (1 : Int32) else 0)), .unset, .unset] [(.int (0 : Int32))])) (fun _ k_ => XS.iconst XJ.here hx rfl (hb hby own_d4_90) k_) ?_
            have j := J91 _ _ XJ eJ NJ
            rw [if_neg (show ¬ (¬ c' < (8234 : Int32) ∧ ¬ (8238 : Int32) < c') from (fun q => (fun q => q hc83) q.2))] at j
            exact j
          · refine own_w (T' := TJ) (g' := (mkF m 86 #[.val (.int c'), .val (.int (if (¬ (31 : Int32) < c' ∨ (¬ c' < (127 : Int32) ∧ ¬ (159 : Int32) < c')) then (1 : Int32) else 0)), .val (.int (if (c' = (8232 : Int32) ∨ c' = (8233 : Int32)) then (1 : Int32) else 0)), .val (.int (if (c' = (1564 : Int32) ∨ c' = (8206 : Int32) ∨ c' = (8207 : Int32)) then (1 : Int32) else 0)), .unset, .unset] [])) (fun _ k_ => XS.icmpNo XJ.here hx rfl (hb hby own_d4_83) rfl (flt hc83).2.2.1 k_) ?_
            refine own_w (T' := TJ) (g' := (mkF m 87 #[.val (.int c'), .val (.int (if (¬ (31 : Int32) < c' ∨ (¬ c' < (127 : Int32) ∧ ¬ (159 : Int32) < c')) then (1 : Int32) else 0)), .val (.int (if (c' = (8232 : Int32) ∨ c' = (8233 : Int32)) then (1 : Int32) else 0)), .val (.int (if (c' = (1564 : Int32) ∨ c' = (8206 : Int32) ∨ c' = (8207 : Int32)) then (1 : Int32) else 0)), .unset, .unset] [(.int (1 : Int32))])) (fun _ k_ => XS.iconst XJ.here hx rfl (hb hby own_d4_86) k_) ?_
            refine own_w (T' := TJ) (g' := (mkF m 91 #[.val (.int c'), .val (.int (if (¬ (31 : Int32) < c' ∨ (¬ c' < (127 : Int32) ∧ ¬ (159 : Int32) < c')) then (1 : Int32) else 0)), .val (.int (if (c' = (8232 : Int32) ∨ c' = (8233 : Int32)) then (1 : Int32) else 0)), .val (.int (if (c' = (1564 : Int32) ∨ c' = (8206 : Int32) ∨ c' = (8207 : Int32)) then (1 : Int32) else 0)), .unset, .unset] [(.int (1 : Int32))])) (fun _ k_ => XS.goto XJ.here hx rfl (pc0 := 87) (pc' := 91) rfl (hb hby own_d4_87) (by decide) (by decide) k_) ?_
            have j := J91 _ _ XJ eJ NJ
            rw [if_pos (show (¬ c' < (8234 : Int32) ∧ ¬ (8238 : Int32) < c') from ⟨hc76, hc83⟩)] at j
            exact j
      refine own_w (T' := TJ) (g' := (mkF m 46 #[.val (.int c'), .val (.int (if (¬ (31 : Int32) < c' ∨ (¬ c' < (127 : Int32) ∧ ¬ (159 : Int32) < c')) then (1 : Int32) else 0)), .val (.int (if (c' = (8232 : Int32) ∨ c' = (8233 : Int32)) then (1 : Int32) else 0)), .unset, .unset, .unset] [(.int c')])) (fun _ k_ => XS.iloadN XJ.here hx rfl (hb hby own_d4_45) rfl k_) ?_
      refine own_w (T' := TJ) (g' := (mkF m 49 #[.val (.int c'), .val (.int (if (¬ (31 : Int32) < c' ∨ (¬ c' < (127 : Int32) ∧ ¬ (159 : Int32) < c')) then (1 : Int32) else 0)), .val (.int (if (c' = (8232 : Int32) ∨ c' = (8233 : Int32)) then (1 : Int32) else 0)), .unset, .unset, .unset] [(.int (1564 : Int32)), (.int c')])) (fun _ k_ => XS.sipush XJ.here hx rfl (hb hby own_d4_46) k_) ?_
      by_cases hc49 : c' = (1564 : Int32)
      · refine own_w (T' := TJ) (g' := (mkF m 66 #[.val (.int c'), .val (.int (if (¬ (31 : Int32) < c' ∨ (¬ c' < (127 : Int32) ∧ ¬ (159 : Int32) < c')) then (1 : Int32) else 0)), .val (.int (if (c' = (8232 : Int32) ∨ c' = (8233 : Int32)) then (1 : Int32) else 0)), .unset, .unset, .unset] [])) (fun _ k_ => XS.icmpYes XJ.here hx rfl (pc0 := 49) (pc' := 66) rfl (hb hby own_d4_49) rfl (teq hc49).1 (by decide) (by decide) k_) ?_
        refine own_w (T' := TJ) (g' := (mkF m 67 #[.val (.int c'), .val (.int (if (¬ (31 : Int32) < c' ∨ (¬ c' < (127 : Int32) ∧ ¬ (159 : Int32) < c')) then (1 : Int32) else 0)), .val (.int (if (c' = (8232 : Int32) ∨ c' = (8233 : Int32)) then (1 : Int32) else 0)), .unset, .unset, .unset] [(.int (1 : Int32))])) (fun _ k_ => XS.iconst XJ.here hx rfl (hb hby own_d4_66) k_) ?_
        refine own_w (T' := TJ) (g' := (mkF m 71 #[.val (.int c'), .val (.int (if (¬ (31 : Int32) < c' ∨ (¬ c' < (127 : Int32) ∧ ¬ (159 : Int32) < c')) then (1 : Int32) else 0)), .val (.int (if (c' = (8232 : Int32) ∨ c' = (8233 : Int32)) then (1 : Int32) else 0)), .unset, .unset, .unset] [(.int (1 : Int32))])) (fun _ k_ => XS.goto XJ.here hx rfl (pc0 := 67) (pc' := 71) rfl (hb hby own_d4_67) (by decide) (by decide) k_) ?_
        have j := J71 _ _ XJ eJ NJ
        rw [if_pos (show (c' = (1564 : Int32) ∨ c' = (8206 : Int32) ∨ c' = (8207 : Int32)) from (Or.inl hc49))] at j
        exact j
      · refine own_w (T' := TJ) (g' := (mkF m 52 #[.val (.int c'), .val (.int (if (¬ (31 : Int32) < c' ∨ (¬ c' < (127 : Int32) ∧ ¬ (159 : Int32) < c')) then (1 : Int32) else 0)), .val (.int (if (c' = (8232 : Int32) ∨ c' = (8233 : Int32)) then (1 : Int32) else 0)), .unset, .unset, .unset] [])) (fun _ k_ => XS.icmpNo XJ.here hx rfl (hb hby own_d4_49) rfl (feq hc49).1 k_) ?_
        refine own_w (T' := TJ) (g' := (mkF m 53 #[.val (.int c'), .val (.int (if (¬ (31 : Int32) < c' ∨ (¬ c' < (127 : Int32) ∧ ¬ (159 : Int32) < c')) then (1 : Int32) else 0)), .val (.int (if (c' = (8232 : Int32) ∨ c' = (8233 : Int32)) then (1 : Int32) else 0)), .unset, .unset, .unset] [(.int c')])) (fun _ k_ => XS.iloadN XJ.here hx rfl (hb hby own_d4_52) rfl k_) ?_
        refine own_w (T' := TJ) (g' := (mkF m 56 #[.val (.int c'), .val (.int (if (¬ (31 : Int32) < c' ∨ (¬ c' < (127 : Int32) ∧ ¬ (159 : Int32) < c')) then (1 : Int32) else 0)), .val (.int (if (c' = (8232 : Int32) ∨ c' = (8233 : Int32)) then (1 : Int32) else 0)), .unset, .unset, .unset] [(.int (8206 : Int32)), (.int c')])) (fun _ k_ => XS.sipush XJ.here hx rfl (hb hby own_d4_53) k_) ?_
        by_cases hc56 : c' = (8206 : Int32)
        · refine own_w (T' := TJ) (g' := (mkF m 66 #[.val (.int c'), .val (.int (if (¬ (31 : Int32) < c' ∨ (¬ c' < (127 : Int32) ∧ ¬ (159 : Int32) < c')) then (1 : Int32) else 0)), .val (.int (if (c' = (8232 : Int32) ∨ c' = (8233 : Int32)) then (1 : Int32) else 0)), .unset, .unset, .unset] [])) (fun _ k_ => XS.icmpYes XJ.here hx rfl (pc0 := 56) (pc' := 66) rfl (hb hby own_d4_56) rfl (teq hc56).1 (by decide) (by decide) k_) ?_
          refine own_w (T' := TJ) (g' := (mkF m 67 #[.val (.int c'), .val (.int (if (¬ (31 : Int32) < c' ∨ (¬ c' < (127 : Int32) ∧ ¬ (159 : Int32) < c')) then (1 : Int32) else 0)), .val (.int (if (c' = (8232 : Int32) ∨ c' = (8233 : Int32)) then (1 : Int32) else 0)), .unset, .unset, .unset] [(.int (1 : Int32))])) (fun _ k_ => XS.iconst XJ.here hx rfl (hb hby own_d4_66) k_) ?_
          refine own_w (T' := TJ) (g' := (mkF m 71 #[.val (.int c'), .val (.int (if (¬ (31 : Int32) < c' ∨ (¬ c' < (127 : Int32) ∧ ¬ (159 : Int32) < c')) then (1 : Int32) else 0)), .val (.int (if (c' = (8232 : Int32) ∨ c' = (8233 : Int32)) then (1 : Int32) else 0)), .unset, .unset, .unset] [(.int (1 : Int32))])) (fun _ k_ => XS.goto XJ.here hx rfl (pc0 := 67) (pc' := 71) rfl (hb hby own_d4_67) (by decide) (by decide) k_) ?_
          have j := J71 _ _ XJ eJ NJ
          rw [if_pos (show (c' = (1564 : Int32) ∨ c' = (8206 : Int32) ∨ c' = (8207 : Int32)) from (Or.inr (Or.inl hc56)))] at j
          exact j
        · refine own_w (T' := TJ) (g' := (mkF m 59 #[.val (.int c'), .val (.int (if (¬ (31 : Int32) < c' ∨ (¬ c' < (127 : Int32) ∧ ¬ (159 : Int32) < c')) then (1 : Int32) else 0)), .val (.int (if (c' = (8232 : Int32) ∨ c' = (8233 : Int32)) then (1 : Int32) else 0)), .unset, .unset, .unset] [])) (fun _ k_ => XS.icmpNo XJ.here hx rfl (hb hby own_d4_56) rfl (feq hc56).1 k_) ?_
          refine own_w (T' := TJ) (g' := (mkF m 60 #[.val (.int c'), .val (.int (if (¬ (31 : Int32) < c' ∨ (¬ c' < (127 : Int32) ∧ ¬ (159 : Int32) < c')) then (1 : Int32) else 0)), .val (.int (if (c' = (8232 : Int32) ∨ c' = (8233 : Int32)) then (1 : Int32) else 0)), .unset, .unset, .unset] [(.int c')])) (fun _ k_ => XS.iloadN XJ.here hx rfl (hb hby own_d4_59) rfl k_) ?_
          refine own_w (T' := TJ) (g' := (mkF m 63 #[.val (.int c'), .val (.int (if (¬ (31 : Int32) < c' ∨ (¬ c' < (127 : Int32) ∧ ¬ (159 : Int32) < c')) then (1 : Int32) else 0)), .val (.int (if (c' = (8232 : Int32) ∨ c' = (8233 : Int32)) then (1 : Int32) else 0)), .unset, .unset, .unset] [(.int (8207 : Int32)), (.int c')])) (fun _ k_ => XS.sipush XJ.here hx rfl (hb hby own_d4_60) k_) ?_
          by_cases hc63 : c' = (8207 : Int32)
          · refine own_w (T' := TJ) (g' := (mkF m 66 #[.val (.int c'), .val (.int (if (¬ (31 : Int32) < c' ∨ (¬ c' < (127 : Int32) ∧ ¬ (159 : Int32) < c')) then (1 : Int32) else 0)), .val (.int (if (c' = (8232 : Int32) ∨ c' = (8233 : Int32)) then (1 : Int32) else 0)), .unset, .unset, .unset] [])) (fun _ k_ => XS.icmpNo XJ.here hx rfl (hb hby own_d4_63) rfl (teq hc63).2 k_) ?_
            refine own_w (T' := TJ) (g' := (mkF m 67 #[.val (.int c'), .val (.int (if (¬ (31 : Int32) < c' ∨ (¬ c' < (127 : Int32) ∧ ¬ (159 : Int32) < c')) then (1 : Int32) else 0)), .val (.int (if (c' = (8232 : Int32) ∨ c' = (8233 : Int32)) then (1 : Int32) else 0)), .unset, .unset, .unset] [(.int (1 : Int32))])) (fun _ k_ => XS.iconst XJ.here hx rfl (hb hby own_d4_66) k_) ?_
            refine own_w (T' := TJ) (g' := (mkF m 71 #[.val (.int c'), .val (.int (if (¬ (31 : Int32) < c' ∨ (¬ c' < (127 : Int32) ∧ ¬ (159 : Int32) < c')) then (1 : Int32) else 0)), .val (.int (if (c' = (8232 : Int32) ∨ c' = (8233 : Int32)) then (1 : Int32) else 0)), .unset, .unset, .unset] [(.int (1 : Int32))])) (fun _ k_ => XS.goto XJ.here hx rfl (pc0 := 67) (pc' := 71) rfl (hb hby own_d4_67) (by decide) (by decide) k_) ?_
            have j := J71 _ _ XJ eJ NJ
            rw [if_pos (show (c' = (1564 : Int32) ∨ c' = (8206 : Int32) ∨ c' = (8207 : Int32)) from (Or.inr (Or.inr hc63)))] at j
            exact j
          · refine own_w (T' := TJ) (g' := (mkF m 70 #[.val (.int c'), .val (.int (if (¬ (31 : Int32) < c' ∨ (¬ c' < (127 : Int32) ∧ ¬ (159 : Int32) < c')) then (1 : Int32) else 0)), .val (.int (if (c' = (8232 : Int32) ∨ c' = (8233 : Int32)) then (1 : Int32) else 0)), .unset, .unset, .unset] [])) (fun _ k_ => XS.icmpYes XJ.here hx rfl (pc0 := 63) (pc' := 70) rfl (hb hby own_d4_63) rfl (feq hc63).2 (by decide) (by decide) k_) ?_
            refine own_w (T' := TJ) (g' := (mkF m 71 #[.val (.int c'), .val (.int (if (¬ (31 : Int32) < c' ∨ (¬ c' < (127 : Int32) ∧ ¬ (159 : Int32) < c')) then (1 : Int32) else 0)), .val (.int (if (c' = (8232 : Int32) ∨ c' = (8233 : Int32)) then (1 : Int32) else 0)), .unset, .unset, .unset] [(.int (0 : Int32))])) (fun _ k_ => XS.iconst XJ.here hx rfl (hb hby own_d4_70) k_) ?_
            have j := J71 _ _ XJ eJ NJ
            rw [if_neg (show ¬ (c' = (1564 : Int32) ∨ c' = (8206 : Int32) ∨ c' = (8207 : Int32)) from (fun q => q.elim hc49 (fun q => q.elim hc56 hc63)))] at j
            exact j
    refine own_w (T' := TJ) (g' := (mkF m 26 #[.val (.int c'), .val (.int (if (¬ (31 : Int32) < c' ∨ (¬ c' < (127 : Int32) ∧ ¬ (159 : Int32) < c')) then (1 : Int32) else 0)), .unset, .unset, .unset, .unset] [(.int c')])) (fun _ k_ => XS.iloadN XJ.here hx rfl (hb hby own_d4_25) rfl k_) ?_
    refine own_w (T' := TJ) (g' := (mkF m 29 #[.val (.int c'), .val (.int (if (¬ (31 : Int32) < c' ∨ (¬ c' < (127 : Int32) ∧ ¬ (159 : Int32) < c')) then (1 : Int32) else 0)), .unset, .unset, .unset, .unset] [(.int (8232 : Int32)), (.int c')])) (fun _ k_ => XS.sipush XJ.here hx rfl (hb hby own_d4_26) k_) ?_
    by_cases hc29 : c' = (8232 : Int32)
    · refine own_w (T' := TJ) (g' := (mkF m 39 #[.val (.int c'), .val (.int (if (¬ (31 : Int32) < c' ∨ (¬ c' < (127 : Int32) ∧ ¬ (159 : Int32) < c')) then (1 : Int32) else 0)), .unset, .unset, .unset, .unset] [])) (fun _ k_ => XS.icmpYes XJ.here hx rfl (pc0 := 29) (pc' := 39) rfl (hb hby own_d4_29) rfl (teq hc29).1 (by decide) (by decide) k_) ?_
      refine own_w (T' := TJ) (g' := (mkF m 40 #[.val (.int c'), .val (.int (if (¬ (31 : Int32) < c' ∨ (¬ c' < (127 : Int32) ∧ ¬ (159 : Int32) < c')) then (1 : Int32) else 0)), .unset, .unset, .unset, .unset] [(.int (1 : Int32))])) (fun _ k_ => XS.iconst XJ.here hx rfl (hb hby own_d4_39) k_) ?_
      refine own_w (T' := TJ) (g' := (mkF m 44 #[.val (.int c'), .val (.int (if (¬ (31 : Int32) < c' ∨ (¬ c' < (127 : Int32) ∧ ¬ (159 : Int32) < c')) then (1 : Int32) else 0)), .unset, .unset, .unset, .unset] [(.int (1 : Int32))])) (fun _ k_ => XS.goto XJ.here hx rfl (pc0 := 40) (pc' := 44) rfl (hb hby own_d4_40) (by decide) (by decide) k_) ?_
      have j := J44 _ _ XJ eJ NJ
      rw [if_pos (show (c' = (8232 : Int32) ∨ c' = (8233 : Int32)) from (Or.inl hc29))] at j
      exact j
    · refine own_w (T' := TJ) (g' := (mkF m 32 #[.val (.int c'), .val (.int (if (¬ (31 : Int32) < c' ∨ (¬ c' < (127 : Int32) ∧ ¬ (159 : Int32) < c')) then (1 : Int32) else 0)), .unset, .unset, .unset, .unset] [])) (fun _ k_ => XS.icmpNo XJ.here hx rfl (hb hby own_d4_29) rfl (feq hc29).1 k_) ?_
      refine own_w (T' := TJ) (g' := (mkF m 33 #[.val (.int c'), .val (.int (if (¬ (31 : Int32) < c' ∨ (¬ c' < (127 : Int32) ∧ ¬ (159 : Int32) < c')) then (1 : Int32) else 0)), .unset, .unset, .unset, .unset] [(.int c')])) (fun _ k_ => XS.iloadN XJ.here hx rfl (hb hby own_d4_32) rfl k_) ?_
      refine own_w (T' := TJ) (g' := (mkF m 36 #[.val (.int c'), .val (.int (if (¬ (31 : Int32) < c' ∨ (¬ c' < (127 : Int32) ∧ ¬ (159 : Int32) < c')) then (1 : Int32) else 0)), .unset, .unset, .unset, .unset] [(.int (8233 : Int32)), (.int c')])) (fun _ k_ => XS.sipush XJ.here hx rfl (hb hby own_d4_33) k_) ?_
      by_cases hc36 : c' = (8233 : Int32)
      · refine own_w (T' := TJ) (g' := (mkF m 39 #[.val (.int c'), .val (.int (if (¬ (31 : Int32) < c' ∨ (¬ c' < (127 : Int32) ∧ ¬ (159 : Int32) < c')) then (1 : Int32) else 0)), .unset, .unset, .unset, .unset] [])) (fun _ k_ => XS.icmpNo XJ.here hx rfl (hb hby own_d4_36) rfl (teq hc36).2 k_) ?_
        refine own_w (T' := TJ) (g' := (mkF m 40 #[.val (.int c'), .val (.int (if (¬ (31 : Int32) < c' ∨ (¬ c' < (127 : Int32) ∧ ¬ (159 : Int32) < c')) then (1 : Int32) else 0)), .unset, .unset, .unset, .unset] [(.int (1 : Int32))])) (fun _ k_ => XS.iconst XJ.here hx rfl (hb hby own_d4_39) k_) ?_
        refine own_w (T' := TJ) (g' := (mkF m 44 #[.val (.int c'), .val (.int (if (¬ (31 : Int32) < c' ∨ (¬ c' < (127 : Int32) ∧ ¬ (159 : Int32) < c')) then (1 : Int32) else 0)), .unset, .unset, .unset, .unset] [(.int (1 : Int32))])) (fun _ k_ => XS.goto XJ.here hx rfl (pc0 := 40) (pc' := 44) rfl (hb hby own_d4_40) (by decide) (by decide) k_) ?_
        have j := J44 _ _ XJ eJ NJ
        rw [if_pos (show (c' = (8232 : Int32) ∨ c' = (8233 : Int32)) from (Or.inr hc36))] at j
        exact j
      · refine own_w (T' := TJ) (g' := (mkF m 43 #[.val (.int c'), .val (.int (if (¬ (31 : Int32) < c' ∨ (¬ c' < (127 : Int32) ∧ ¬ (159 : Int32) < c')) then (1 : Int32) else 0)), .unset, .unset, .unset, .unset] [])) (fun _ k_ => XS.icmpYes XJ.here hx rfl (pc0 := 36) (pc' := 43) rfl (hb hby own_d4_36) rfl (feq hc36).2 (by decide) (by decide) k_) ?_
        refine own_w (T' := TJ) (g' := (mkF m 44 #[.val (.int c'), .val (.int (if (¬ (31 : Int32) < c' ∨ (¬ c' < (127 : Int32) ∧ ¬ (159 : Int32) < c')) then (1 : Int32) else 0)), .unset, .unset, .unset, .unset] [(.int (0 : Int32))])) (fun _ k_ => XS.iconst XJ.here hx rfl (hb hby own_d4_43) k_) ?_
        have j := J44 _ _ XJ eJ NJ
        rw [if_neg (show ¬ (c' = (8232 : Int32) ∨ c' = (8233 : Int32)) from (fun q => q.elim hc29 hc36))] at j
        exact j
  refine own_w (T' := s₁) (g' := (mkF m 1 #[.val (.int c'), .unset, .unset, .unset, .unset, .unset] [(.int c')])) (fun _ k_ => XS.iloadN X0.here hx rfl (hb hby own_d4_0) rfl k_) ?_
  refine own_w (T' := s₁) (g' := (mkF m 3 #[.val (.int c'), .unset, .unset, .unset, .unset, .unset] [(.int (31 : Int32)), (.int c')])) (fun _ k_ => XS.bipush X0.here hx rfl (hb hby own_d4_1) k_) ?_
  by_cases hc3 : (31 : Int32) < c'
  · refine own_w (T' := s₁) (g' := (mkF m 6 #[.val (.int c'), .unset, .unset, .unset, .unset, .unset] [])) (fun _ k_ => XS.icmpNo X0.here hx rfl (hb hby own_d4_3) rfl (tlt hc3).2.2.2 k_) ?_
    refine own_w (T' := s₁) (g' := (mkF m 7 #[.val (.int c'), .unset, .unset, .unset, .unset, .unset] [(.int c')])) (fun _ k_ => XS.iloadN X0.here hx rfl (hb hby own_d4_6) rfl k_) ?_
    refine own_w (T' := s₁) (g' := (mkF m 9 #[.val (.int c'), .unset, .unset, .unset, .unset, .unset] [(.int (127 : Int32)), (.int c')])) (fun _ k_ => XS.bipush X0.here hx rfl (hb hby own_d4_7) k_) ?_
    by_cases hc9 : c' < (127 : Int32)
    · refine own_w (T' := s₁) (g' := (mkF m 23 #[.val (.int c'), .unset, .unset, .unset, .unset, .unset] [])) (fun _ k_ => XS.icmpYes X0.here hx rfl (pc0 := 9) (pc' := 23) rfl (hb hby own_d4_9) rfl (tlt hc9).1 (by decide) (by decide) k_) ?_
      refine own_w (T' := s₁) (g' := (mkF m 24 #[.val (.int c'), .unset, .unset, .unset, .unset, .unset] [(.int (0 : Int32))])) (fun _ k_ => XS.iconst X0.here hx rfl (hb hby own_d4_23) k_) ?_
      have j := J24 _ _ X0 e0 N0
      rw [if_neg (show ¬ (¬ (31 : Int32) < c' ∨ (¬ c' < (127 : Int32) ∧ ¬ (159 : Int32) < c')) from (fun q => q.elim (fun q => q hc3) (fun q => (fun q => q hc9) q.1)))] at j
      exact j
    · refine own_w (T' := s₁) (g' := (mkF m 12 #[.val (.int c'), .unset, .unset, .unset, .unset, .unset] [])) (fun _ k_ => XS.icmpNo X0.here hx rfl (hb hby own_d4_9) rfl (flt hc9).1 k_) ?_
      refine own_w (T' := s₁) (g' := (mkF m 13 #[.val (.int c'), .unset, .unset, .unset, .unset, .unset] [(.int c')])) (fun _ k_ => XS.iloadN X0.here hx rfl (hb hby own_d4_12) rfl k_) ?_
      refine own_w (T' := s₁) (g' := (mkF m 16 #[.val (.int c'), .unset, .unset, .unset, .unset, .unset] [(.int (159 : Int32)), (.int c')])) (fun _ k_ => XS.sipush X0.here hx rfl (hb hby own_d4_13) k_) ?_
      by_cases hc16 : (159 : Int32) < c'
      · refine own_w (T' := s₁) (g' := (mkF m 23 #[.val (.int c'), .unset, .unset, .unset, .unset, .unset] [])) (fun _ k_ => XS.icmpYes X0.here hx rfl (pc0 := 16) (pc' := 23) rfl (hb hby own_d4_16) rfl (tlt hc16).2.2.1 (by decide) (by decide) k_) ?_
        refine own_w (T' := s₁) (g' := (mkF m 24 #[.val (.int c'), .unset, .unset, .unset, .unset, .unset] [(.int (0 : Int32))])) (fun _ k_ => XS.iconst X0.here hx rfl (hb hby own_d4_23) k_) ?_
        have j := J24 _ _ X0 e0 N0
        rw [if_neg (show ¬ (¬ (31 : Int32) < c' ∨ (¬ c' < (127 : Int32) ∧ ¬ (159 : Int32) < c')) from (fun q => q.elim (fun q => q hc3) (fun q => (fun q => q hc16) q.2)))] at j
        exact j
      · refine own_w (T' := s₁) (g' := (mkF m 19 #[.val (.int c'), .unset, .unset, .unset, .unset, .unset] [])) (fun _ k_ => XS.icmpNo X0.here hx rfl (hb hby own_d4_16) rfl (flt hc16).2.2.1 k_) ?_
        refine own_w (T' := s₁) (g' := (mkF m 20 #[.val (.int c'), .unset, .unset, .unset, .unset, .unset] [(.int (1 : Int32))])) (fun _ k_ => XS.iconst X0.here hx rfl (hb hby own_d4_19) k_) ?_
        refine own_w (T' := s₁) (g' := (mkF m 24 #[.val (.int c'), .unset, .unset, .unset, .unset, .unset] [(.int (1 : Int32))])) (fun _ k_ => XS.goto X0.here hx rfl (pc0 := 20) (pc' := 24) rfl (hb hby own_d4_20) (by decide) (by decide) k_) ?_
        have j := J24 _ _ X0 e0 N0
        rw [if_pos (show (¬ (31 : Int32) < c' ∨ (¬ c' < (127 : Int32) ∧ ¬ (159 : Int32) < c')) from (Or.inr ⟨hc9, hc16⟩))] at j
        exact j
  · refine own_w (T' := s₁) (g' := (mkF m 19 #[.val (.int c'), .unset, .unset, .unset, .unset, .unset] [])) (fun _ k_ => XS.icmpYes X0.here hx rfl (pc0 := 3) (pc' := 19) rfl (hb hby own_d4_3) rfl (flt hc3).2.2.2 (by decide) (by decide) k_) ?_
    refine own_w (T' := s₁) (g' := (mkF m 20 #[.val (.int c'), .unset, .unset, .unset, .unset, .unset] [(.int (1 : Int32))])) (fun _ k_ => XS.iconst X0.here hx rfl (hb hby own_d4_19) k_) ?_
    refine own_w (T' := s₁) (g' := (mkF m 24 #[.val (.int c'), .unset, .unset, .unset, .unset, .unset] [(.int (1 : Int32))])) (fun _ k_ => XS.goto X0.here hx rfl (pc0 := 20) (pc' := 24) rfl (hb hby own_d4_20) (by decide) (by decide) k_) ?_
    have j := J24 _ _ X0 e0 N0
    rw [if_pos (show (¬ (31 : Int32) < c' ∨ (¬ c' < (127 : Int32) ∧ ¬ (159 : Int32) < c')) from (Or.inl hc3))] at j
    exact j
theorem own_law (x c : Int32) (hc : c = (x &&& (65535 : Int32)).toUInt32.toUInt16.toUInt32.toInt32) : (if ((¬ (159 : Int32) < c ∧ (¬ c < (127 : Int32) ∨ ((c.toUInt32 >>> ((5 : Int32) &&& 31).toUInt32).toInt32) = (0 : Int32))) ∨ (c = (8232 : Int32) ∨ c = (8233 : Int32)) ∨ (c = (1564 : Int32) ∨ c = (8206 : Int32) ∨ c = (8207 : Int32)) ∨ (¬ c < (8234 : Int32) ∧ ¬ (8238 : Int32) < c) ∨ (¬ c < (8294 : Int32) ∧ ¬ (8297 : Int32) < c)) then (1 : Int32) else 0) = if ((¬ (31 : Int32) < (x &&& (65535 : Int32)) ∨ (¬ (x &&& (65535 : Int32)) < (127 : Int32) ∧ ¬ (159 : Int32) < (x &&& (65535 : Int32)))) ∨ ((x &&& (65535 : Int32)) = (8232 : Int32) ∨ (x &&& (65535 : Int32)) = (8233 : Int32)) ∨ ((x &&& (65535 : Int32)) = (1564 : Int32) ∨ (x &&& (65535 : Int32)) = (8206 : Int32) ∨ (x &&& (65535 : Int32)) = (8207 : Int32)) ∨ (¬ (x &&& (65535 : Int32)) < (8234 : Int32) ∧ ¬ (8238 : Int32) < (x &&& (65535 : Int32))) ∨ (¬ (x &&& (65535 : Int32)) < (8294 : Int32) ∧ ¬ (8297 : Int32) < (x &&& (65535 : Int32)))) then 1 else 0 := by
  have h1 := c_mask x 65535 16 (by decide) (by decide)
  have h2 := c_i2c (x &&& (65535 : Int32))
  have e : c = (x &&& (65535 : Int32)) := by
    subst hc
    apply Int32.toInt_inj.mp
    omega
  rw [← e]
  rw [← e] at h1
  have h3 := c_iushr c 5 5 (by decide) (by decide)
  refine own_ifc ?_
  have h4 : (¬ (159 : Int32) < c ∧ (¬ c < (127 : Int32) ∨ ((c.toUInt32 >>> ((5 : Int32) &&& 31).toUInt32).toInt32) = (0 : Int32))) ↔ (¬ (31 : Int32) < c ∨ (¬ c < (127 : Int32) ∧ ¬ (159 : Int32) < c)) := by
    have e0 : (0 : Int32).toInt = 0 := by decide
    have e1 : (31 : Int32).toInt = 31 := by decide
    have e2 : (127 : Int32).toInt = 127 := by decide
    have e3 : (159 : Int32).toInt = 159 := by decide
    simp only [Int32.lt_iff_toInt_lt, ← Int32.toInt_inj, h3, e0, e1, e2, e3]
    omega
  rw [h4]
theorem own_rm0_ef (m : MethodId) (x' : Int32) (sel : Int32) : entryFrame m #[(.int x'), (.int sel)] maxLocals = mkF m 0 #[.val (.int x'), .val (.int sel), .unset, .unset, .unset] [] := by first | (simp [entryFrame, mkF, argsToLocals, Value.category, maxLocals]; done) | rfl
def own_Q0 (Z : State) (x' : Int32) (sel : Int32) (h0 : Heap) (n0 : Nat) (v_ : Option Value) (h : Heap) (L_ : List Loc) : Prop := v_ = some (.int (1 : Int32)) ∧ Fr n0 L_
set_option maxRecDepth 65536 in
set_option maxHeartbeats 40000000 in
theorem own_rm0 (l : Launch) (Z : State) (a0 : Array Value) (hw : ∀ d ∈ tables_1, d.before a0 Z = true) (ws : List Jvm.Cond) (x' : Int32) (sel : Int32) (h0 : Heap) (n0 : Nat) (Z0 : n0 ≤ h0.size)  :
    MetFree l x (head1 (Jvm.Cond.code x code maxLocals ret :: ws) room_1) (fun a_ U_ => a_ = #[(.int x'), (.int sel)] ∧ Z.Warmed39 U_.vm ∧ U_.heap = h0) (fun _ _ _ _ _ => True) (fun _ U_ o_ V_ => ∃ v_ L_, o_ = .returned v_ ∧ own_Q0 Z x' sel h0 n0 v_ V_.heap L_ ∧ FrameEnd U_ o_ V_ L_ room_1.cells room_1.slots) := by
  refine MetFree.of_bodySF (plainFor_of_name own_pn_com_example_marshal_trust_marshaltrust_ControlCharactersNeedsEscapePinLaw) hisR ?_
  intro p e s m args below meth c s₁ Bd hml0 hP hK
  obtain ⟨rfl, hZ, hh⟩ := hP
  have hx := Bd.exec
  have hby := Bd.bytes
  have hml : c.maxLocals = 5 := hml0
  have hown : s.vm.findClass "com/example/marshal_trust/marshaltrust/ControlCharactersNeedsEscapePinLaw" = some m.cls := findClass_of_methodNamed Bd.named
  have hnm := (name_of_methodNamed Bd.named Bd.method).1
  have X0 : Stand p l e room_1 s m #[(.int x'), (.int sel)] below meth c s₁ [] 0 0 := Stand.of_body Bd
  have e0 : s₁.heap = h0 := by rw [← hh, Bd.state]; rfl
  have N0 := Fr.nil n0
  show own_G p e below s (own_Q0 Z x' sel h0 n0) room_1.cells room_1.slots s₁ (entryFrame m #[(.int x'), (.int sel)] maxLocals)
  rw [own_rm0_ef]
  refine own_w (T' := s₁) (g' := (mkF m 2 #[.val (.int x'), .val (.int sel), .unset, .unset, .unset] [(.int (25 : Int32))])) (fun _ k_ => XS.bipush X0.here hx rfl (hb hby at_0) k_) ?_
  obtain ⟨T1, h1, k1, X1, e1, E1, A1, st1⟩ := newP X0 hx hZ (hw _ (List.mem_of_getElem? (i := 0) rfl)) e0 (g := (mkF m 2 #[.val (.int x'), .val (.int sel), .unset, .unset, .unset] [(.int (25 : Int32))])) rfl (hb hby at_2) rfl (by decide) (cap := 25) (by decide) (by decide) (by decide) (by decide)
  obtain ⟨b1, gq1⟩ : ∃ z, z = h0.size := ⟨_, rfl⟩
  rw [← gq1] at A1 st1
  have V_b1 := own_Ar_new A1 rfl (k := 25) rfl
  have g_b1 : n0 ≤ b1 := Nat.le_trans Z0 (Nat.le_of_eq gq1.symm)
  have Z1 : n0 ≤ h1.size := Nat.le_trans Z0 E1.1
  refine own_w (T' := T1) (g' := (mkF m 4 #[.val (.int x'), .val (.int sel), .unset, .unset, .unset] [(.ref b1)])) st1 ?_
  refine own_w (T' := T1) (g' := (mkF m 5 #[.val (.int x'), .val (.int sel), .unset, .unset, .unset] [(.ref b1), (.ref b1)])) (fun _ k_ => XS.dup X1.here hx rfl (hb hby at_4) rfl rfl k_) ?_
  refine own_w (T' := T1) (g' := (mkF m 6 #[.val (.int x'), .val (.int sel), .unset, .unset, .unset] [(.int (0 : Int32)), (.ref b1), (.ref b1)])) (fun _ k_ => XS.iconst X1.here hx rfl (hb hby at_5) k_) ?_
  refine own_w (T' := T1) (g' := (mkF m 7 #[.val (.int x'), .val (.int sel), .unset, .unset, .unset] [(.int (0 : Int32)), (.int (0 : Int32)), (.ref b1), (.ref b1)])) (fun _ k_ => XS.iconst X1.here hx rfl (hb hby at_6) k_) ?_
  obtain ⟨cl2, Ar2, hs2⟩ := id V_b1
  obtain ⟨T2, h2, X2, e2, W2, st2⟩ := stI X1 hx hZ e1 Ar2 (j := (0 : Int32)) (own_Ar_in (i := 0) hs2 (by decide) (by simp)) (g := (mkF m 7 #[.val (.int x'), .val (.int sel), .unset, .unset, .unset] [(.int (0 : Int32)), (.int (0 : Int32)), (.ref b1), (.ref b1)])) rfl rfl (hb hby at_7)
  have V2 := own_Ar_set (i := 0) V_b1 W2 (by decide) rfl
  have N2 := Fr.snoc X2 N0 g_b1
  have Z2 : n0 ≤ h2.size := Nat.le_trans Z1 (Keep.of_wr W2).1
  refine own_w (T' := T2) (g' := (mkF m 8 #[.val (.int x'), .val (.int sel), .unset, .unset, .unset] [(.ref b1)])) st2 ?_
  refine own_w (T' := T2) (g' := (mkF m 9 #[.val (.int x'), .val (.int sel), .unset, .unset, .unset] [(.ref b1), (.ref b1)])) (fun _ k_ => XS.dup X2.here hx rfl (hb hby at_8) rfl rfl k_) ?_
  refine own_w (T' := T2) (g' := (mkF m 10 #[.val (.int x'), .val (.int sel), .unset, .unset, .unset] [(.int (1 : Int32)), (.ref b1), (.ref b1)])) (fun _ k_ => XS.iconst X2.here hx rfl (hb hby at_9) k_) ?_
  refine own_w (T' := T2) (g' := (mkF m 12 #[.val (.int x'), .val (.int sel), .unset, .unset, .unset] [(.int (31 : Int32)), (.int (1 : Int32)), (.ref b1), (.ref b1)])) (fun _ k_ => XS.bipush X2.here hx rfl (hb hby at_10) k_) ?_
  obtain ⟨cl3, Ar3, hs3⟩ := id V2
  obtain ⟨T3, h3, X3, e3, W3, st3⟩ := stI X2 hx hZ e2 Ar3 (j := (1 : Int32)) (own_Ar_in (i := 1) hs3 (by decide) (by simp)) (g := (mkF m 12 #[.val (.int x'), .val (.int sel), .unset, .unset, .unset] [(.int (31 : Int32)), (.int (1 : Int32)), (.ref b1), (.ref b1)])) rfl rfl (hb hby at_12)
  have V3 := own_Ar_set (i := 1) V2 W3 (by decide) rfl
  have N3 := Fr.snoc X3 N2 g_b1
  have Z3 : n0 ≤ h3.size := Nat.le_trans Z2 (Keep.of_wr W3).1
  refine own_w (T' := T3) (g' := (mkF m 13 #[.val (.int x'), .val (.int sel), .unset, .unset, .unset] [(.ref b1)])) st3 ?_
  refine own_w (T' := T3) (g' := (mkF m 14 #[.val (.int x'), .val (.int sel), .unset, .unset, .unset] [(.ref b1), (.ref b1)])) (fun _ k_ => XS.dup X3.here hx rfl (hb hby at_13) rfl rfl k_) ?_
  refine own_w (T' := T3) (g' := (mkF m 15 #[.val (.int x'), .val (.int sel), .unset, .unset, .unset] [(.int (2 : Int32)), (.ref b1), (.ref b1)])) (fun _ k_ => XS.iconst X3.here hx rfl (hb hby at_14) k_) ?_
  refine own_w (T' := T3) (g' := (mkF m 17 #[.val (.int x'), .val (.int sel), .unset, .unset, .unset] [(.int (32 : Int32)), (.int (2 : Int32)), (.ref b1), (.ref b1)])) (fun _ k_ => XS.bipush X3.here hx rfl (hb hby at_15) k_) ?_
  obtain ⟨cl4, Ar4, hs4⟩ := id V3
  obtain ⟨T4, h4, X4, e4, W4, st4⟩ := stI X3 hx hZ e3 Ar4 (j := (2 : Int32)) (own_Ar_in (i := 2) hs4 (by decide) (by simp)) (g := (mkF m 17 #[.val (.int x'), .val (.int sel), .unset, .unset, .unset] [(.int (32 : Int32)), (.int (2 : Int32)), (.ref b1), (.ref b1)])) rfl rfl (hb hby at_17)
  have V4 := own_Ar_set (i := 2) V3 W4 (by decide) rfl
  have N4 := Fr.snoc X4 N3 g_b1
  have Z4 : n0 ≤ h4.size := Nat.le_trans Z3 (Keep.of_wr W4).1
  refine own_w (T' := T4) (g' := (mkF m 18 #[.val (.int x'), .val (.int sel), .unset, .unset, .unset] [(.ref b1)])) st4 ?_
  refine own_w (T' := T4) (g' := (mkF m 19 #[.val (.int x'), .val (.int sel), .unset, .unset, .unset] [(.ref b1), (.ref b1)])) (fun _ k_ => XS.dup X4.here hx rfl (hb hby at_18) rfl rfl k_) ?_
  refine own_w (T' := T4) (g' := (mkF m 20 #[.val (.int x'), .val (.int sel), .unset, .unset, .unset] [(.int (3 : Int32)), (.ref b1), (.ref b1)])) (fun _ k_ => XS.iconst X4.here hx rfl (hb hby at_19) k_) ?_
  refine own_w (T' := T4) (g' := (mkF m 22 #[.val (.int x'), .val (.int sel), .unset, .unset, .unset] [(.int (126 : Int32)), (.int (3 : Int32)), (.ref b1), (.ref b1)])) (fun _ k_ => XS.bipush X4.here hx rfl (hb hby at_20) k_) ?_
  obtain ⟨cl5, Ar5, hs5⟩ := id V4
  obtain ⟨T5, h5, X5, e5, W5, st5⟩ := stI X4 hx hZ e4 Ar5 (j := (3 : Int32)) (own_Ar_in (i := 3) hs5 (by decide) (by simp)) (g := (mkF m 22 #[.val (.int x'), .val (.int sel), .unset, .unset, .unset] [(.int (126 : Int32)), (.int (3 : Int32)), (.ref b1), (.ref b1)])) rfl rfl (hb hby at_22)
  have V5 := own_Ar_set (i := 3) V4 W5 (by decide) rfl
  have N5 := Fr.snoc X5 N4 g_b1
  have Z5 : n0 ≤ h5.size := Nat.le_trans Z4 (Keep.of_wr W5).1
  refine own_w (T' := T5) (g' := (mkF m 23 #[.val (.int x'), .val (.int sel), .unset, .unset, .unset] [(.ref b1)])) st5 ?_
  refine own_w (T' := T5) (g' := (mkF m 24 #[.val (.int x'), .val (.int sel), .unset, .unset, .unset] [(.ref b1), (.ref b1)])) (fun _ k_ => XS.dup X5.here hx rfl (hb hby at_23) rfl rfl k_) ?_
  refine own_w (T' := T5) (g' := (mkF m 25 #[.val (.int x'), .val (.int sel), .unset, .unset, .unset] [(.int (4 : Int32)), (.ref b1), (.ref b1)])) (fun _ k_ => XS.iconst X5.here hx rfl (hb hby at_24) k_) ?_
  refine own_w (T' := T5) (g' := (mkF m 27 #[.val (.int x'), .val (.int sel), .unset, .unset, .unset] [(.int (127 : Int32)), (.int (4 : Int32)), (.ref b1), (.ref b1)])) (fun _ k_ => XS.bipush X5.here hx rfl (hb hby at_25) k_) ?_
  obtain ⟨cl6, Ar6, hs6⟩ := id V5
  obtain ⟨T6, h6, X6, e6, W6, st6⟩ := stI X5 hx hZ e5 Ar6 (j := (4 : Int32)) (own_Ar_in (i := 4) hs6 (by decide) (by simp)) (g := (mkF m 27 #[.val (.int x'), .val (.int sel), .unset, .unset, .unset] [(.int (127 : Int32)), (.int (4 : Int32)), (.ref b1), (.ref b1)])) rfl rfl (hb hby at_27)
  have V6 := own_Ar_set (i := 4) V5 W6 (by decide) rfl
  have N6 := Fr.snoc X6 N5 g_b1
  have Z6 : n0 ≤ h6.size := Nat.le_trans Z5 (Keep.of_wr W6).1
  refine own_w (T' := T6) (g' := (mkF m 28 #[.val (.int x'), .val (.int sel), .unset, .unset, .unset] [(.ref b1)])) st6 ?_
  refine own_w (T' := T6) (g' := (mkF m 29 #[.val (.int x'), .val (.int sel), .unset, .unset, .unset] [(.ref b1), (.ref b1)])) (fun _ k_ => XS.dup X6.here hx rfl (hb hby at_28) rfl rfl k_) ?_
  refine own_w (T' := T6) (g' := (mkF m 30 #[.val (.int x'), .val (.int sel), .unset, .unset, .unset] [(.int (5 : Int32)), (.ref b1), (.ref b1)])) (fun _ k_ => XS.iconst X6.here hx rfl (hb hby at_29) k_) ?_
  refine own_w (T' := T6) (g' := (mkF m 33 #[.val (.int x'), .val (.int sel), .unset, .unset, .unset] [(.int (159 : Int32)), (.int (5 : Int32)), (.ref b1), (.ref b1)])) (fun _ k_ => XS.sipush X6.here hx rfl (hb hby at_30) k_) ?_
  obtain ⟨cl7, Ar7, hs7⟩ := id V6
  obtain ⟨T7, h7, X7, e7, W7, st7⟩ := stI X6 hx hZ e6 Ar7 (j := (5 : Int32)) (own_Ar_in (i := 5) hs7 (by decide) (by simp)) (g := (mkF m 33 #[.val (.int x'), .val (.int sel), .unset, .unset, .unset] [(.int (159 : Int32)), (.int (5 : Int32)), (.ref b1), (.ref b1)])) rfl rfl (hb hby at_33)
  have V7 := own_Ar_set (i := 5) V6 W7 (by decide) rfl
  have N7 := Fr.snoc X7 N6 g_b1
  have Z7 : n0 ≤ h7.size := Nat.le_trans Z6 (Keep.of_wr W7).1
  refine own_w (T' := T7) (g' := (mkF m 34 #[.val (.int x'), .val (.int sel), .unset, .unset, .unset] [(.ref b1)])) st7 ?_
  refine own_w (T' := T7) (g' := (mkF m 35 #[.val (.int x'), .val (.int sel), .unset, .unset, .unset] [(.ref b1), (.ref b1)])) (fun _ k_ => XS.dup X7.here hx rfl (hb hby at_34) rfl rfl k_) ?_
  refine own_w (T' := T7) (g' := (mkF m 37 #[.val (.int x'), .val (.int sel), .unset, .unset, .unset] [(.int (6 : Int32)), (.ref b1), (.ref b1)])) (fun _ k_ => XS.bipush X7.here hx rfl (hb hby at_35) k_) ?_
  refine own_w (T' := T7) (g' := (mkF m 40 #[.val (.int x'), .val (.int sel), .unset, .unset, .unset] [(.int (160 : Int32)), (.int (6 : Int32)), (.ref b1), (.ref b1)])) (fun _ k_ => XS.sipush X7.here hx rfl (hb hby at_37) k_) ?_
  obtain ⟨cl8, Ar8, hs8⟩ := id V7
  obtain ⟨T8, h8, X8, e8, W8, st8⟩ := stI X7 hx hZ e7 Ar8 (j := (6 : Int32)) (own_Ar_in (i := 6) hs8 (by decide) (by simp)) (g := (mkF m 40 #[.val (.int x'), .val (.int sel), .unset, .unset, .unset] [(.int (160 : Int32)), (.int (6 : Int32)), (.ref b1), (.ref b1)])) rfl rfl (hb hby at_40)
  have V8 := own_Ar_set (i := 6) V7 W8 (by decide) rfl
  have N8 := Fr.snoc X8 N7 g_b1
  have Z8 : n0 ≤ h8.size := Nat.le_trans Z7 (Keep.of_wr W8).1
  refine own_w (T' := T8) (g' := (mkF m 41 #[.val (.int x'), .val (.int sel), .unset, .unset, .unset] [(.ref b1)])) st8 ?_
  refine own_w (T' := T8) (g' := (mkF m 42 #[.val (.int x'), .val (.int sel), .unset, .unset, .unset] [(.ref b1), (.ref b1)])) (fun _ k_ => XS.dup X8.here hx rfl (hb hby at_41) rfl rfl k_) ?_
  refine own_w (T' := T8) (g' := (mkF m 44 #[.val (.int x'), .val (.int sel), .unset, .unset, .unset] [(.int (7 : Int32)), (.ref b1), (.ref b1)])) (fun _ k_ => XS.bipush X8.here hx rfl (hb hby at_42) k_) ?_
  refine own_w (T' := T8) (g' := (mkF m 47 #[.val (.int x'), .val (.int sel), .unset, .unset, .unset] [(.int (1563 : Int32)), (.int (7 : Int32)), (.ref b1), (.ref b1)])) (fun _ k_ => XS.sipush X8.here hx rfl (hb hby at_44) k_) ?_
  obtain ⟨cl9, Ar9, hs9⟩ := id V8
  obtain ⟨T9, h9, X9, e9, W9, st9⟩ := stI X8 hx hZ e8 Ar9 (j := (7 : Int32)) (own_Ar_in (i := 7) hs9 (by decide) (by simp)) (g := (mkF m 47 #[.val (.int x'), .val (.int sel), .unset, .unset, .unset] [(.int (1563 : Int32)), (.int (7 : Int32)), (.ref b1), (.ref b1)])) rfl rfl (hb hby at_47)
  have V9 := own_Ar_set (i := 7) V8 W9 (by decide) rfl
  have N9 := Fr.snoc X9 N8 g_b1
  have Z9 : n0 ≤ h9.size := Nat.le_trans Z8 (Keep.of_wr W9).1
  refine own_w (T' := T9) (g' := (mkF m 48 #[.val (.int x'), .val (.int sel), .unset, .unset, .unset] [(.ref b1)])) st9 ?_
  refine own_w (T' := T9) (g' := (mkF m 49 #[.val (.int x'), .val (.int sel), .unset, .unset, .unset] [(.ref b1), (.ref b1)])) (fun _ k_ => XS.dup X9.here hx rfl (hb hby at_48) rfl rfl k_) ?_
  refine own_w (T' := T9) (g' := (mkF m 51 #[.val (.int x'), .val (.int sel), .unset, .unset, .unset] [(.int (8 : Int32)), (.ref b1), (.ref b1)])) (fun _ k_ => XS.bipush X9.here hx rfl (hb hby at_49) k_) ?_
  refine own_w (T' := T9) (g' := (mkF m 54 #[.val (.int x'), .val (.int sel), .unset, .unset, .unset] [(.int (1564 : Int32)), (.int (8 : Int32)), (.ref b1), (.ref b1)])) (fun _ k_ => XS.sipush X9.here hx rfl (hb hby at_51) k_) ?_
  obtain ⟨cl10, Ar10, hs10⟩ := id V9
  obtain ⟨T10, h10, X10, e10, W10, st10⟩ := stI X9 hx hZ e9 Ar10 (j := (8 : Int32)) (own_Ar_in (i := 8) hs10 (by decide) (by simp)) (g := (mkF m 54 #[.val (.int x'), .val (.int sel), .unset, .unset, .unset] [(.int (1564 : Int32)), (.int (8 : Int32)), (.ref b1), (.ref b1)])) rfl rfl (hb hby at_54)
  have V10 := own_Ar_set (i := 8) V9 W10 (by decide) rfl
  have N10 := Fr.snoc X10 N9 g_b1
  have Z10 : n0 ≤ h10.size := Nat.le_trans Z9 (Keep.of_wr W10).1
  refine own_w (T' := T10) (g' := (mkF m 55 #[.val (.int x'), .val (.int sel), .unset, .unset, .unset] [(.ref b1)])) st10 ?_
  refine own_w (T' := T10) (g' := (mkF m 56 #[.val (.int x'), .val (.int sel), .unset, .unset, .unset] [(.ref b1), (.ref b1)])) (fun _ k_ => XS.dup X10.here hx rfl (hb hby at_55) rfl rfl k_) ?_
  refine own_w (T' := T10) (g' := (mkF m 58 #[.val (.int x'), .val (.int sel), .unset, .unset, .unset] [(.int (9 : Int32)), (.ref b1), (.ref b1)])) (fun _ k_ => XS.bipush X10.here hx rfl (hb hby at_56) k_) ?_
  refine own_w (T' := T10) (g' := (mkF m 61 #[.val (.int x'), .val (.int sel), .unset, .unset, .unset] [(.int (1565 : Int32)), (.int (9 : Int32)), (.ref b1), (.ref b1)])) (fun _ k_ => XS.sipush X10.here hx rfl (hb hby at_58) k_) ?_
  obtain ⟨cl11, Ar11, hs11⟩ := id V10
  obtain ⟨T11, h11, X11, e11, W11, st11⟩ := stI X10 hx hZ e10 Ar11 (j := (9 : Int32)) (own_Ar_in (i := 9) hs11 (by decide) (by simp)) (g := (mkF m 61 #[.val (.int x'), .val (.int sel), .unset, .unset, .unset] [(.int (1565 : Int32)), (.int (9 : Int32)), (.ref b1), (.ref b1)])) rfl rfl (hb hby at_61)
  have V11 := own_Ar_set (i := 9) V10 W11 (by decide) rfl
  have N11 := Fr.snoc X11 N10 g_b1
  have Z11 : n0 ≤ h11.size := Nat.le_trans Z10 (Keep.of_wr W11).1
  refine own_w (T' := T11) (g' := (mkF m 62 #[.val (.int x'), .val (.int sel), .unset, .unset, .unset] [(.ref b1)])) st11 ?_
  refine own_w (T' := T11) (g' := (mkF m 63 #[.val (.int x'), .val (.int sel), .unset, .unset, .unset] [(.ref b1), (.ref b1)])) (fun _ k_ => XS.dup X11.here hx rfl (hb hby at_62) rfl rfl k_) ?_
  refine own_w (T' := T11) (g' := (mkF m 65 #[.val (.int x'), .val (.int sel), .unset, .unset, .unset] [(.int (10 : Int32)), (.ref b1), (.ref b1)])) (fun _ k_ => XS.bipush X11.here hx rfl (hb hby at_63) k_) ?_
  refine own_w (T' := T11) (g' := (mkF m 68 #[.val (.int x'), .val (.int sel), .unset, .unset, .unset] [(.int (8205 : Int32)), (.int (10 : Int32)), (.ref b1), (.ref b1)])) (fun _ k_ => XS.sipush X11.here hx rfl (hb hby at_65) k_) ?_
  obtain ⟨cl12, Ar12, hs12⟩ := id V11
  obtain ⟨T12, h12, X12, e12, W12, st12⟩ := stI X11 hx hZ e11 Ar12 (j := (10 : Int32)) (own_Ar_in (i := 10) hs12 (by decide) (by simp)) (g := (mkF m 68 #[.val (.int x'), .val (.int sel), .unset, .unset, .unset] [(.int (8205 : Int32)), (.int (10 : Int32)), (.ref b1), (.ref b1)])) rfl rfl (hb hby at_68)
  have V12 := own_Ar_set (i := 10) V11 W12 (by decide) rfl
  have N12 := Fr.snoc X12 N11 g_b1
  have Z12 : n0 ≤ h12.size := Nat.le_trans Z11 (Keep.of_wr W12).1
  refine own_w (T' := T12) (g' := (mkF m 69 #[.val (.int x'), .val (.int sel), .unset, .unset, .unset] [(.ref b1)])) st12 ?_
  refine own_w (T' := T12) (g' := (mkF m 70 #[.val (.int x'), .val (.int sel), .unset, .unset, .unset] [(.ref b1), (.ref b1)])) (fun _ k_ => XS.dup X12.here hx rfl (hb hby at_69) rfl rfl k_) ?_
  refine own_w (T' := T12) (g' := (mkF m 72 #[.val (.int x'), .val (.int sel), .unset, .unset, .unset] [(.int (11 : Int32)), (.ref b1), (.ref b1)])) (fun _ k_ => XS.bipush X12.here hx rfl (hb hby at_70) k_) ?_
  refine own_w (T' := T12) (g' := (mkF m 75 #[.val (.int x'), .val (.int sel), .unset, .unset, .unset] [(.int (8206 : Int32)), (.int (11 : Int32)), (.ref b1), (.ref b1)])) (fun _ k_ => XS.sipush X12.here hx rfl (hb hby at_72) k_) ?_
  obtain ⟨cl13, Ar13, hs13⟩ := id V12
  obtain ⟨T13, h13, X13, e13, W13, st13⟩ := stI X12 hx hZ e12 Ar13 (j := (11 : Int32)) (own_Ar_in (i := 11) hs13 (by decide) (by simp)) (g := (mkF m 75 #[.val (.int x'), .val (.int sel), .unset, .unset, .unset] [(.int (8206 : Int32)), (.int (11 : Int32)), (.ref b1), (.ref b1)])) rfl rfl (hb hby at_75)
  have V13 := own_Ar_set (i := 11) V12 W13 (by decide) rfl
  have N13 := Fr.snoc X13 N12 g_b1
  have Z13 : n0 ≤ h13.size := Nat.le_trans Z12 (Keep.of_wr W13).1
  refine own_w (T' := T13) (g' := (mkF m 76 #[.val (.int x'), .val (.int sel), .unset, .unset, .unset] [(.ref b1)])) st13 ?_
  refine own_w (T' := T13) (g' := (mkF m 77 #[.val (.int x'), .val (.int sel), .unset, .unset, .unset] [(.ref b1), (.ref b1)])) (fun _ k_ => XS.dup X13.here hx rfl (hb hby at_76) rfl rfl k_) ?_
  refine own_w (T' := T13) (g' := (mkF m 79 #[.val (.int x'), .val (.int sel), .unset, .unset, .unset] [(.int (12 : Int32)), (.ref b1), (.ref b1)])) (fun _ k_ => XS.bipush X13.here hx rfl (hb hby at_77) k_) ?_
  refine own_w (T' := T13) (g' := (mkF m 82 #[.val (.int x'), .val (.int sel), .unset, .unset, .unset] [(.int (8207 : Int32)), (.int (12 : Int32)), (.ref b1), (.ref b1)])) (fun _ k_ => XS.sipush X13.here hx rfl (hb hby at_79) k_) ?_
  obtain ⟨cl14, Ar14, hs14⟩ := id V13
  obtain ⟨T14, h14, X14, e14, W14, st14⟩ := stI X13 hx hZ e13 Ar14 (j := (12 : Int32)) (own_Ar_in (i := 12) hs14 (by decide) (by simp)) (g := (mkF m 82 #[.val (.int x'), .val (.int sel), .unset, .unset, .unset] [(.int (8207 : Int32)), (.int (12 : Int32)), (.ref b1), (.ref b1)])) rfl rfl (hb hby at_82)
  have V14 := own_Ar_set (i := 12) V13 W14 (by decide) rfl
  have N14 := Fr.snoc X14 N13 g_b1
  have Z14 : n0 ≤ h14.size := Nat.le_trans Z13 (Keep.of_wr W14).1
  refine own_w (T' := T14) (g' := (mkF m 83 #[.val (.int x'), .val (.int sel), .unset, .unset, .unset] [(.ref b1)])) st14 ?_
  refine own_w (T' := T14) (g' := (mkF m 84 #[.val (.int x'), .val (.int sel), .unset, .unset, .unset] [(.ref b1), (.ref b1)])) (fun _ k_ => XS.dup X14.here hx rfl (hb hby at_83) rfl rfl k_) ?_
  refine own_w (T' := T14) (g' := (mkF m 86 #[.val (.int x'), .val (.int sel), .unset, .unset, .unset] [(.int (13 : Int32)), (.ref b1), (.ref b1)])) (fun _ k_ => XS.bipush X14.here hx rfl (hb hby at_84) k_) ?_
  refine own_w (T' := T14) (g' := (mkF m 89 #[.val (.int x'), .val (.int sel), .unset, .unset, .unset] [(.int (8208 : Int32)), (.int (13 : Int32)), (.ref b1), (.ref b1)])) (fun _ k_ => XS.sipush X14.here hx rfl (hb hby at_86) k_) ?_
  obtain ⟨cl15, Ar15, hs15⟩ := id V14
  obtain ⟨T15, h15, X15, e15, W15, st15⟩ := stI X14 hx hZ e14 Ar15 (j := (13 : Int32)) (own_Ar_in (i := 13) hs15 (by decide) (by simp)) (g := (mkF m 89 #[.val (.int x'), .val (.int sel), .unset, .unset, .unset] [(.int (8208 : Int32)), (.int (13 : Int32)), (.ref b1), (.ref b1)])) rfl rfl (hb hby at_89)
  have V15 := own_Ar_set (i := 13) V14 W15 (by decide) rfl
  have N15 := Fr.snoc X15 N14 g_b1
  have Z15 : n0 ≤ h15.size := Nat.le_trans Z14 (Keep.of_wr W15).1
  refine own_w (T' := T15) (g' := (mkF m 90 #[.val (.int x'), .val (.int sel), .unset, .unset, .unset] [(.ref b1)])) st15 ?_
  refine own_w (T' := T15) (g' := (mkF m 91 #[.val (.int x'), .val (.int sel), .unset, .unset, .unset] [(.ref b1), (.ref b1)])) (fun _ k_ => XS.dup X15.here hx rfl (hb hby at_90) rfl rfl k_) ?_
  refine own_w (T' := T15) (g' := (mkF m 93 #[.val (.int x'), .val (.int sel), .unset, .unset, .unset] [(.int (14 : Int32)), (.ref b1), (.ref b1)])) (fun _ k_ => XS.bipush X15.here hx rfl (hb hby at_91) k_) ?_
  refine own_w (T' := T15) (g' := (mkF m 96 #[.val (.int x'), .val (.int sel), .unset, .unset, .unset] [(.int (8231 : Int32)), (.int (14 : Int32)), (.ref b1), (.ref b1)])) (fun _ k_ => XS.sipush X15.here hx rfl (hb hby at_93) k_) ?_
  obtain ⟨cl16, Ar16, hs16⟩ := id V15
  obtain ⟨T16, h16, X16, e16, W16, st16⟩ := stI X15 hx hZ e15 Ar16 (j := (14 : Int32)) (own_Ar_in (i := 14) hs16 (by decide) (by simp)) (g := (mkF m 96 #[.val (.int x'), .val (.int sel), .unset, .unset, .unset] [(.int (8231 : Int32)), (.int (14 : Int32)), (.ref b1), (.ref b1)])) rfl rfl (hb hby at_96)
  have V16 := own_Ar_set (i := 14) V15 W16 (by decide) rfl
  have N16 := Fr.snoc X16 N15 g_b1
  have Z16 : n0 ≤ h16.size := Nat.le_trans Z15 (Keep.of_wr W16).1
  refine own_w (T' := T16) (g' := (mkF m 97 #[.val (.int x'), .val (.int sel), .unset, .unset, .unset] [(.ref b1)])) st16 ?_
  refine own_w (T' := T16) (g' := (mkF m 98 #[.val (.int x'), .val (.int sel), .unset, .unset, .unset] [(.ref b1), (.ref b1)])) (fun _ k_ => XS.dup X16.here hx rfl (hb hby at_97) rfl rfl k_) ?_
  refine own_w (T' := T16) (g' := (mkF m 100 #[.val (.int x'), .val (.int sel), .unset, .unset, .unset] [(.int (15 : Int32)), (.ref b1), (.ref b1)])) (fun _ k_ => XS.bipush X16.here hx rfl (hb hby at_98) k_) ?_
  refine own_w (T' := T16) (g' := (mkF m 103 #[.val (.int x'), .val (.int sel), .unset, .unset, .unset] [(.int (8232 : Int32)), (.int (15 : Int32)), (.ref b1), (.ref b1)])) (fun _ k_ => XS.sipush X16.here hx rfl (hb hby at_100) k_) ?_
  obtain ⟨cl17, Ar17, hs17⟩ := id V16
  obtain ⟨T17, h17, X17, e17, W17, st17⟩ := stI X16 hx hZ e16 Ar17 (j := (15 : Int32)) (own_Ar_in (i := 15) hs17 (by decide) (by simp)) (g := (mkF m 103 #[.val (.int x'), .val (.int sel), .unset, .unset, .unset] [(.int (8232 : Int32)), (.int (15 : Int32)), (.ref b1), (.ref b1)])) rfl rfl (hb hby at_103)
  have V17 := own_Ar_set (i := 15) V16 W17 (by decide) rfl
  have N17 := Fr.snoc X17 N16 g_b1
  have Z17 : n0 ≤ h17.size := Nat.le_trans Z16 (Keep.of_wr W17).1
  refine own_w (T' := T17) (g' := (mkF m 104 #[.val (.int x'), .val (.int sel), .unset, .unset, .unset] [(.ref b1)])) st17 ?_
  refine own_w (T' := T17) (g' := (mkF m 105 #[.val (.int x'), .val (.int sel), .unset, .unset, .unset] [(.ref b1), (.ref b1)])) (fun _ k_ => XS.dup X17.here hx rfl (hb hby at_104) rfl rfl k_) ?_
  refine own_w (T' := T17) (g' := (mkF m 107 #[.val (.int x'), .val (.int sel), .unset, .unset, .unset] [(.int (16 : Int32)), (.ref b1), (.ref b1)])) (fun _ k_ => XS.bipush X17.here hx rfl (hb hby at_105) k_) ?_
  refine own_w (T' := T17) (g' := (mkF m 110 #[.val (.int x'), .val (.int sel), .unset, .unset, .unset] [(.int (8233 : Int32)), (.int (16 : Int32)), (.ref b1), (.ref b1)])) (fun _ k_ => XS.sipush X17.here hx rfl (hb hby at_107) k_) ?_
  obtain ⟨cl18, Ar18, hs18⟩ := id V17
  obtain ⟨T18, h18, X18, e18, W18, st18⟩ := stI X17 hx hZ e17 Ar18 (j := (16 : Int32)) (own_Ar_in (i := 16) hs18 (by decide) (by simp)) (g := (mkF m 110 #[.val (.int x'), .val (.int sel), .unset, .unset, .unset] [(.int (8233 : Int32)), (.int (16 : Int32)), (.ref b1), (.ref b1)])) rfl rfl (hb hby at_110)
  have V18 := own_Ar_set (i := 16) V17 W18 (by decide) rfl
  have N18 := Fr.snoc X18 N17 g_b1
  have Z18 : n0 ≤ h18.size := Nat.le_trans Z17 (Keep.of_wr W18).1
  refine own_w (T' := T18) (g' := (mkF m 111 #[.val (.int x'), .val (.int sel), .unset, .unset, .unset] [(.ref b1)])) st18 ?_
  refine own_w (T' := T18) (g' := (mkF m 112 #[.val (.int x'), .val (.int sel), .unset, .unset, .unset] [(.ref b1), (.ref b1)])) (fun _ k_ => XS.dup X18.here hx rfl (hb hby at_111) rfl rfl k_) ?_
  refine own_w (T' := T18) (g' := (mkF m 114 #[.val (.int x'), .val (.int sel), .unset, .unset, .unset] [(.int (17 : Int32)), (.ref b1), (.ref b1)])) (fun _ k_ => XS.bipush X18.here hx rfl (hb hby at_112) k_) ?_
  refine own_w (T' := T18) (g' := (mkF m 117 #[.val (.int x'), .val (.int sel), .unset, .unset, .unset] [(.int (8234 : Int32)), (.int (17 : Int32)), (.ref b1), (.ref b1)])) (fun _ k_ => XS.sipush X18.here hx rfl (hb hby at_114) k_) ?_
  obtain ⟨cl19, Ar19, hs19⟩ := id V18
  obtain ⟨T19, h19, X19, e19, W19, st19⟩ := stI X18 hx hZ e18 Ar19 (j := (17 : Int32)) (own_Ar_in (i := 17) hs19 (by decide) (by simp)) (g := (mkF m 117 #[.val (.int x'), .val (.int sel), .unset, .unset, .unset] [(.int (8234 : Int32)), (.int (17 : Int32)), (.ref b1), (.ref b1)])) rfl rfl (hb hby at_117)
  have V19 := own_Ar_set (i := 17) V18 W19 (by decide) rfl
  have N19 := Fr.snoc X19 N18 g_b1
  have Z19 : n0 ≤ h19.size := Nat.le_trans Z18 (Keep.of_wr W19).1
  refine own_w (T' := T19) (g' := (mkF m 118 #[.val (.int x'), .val (.int sel), .unset, .unset, .unset] [(.ref b1)])) st19 ?_
  refine own_w (T' := T19) (g' := (mkF m 119 #[.val (.int x'), .val (.int sel), .unset, .unset, .unset] [(.ref b1), (.ref b1)])) (fun _ k_ => XS.dup X19.here hx rfl (hb hby at_118) rfl rfl k_) ?_
  refine own_w (T' := T19) (g' := (mkF m 121 #[.val (.int x'), .val (.int sel), .unset, .unset, .unset] [(.int (18 : Int32)), (.ref b1), (.ref b1)])) (fun _ k_ => XS.bipush X19.here hx rfl (hb hby at_119) k_) ?_
  refine own_w (T' := T19) (g' := (mkF m 124 #[.val (.int x'), .val (.int sel), .unset, .unset, .unset] [(.int (8238 : Int32)), (.int (18 : Int32)), (.ref b1), (.ref b1)])) (fun _ k_ => XS.sipush X19.here hx rfl (hb hby at_121) k_) ?_
  obtain ⟨cl20, Ar20, hs20⟩ := id V19
  obtain ⟨T20, h20, X20, e20, W20, st20⟩ := stI X19 hx hZ e19 Ar20 (j := (18 : Int32)) (own_Ar_in (i := 18) hs20 (by decide) (by simp)) (g := (mkF m 124 #[.val (.int x'), .val (.int sel), .unset, .unset, .unset] [(.int (8238 : Int32)), (.int (18 : Int32)), (.ref b1), (.ref b1)])) rfl rfl (hb hby at_124)
  have V20 := own_Ar_set (i := 18) V19 W20 (by decide) rfl
  have N20 := Fr.snoc X20 N19 g_b1
  have Z20 : n0 ≤ h20.size := Nat.le_trans Z19 (Keep.of_wr W20).1
  refine own_w (T' := T20) (g' := (mkF m 125 #[.val (.int x'), .val (.int sel), .unset, .unset, .unset] [(.ref b1)])) st20 ?_
  refine own_w (T' := T20) (g' := (mkF m 126 #[.val (.int x'), .val (.int sel), .unset, .unset, .unset] [(.ref b1), (.ref b1)])) (fun _ k_ => XS.dup X20.here hx rfl (hb hby at_125) rfl rfl k_) ?_
  refine own_w (T' := T20) (g' := (mkF m 128 #[.val (.int x'), .val (.int sel), .unset, .unset, .unset] [(.int (19 : Int32)), (.ref b1), (.ref b1)])) (fun _ k_ => XS.bipush X20.here hx rfl (hb hby at_126) k_) ?_
  refine own_w (T' := T20) (g' := (mkF m 131 #[.val (.int x'), .val (.int sel), .unset, .unset, .unset] [(.int (8239 : Int32)), (.int (19 : Int32)), (.ref b1), (.ref b1)])) (fun _ k_ => XS.sipush X20.here hx rfl (hb hby at_128) k_) ?_
  obtain ⟨cl21, Ar21, hs21⟩ := id V20
  obtain ⟨T21, h21, X21, e21, W21, st21⟩ := stI X20 hx hZ e20 Ar21 (j := (19 : Int32)) (own_Ar_in (i := 19) hs21 (by decide) (by simp)) (g := (mkF m 131 #[.val (.int x'), .val (.int sel), .unset, .unset, .unset] [(.int (8239 : Int32)), (.int (19 : Int32)), (.ref b1), (.ref b1)])) rfl rfl (hb hby at_131)
  have V21 := own_Ar_set (i := 19) V20 W21 (by decide) rfl
  have N21 := Fr.snoc X21 N20 g_b1
  have Z21 : n0 ≤ h21.size := Nat.le_trans Z20 (Keep.of_wr W21).1
  refine own_w (T' := T21) (g' := (mkF m 132 #[.val (.int x'), .val (.int sel), .unset, .unset, .unset] [(.ref b1)])) st21 ?_
  refine own_w (T' := T21) (g' := (mkF m 133 #[.val (.int x'), .val (.int sel), .unset, .unset, .unset] [(.ref b1), (.ref b1)])) (fun _ k_ => XS.dup X21.here hx rfl (hb hby at_132) rfl rfl k_) ?_
  refine own_w (T' := T21) (g' := (mkF m 135 #[.val (.int x'), .val (.int sel), .unset, .unset, .unset] [(.int (20 : Int32)), (.ref b1), (.ref b1)])) (fun _ k_ => XS.bipush X21.here hx rfl (hb hby at_133) k_) ?_
  refine own_w (T' := T21) (g' := (mkF m 138 #[.val (.int x'), .val (.int sel), .unset, .unset, .unset] [(.int (8293 : Int32)), (.int (20 : Int32)), (.ref b1), (.ref b1)])) (fun _ k_ => XS.sipush X21.here hx rfl (hb hby at_135) k_) ?_
  obtain ⟨cl22, Ar22, hs22⟩ := id V21
  obtain ⟨T22, h22, X22, e22, W22, st22⟩ := stI X21 hx hZ e21 Ar22 (j := (20 : Int32)) (own_Ar_in (i := 20) hs22 (by decide) (by simp)) (g := (mkF m 138 #[.val (.int x'), .val (.int sel), .unset, .unset, .unset] [(.int (8293 : Int32)), (.int (20 : Int32)), (.ref b1), (.ref b1)])) rfl rfl (hb hby at_138)
  have V22 := own_Ar_set (i := 20) V21 W22 (by decide) rfl
  have N22 := Fr.snoc X22 N21 g_b1
  have Z22 : n0 ≤ h22.size := Nat.le_trans Z21 (Keep.of_wr W22).1
  refine own_w (T' := T22) (g' := (mkF m 139 #[.val (.int x'), .val (.int sel), .unset, .unset, .unset] [(.ref b1)])) st22 ?_
  refine own_w (T' := T22) (g' := (mkF m 140 #[.val (.int x'), .val (.int sel), .unset, .unset, .unset] [(.ref b1), (.ref b1)])) (fun _ k_ => XS.dup X22.here hx rfl (hb hby at_139) rfl rfl k_) ?_
  refine own_w (T' := T22) (g' := (mkF m 142 #[.val (.int x'), .val (.int sel), .unset, .unset, .unset] [(.int (21 : Int32)), (.ref b1), (.ref b1)])) (fun _ k_ => XS.bipush X22.here hx rfl (hb hby at_140) k_) ?_
  refine own_w (T' := T22) (g' := (mkF m 145 #[.val (.int x'), .val (.int sel), .unset, .unset, .unset] [(.int (8294 : Int32)), (.int (21 : Int32)), (.ref b1), (.ref b1)])) (fun _ k_ => XS.sipush X22.here hx rfl (hb hby at_142) k_) ?_
  obtain ⟨cl23, Ar23, hs23⟩ := id V22
  obtain ⟨T23, h23, X23, e23, W23, st23⟩ := stI X22 hx hZ e22 Ar23 (j := (21 : Int32)) (own_Ar_in (i := 21) hs23 (by decide) (by simp)) (g := (mkF m 145 #[.val (.int x'), .val (.int sel), .unset, .unset, .unset] [(.int (8294 : Int32)), (.int (21 : Int32)), (.ref b1), (.ref b1)])) rfl rfl (hb hby at_145)
  have V23 := own_Ar_set (i := 21) V22 W23 (by decide) rfl
  have N23 := Fr.snoc X23 N22 g_b1
  have Z23 : n0 ≤ h23.size := Nat.le_trans Z22 (Keep.of_wr W23).1
  refine own_w (T' := T23) (g' := (mkF m 146 #[.val (.int x'), .val (.int sel), .unset, .unset, .unset] [(.ref b1)])) st23 ?_
  refine own_w (T' := T23) (g' := (mkF m 147 #[.val (.int x'), .val (.int sel), .unset, .unset, .unset] [(.ref b1), (.ref b1)])) (fun _ k_ => XS.dup X23.here hx rfl (hb hby at_146) rfl rfl k_) ?_
  refine own_w (T' := T23) (g' := (mkF m 149 #[.val (.int x'), .val (.int sel), .unset, .unset, .unset] [(.int (22 : Int32)), (.ref b1), (.ref b1)])) (fun _ k_ => XS.bipush X23.here hx rfl (hb hby at_147) k_) ?_
  refine own_w (T' := T23) (g' := (mkF m 152 #[.val (.int x'), .val (.int sel), .unset, .unset, .unset] [(.int (8297 : Int32)), (.int (22 : Int32)), (.ref b1), (.ref b1)])) (fun _ k_ => XS.sipush X23.here hx rfl (hb hby at_149) k_) ?_
  obtain ⟨cl24, Ar24, hs24⟩ := id V23
  obtain ⟨T24, h24, X24, e24, W24, st24⟩ := stI X23 hx hZ e23 Ar24 (j := (22 : Int32)) (own_Ar_in (i := 22) hs24 (by decide) (by simp)) (g := (mkF m 152 #[.val (.int x'), .val (.int sel), .unset, .unset, .unset] [(.int (8297 : Int32)), (.int (22 : Int32)), (.ref b1), (.ref b1)])) rfl rfl (hb hby at_152)
  have V24 := own_Ar_set (i := 22) V23 W24 (by decide) rfl
  have N24 := Fr.snoc X24 N23 g_b1
  have Z24 : n0 ≤ h24.size := Nat.le_trans Z23 (Keep.of_wr W24).1
  refine own_w (T' := T24) (g' := (mkF m 153 #[.val (.int x'), .val (.int sel), .unset, .unset, .unset] [(.ref b1)])) st24 ?_
  refine own_w (T' := T24) (g' := (mkF m 154 #[.val (.int x'), .val (.int sel), .unset, .unset, .unset] [(.ref b1), (.ref b1)])) (fun _ k_ => XS.dup X24.here hx rfl (hb hby at_153) rfl rfl k_) ?_
  refine own_w (T' := T24) (g' := (mkF m 156 #[.val (.int x'), .val (.int sel), .unset, .unset, .unset] [(.int (23 : Int32)), (.ref b1), (.ref b1)])) (fun _ k_ => XS.bipush X24.here hx rfl (hb hby at_154) k_) ?_
  refine own_w (T' := T24) (g' := (mkF m 159 #[.val (.int x'), .val (.int sel), .unset, .unset, .unset] [(.int (8298 : Int32)), (.int (23 : Int32)), (.ref b1), (.ref b1)])) (fun _ k_ => XS.sipush X24.here hx rfl (hb hby at_156) k_) ?_
  obtain ⟨cl25, Ar25, hs25⟩ := id V24
  obtain ⟨T25, h25, X25, e25, W25, st25⟩ := stI X24 hx hZ e24 Ar25 (j := (23 : Int32)) (own_Ar_in (i := 23) hs25 (by decide) (by simp)) (g := (mkF m 159 #[.val (.int x'), .val (.int sel), .unset, .unset, .unset] [(.int (8298 : Int32)), (.int (23 : Int32)), (.ref b1), (.ref b1)])) rfl rfl (hb hby at_159)
  have V25 := own_Ar_set (i := 23) V24 W25 (by decide) rfl
  have N25 := Fr.snoc X25 N24 g_b1
  have Z25 : n0 ≤ h25.size := Nat.le_trans Z24 (Keep.of_wr W25).1
  refine own_w (T' := T25) (g' := (mkF m 160 #[.val (.int x'), .val (.int sel), .unset, .unset, .unset] [(.ref b1)])) st25 ?_
  refine own_w (T' := T25) (g' := (mkF m 161 #[.val (.int x'), .val (.int sel), .unset, .unset, .unset] [(.ref b1), (.ref b1)])) (fun _ k_ => XS.dup X25.here hx rfl (hb hby at_160) rfl rfl k_) ?_
  refine own_w (T' := T25) (g' := (mkF m 163 #[.val (.int x'), .val (.int sel), .unset, .unset, .unset] [(.int (24 : Int32)), (.ref b1), (.ref b1)])) (fun _ k_ => XS.bipush X25.here hx rfl (hb hby at_161) k_) ?_
  refine own_w (T' := T25) (g' := (mkF m 165 #[.val (.int x'), .val (.int sel), .unset, .unset, .unset] [(.int (65535 : Int32)), (.int (24 : Int32)), (.ref b1), (.ref b1)])) (X25.ldcInt hx hown (mvT hZ (hw _ (List.mem_of_getElem? (i := 1) rfl))) (g := (mkF m 163 #[.val (.int x'), .val (.int sel), .unset, .unset, .unset] [(.int (24 : Int32)), (.ref b1), (.ref b1)])) rfl (hb hby at_163)) ?_
  obtain ⟨cl26, Ar26, hs26⟩ := id V25
  obtain ⟨T26, h26, X26, e26, W26, st26⟩ := stI X25 hx hZ e25 Ar26 (j := (24 : Int32)) (own_Ar_in (i := 24) hs26 (by decide) (by simp)) (g := (mkF m 165 #[.val (.int x'), .val (.int sel), .unset, .unset, .unset] [(.int (65535 : Int32)), (.int (24 : Int32)), (.ref b1), (.ref b1)])) rfl rfl (hb hby at_165)
  have V26 := own_Ar_set (i := 24) V25 W26 (by decide) rfl
  have N26 := Fr.snoc X26 N25 g_b1
  have Z26 : n0 ≤ h26.size := Nat.le_trans Z25 (Keep.of_wr W26).1
  refine own_w (T' := T26) (g' := (mkF m 166 #[.val (.int x'), .val (.int sel), .unset, .unset, .unset] [(.ref b1)])) st26 ?_
  obtain ⟨LA27, XA27, NA27⟩ : ∃ L, Stand p l e room_1 s m #[(.int x'), (.int sel)] below meth c T26 L 1 25 ∧ Fr n0 L := ⟨_, X26, N26⟩
  obtain ⟨xs, hlen, V⟩ : ∃ xs : List Int32, xs.length = 25 ∧ own_Ar Z h26 b1 .int xs := ⟨_, by simp, V26⟩
  refine own_w (T' := T26) (g' := (mkF m 167 #[.val (.int x'), .val (.int sel), .val (.ref b1), .unset, .unset] [])) (fun _ k_ => XS.astoreN XA27.here hx rfl (hb hby at_166) rfl rfl (l' := #[.val (.int x'), .val (.int sel), .val (.ref b1), .unset, .unset]) rfl k_) ?_
  refine own_w (T' := T26) (g' := (mkF m 168 #[.val (.int x'), .val (.int sel), .val (.ref b1), .unset, .unset] [(.int sel)])) (fun _ k_ => XS.iloadN XA27.here hx rfl (hb hby at_167) rfl k_) ?_
  refine own_w (T' := T26) (g' := (mkF m 169 #[.val (.int x'), .val (.int sel), .val (.ref b1), .unset, .unset] [(.int (1 : Int32)), (.int sel)])) (fun _ k_ => XS.iconst XA27.here hx rfl (hb hby at_168) k_) ?_
  refine own_w (T' := T26) (g' := (mkF m 170 #[.val (.int x'), .val (.int sel), .val (.ref b1), .unset, .unset] [(.int (sel &&& (1 : Int32)))])) (fun _ k_ => XS.iand XA27.here hx rfl (hb hby at_169) rfl k_) ?_
  by_cases hc170 : (sel &&& (1 : Int32)) = (0 : Int32)
  · refine own_w (T' := T26) (g' := (mkF m 173 #[.val (.int x'), .val (.int sel), .val (.ref b1), .unset, .unset] [])) (fun _ k_ => XS.ifNo XA27.here hx rfl (hb hby at_170) rfl ((if0 _ _).trans (teq hc170).2) k_) ?_
    refine own_w (T' := T26) (g' := (mkF m 174 #[.val (.int x'), .val (.int sel), .val (.ref b1), .unset, .unset] [(.int x')])) (fun _ k_ => XS.iloadN XA27.here hx rfl (hb hby at_173) rfl k_) ?_
    refine own_w (T' := T26) (g' := (mkF m 176 #[.val (.int x'), .val (.int sel), .val (.ref b1), .unset, .unset] [(.int (65535 : Int32)), (.int x')])) (XA27.ldcInt hx hown (mvT hZ (hw _ (List.mem_of_getElem? (i := 1) rfl))) (g := (mkF m 174 #[.val (.int x'), .val (.int sel), .val (.ref b1), .unset, .unset] [(.int x')])) rfl (hb hby at_174)) ?_
    refine own_w (T' := T26) (g' := (mkF m 177 #[.val (.int x'), .val (.int sel), .val (.ref b1), .unset, .unset] [(.int (x' &&& (65535 : Int32)))])) (fun _ k_ => XS.iand XA27.here hx rfl (hb hby at_176) rfl k_) ?_
    refine own_w (T' := T26) (g' := (mkF m 178 #[.val (.int x'), .val (.int sel), .val (.ref b1), .val (.int (x' &&& (65535 : Int32))), .unset] [])) (fun _ k_ => XS.istoreN XA27.here hx rfl (hb hby at_177) rfl (l' := #[.val (.int x'), .val (.int sel), .val (.ref b1), .val (.int (x' &&& (65535 : Int32))), .unset]) rfl k_) ?_
    refine own_w (T' := T26) (g' := (mkF m 203 #[.val (.int x'), .val (.int sel), .val (.ref b1), .val (.int (x' &&& (65535 : Int32))), .unset] [])) (fun _ k_ => XS.goto XA27.here hx rfl (pc0 := 178) (pc' := 203) rfl (hb hby at_178) (by decide) (by decide) k_) ?_
    refine own_w (T' := T26) (g' := (mkF m 204 #[.val (.int x'), .val (.int sel), .val (.ref b1), .val (.int (x' &&& (65535 : Int32))), .unset] [(.int (x' &&& (65535 : Int32)))])) (fun _ k_ => XS.iloadN XA27.here hx rfl (hb hby at_203) rfl k_) ?_
    refine own_w (T' := T26) (g' := (mkF m 205 #[.val (.int x'), .val (.int sel), .val (.ref b1), .val (.int (x' &&& (65535 : Int32))), .unset] [(.int ((x' &&& (65535 : Int32)).toUInt32.toUInt16.toUInt32.toInt32))])) (fun _ k_ => XS.i2c XA27.here hx rfl (hb hby at_204) rfl k_) ?_
    refine own_w (T' := T26) (g' := (mkF m 207 #[.val (.int x'), .val (.int sel), .val (.ref b1), .val (.int (x' &&& (65535 : Int32))), .val (.int ((x' &&& (65535 : Int32)).toUInt32.toUInt16.toUInt32.toInt32))] [])) (fun _ k_ => XS.istore XA27.here hx rfl (hb hby at_205) rfl (l' := #[.val (.int x'), .val (.int sel), .val (.ref b1), .val (.int (x' &&& (65535 : Int32))), .val (.int ((x' &&& (65535 : Int32)).toUInt32.toUInt16.toUInt32.toInt32))]) rfl k_) ?_
    refine own_w (T' := T26) (g' := (mkF m 209 #[.val (.int x'), .val (.int sel), .val (.ref b1), .val (.int (x' &&& (65535 : Int32))), .val (.int ((x' &&& (65535 : Int32)).toUInt32.toUInt16.toUInt32.toInt32))] [(.int ((x' &&& (65535 : Int32)).toUInt32.toUInt16.toUInt32.toInt32))])) (fun _ k_ => XS.iload XA27.here hx rfl (hb hby at_207) rfl k_) ?_
    obtain ⟨_, _, ⟨T28, L28, k28, n28⟩, -, X28, ⟨Lc28, hQ28, l28, y28, z28⟩, st28⟩ := Jvm.LawKit.callS XA27 hx (y := (⟨"com/example/marshal_trust/marshaltrust/ControlCharacters", "needsEscape", "(C)Z"⟩ : MethodName)) hown (mvT hZ (hw _ (List.mem_of_getElem? (i := 2) rfl))) (mvT hZ (hw _ (List.mem_of_getElem? (i := 3) rfl))) (mvT hZ (hw _ (List.mem_of_getElem? (i := 4) rfl))) (mvT hZ (hw _ (List.mem_of_getElem? (i := 5) rfl))) (by decide) (backOf (W := 0) (own_rm1 l Z a0 hw [] ((x' &&& (65535 : Int32)).toUInt32.toUInt16.toUInt32.toInt32)  h26 n0 Z26 ) hZ (hw _ (List.mem_of_getElem? (i := 5) rfl)) (hw _ (List.mem_of_getElem? (i := 4) rfl)) (by decide) (by decide)) (g := (mkF m 209 #[.val (.int x'), .val (.int sel), .val (.ref b1), .val (.int (x' &&& (65535 : Int32))), .val (.int ((x' &&& (65535 : Int32)).toUInt32.toUInt16.toUInt32.toInt32))] [(.int ((x' &&& (65535 : Int32)).toUInt32.toUInt16.toUInt32.toInt32))])) rfl (by rw [hml]; rfl) (argsL := [(.int ((x' &&& (65535 : Int32)).toUInt32.toUInt16.toUInt32.toInt32))]) (rest := []) (lenOf own_pd1 rfl) rfl (by show 2 * 0 + _ ≤ _; exact Nat.le_of_eq rfl) (hb hby at_209) (fun _ _ => ⟨rfl, e26, (by decide : 1 + 0 ≤ _), (by decide : 25 + 0 ≤ _)⟩)
    dsimp only [Pt.U, Pt.locs, Pt.cells, Pt.slots] at X28 l28 y28 z28 st28 hQ28
    subst l28 y28 z28
    obtain ⟨rfl, N28q, e28⟩ := hQ28
    have N28 := Fr.app NA27 N28q
    refine own_w (T' := T28) (g' := (mkF m 212 #[.val (.int x'), .val (.int sel), .val (.ref b1), .val (.int (x' &&& (65535 : Int32))), .val (.int ((x' &&& (65535 : Int32)).toUInt32.toUInt16.toUInt32.toInt32))] [(.int (if ((¬ (159 : Int32) < ((x' &&& (65535 : Int32)).toUInt32.toUInt16.toUInt32.toInt32) ∧ (¬ ((x' &&& (65535 : Int32)).toUInt32.toUInt16.toUInt32.toInt32) < (127 : Int32) ∨ ((((x' &&& (65535 : Int32)).toUInt32.toUInt16.toUInt32.toInt32).toUInt32 >>> ((5 : Int32) &&& 31).toUInt32).toInt32) = (0 : Int32))) ∨ (((x' &&& (65535 : Int32)).toUInt32.toUInt16.toUInt32.toInt32) = (8232 : Int32) ∨ ((x' &&& (65535 : Int32)).toUInt32.toUInt16.toUInt32.toInt32) = (8233 : Int32)) ∨ (((x' &&& (65535 : Int32)).toUInt32.toUInt16.toUInt32.toInt32) = (1564 : Int32) ∨ ((x' &&& (65535 : Int32)).toUInt32.toUInt16.toUInt32.toInt32) = (8206 : Int32) ∨ ((x' &&& (65535 : Int32)).toUInt32.toUInt16.toUInt32.toInt32) = (8207 : Int32)) ∨ (¬ ((x' &&& (65535 : Int32)).toUInt32.toUInt16.toUInt32.toInt32) < (8234 : Int32) ∧ ¬ (8238 : Int32) < ((x' &&& (65535 : Int32)).toUInt32.toUInt16.toUInt32.toInt32)) ∨ (¬ ((x' &&& (65535 : Int32)).toUInt32.toUInt16.toUInt32.toInt32) < (8294 : Int32) ∧ ¬ (8297 : Int32) < ((x' &&& (65535 : Int32)).toUInt32.toUInt16.toUInt32.toInt32))) then (1 : Int32) else 0))])) st28 ?_
    refine own_w (T' := T28) (g' := (mkF m 213 #[.val (.int x'), .val (.int sel), .val (.ref b1), .val (.int (x' &&& (65535 : Int32))), .val (.int ((x' &&& (65535 : Int32)).toUInt32.toUInt16.toUInt32.toInt32))] [(.int (x' &&& (65535 : Int32))), (.int (if ((¬ (159 : Int32) < ((x' &&& (65535 : Int32)).toUInt32.toUInt16.toUInt32.toInt32) ∧ (¬ ((x' &&& (65535 : Int32)).toUInt32.toUInt16.toUInt32.toInt32) < (127 : Int32) ∨ ((((x' &&& (65535 : Int32)).toUInt32.toUInt16.toUInt32.toInt32).toUInt32 >>> ((5 : Int32) &&& 31).toUInt32).toInt32) = (0 : Int32))) ∨ (((x' &&& (65535 : Int32)).toUInt32.toUInt16.toUInt32.toInt32) = (8232 : Int32) ∨ ((x' &&& (65535 : Int32)).toUInt32.toUInt16.toUInt32.toInt32) = (8233 : Int32)) ∨ (((x' &&& (65535 : Int32)).toUInt32.toUInt16.toUInt32.toInt32) = (1564 : Int32) ∨ ((x' &&& (65535 : Int32)).toUInt32.toUInt16.toUInt32.toInt32) = (8206 : Int32) ∨ ((x' &&& (65535 : Int32)).toUInt32.toUInt16.toUInt32.toInt32) = (8207 : Int32)) ∨ (¬ ((x' &&& (65535 : Int32)).toUInt32.toUInt16.toUInt32.toInt32) < (8234 : Int32) ∧ ¬ (8238 : Int32) < ((x' &&& (65535 : Int32)).toUInt32.toUInt16.toUInt32.toInt32)) ∨ (¬ ((x' &&& (65535 : Int32)).toUInt32.toUInt16.toUInt32.toInt32) < (8294 : Int32) ∧ ¬ (8297 : Int32) < ((x' &&& (65535 : Int32)).toUInt32.toUInt16.toUInt32.toInt32))) then (1 : Int32) else 0))])) (fun _ k_ => XS.iloadN X28.here hx rfl (hb hby at_212) rfl k_) ?_
    obtain ⟨_, _, ⟨T29, L29, k29, n29⟩, -, X29, ⟨Lc29, hQ29, l29, y29, z29⟩, st29⟩ := Jvm.LawKit.callS X28 hx (y := (⟨"com/example/marshal_trust/marshaltrust/ControlCharactersNeedsEscapePinLaw", "expected", "(I)Z"⟩ : MethodName)) hown (mvT hZ (hw _ (List.mem_of_getElem? (i := 13) rfl))) (mvT hZ (hw _ (List.mem_of_getElem? (i := 14) rfl))) (mvT hZ (hw _ (List.mem_of_getElem? (i := 15) rfl))) (mvT hZ (hw _ (List.mem_of_getElem? (i := 16) rfl))) (by decide) (backOf (W := 1) (own_rm4 l Z a0 hw [] (x' &&& (65535 : Int32))  h26 n0 Z26 ) hZ (hw _ (List.mem_of_getElem? (i := 16) rfl)) (hw _ (List.mem_of_getElem? (i := 15) rfl)) (by decide) (by decide)) (g := (mkF m 213 #[.val (.int x'), .val (.int sel), .val (.ref b1), .val (.int (x' &&& (65535 : Int32))), .val (.int ((x' &&& (65535 : Int32)).toUInt32.toUInt16.toUInt32.toInt32))] [(.int (x' &&& (65535 : Int32))), (.int (if ((¬ (159 : Int32) < ((x' &&& (65535 : Int32)).toUInt32.toUInt16.toUInt32.toInt32) ∧ (¬ ((x' &&& (65535 : Int32)).toUInt32.toUInt16.toUInt32.toInt32) < (127 : Int32) ∨ ((((x' &&& (65535 : Int32)).toUInt32.toUInt16.toUInt32.toInt32).toUInt32 >>> ((5 : Int32) &&& 31).toUInt32).toInt32) = (0 : Int32))) ∨ (((x' &&& (65535 : Int32)).toUInt32.toUInt16.toUInt32.toInt32) = (8232 : Int32) ∨ ((x' &&& (65535 : Int32)).toUInt32.toUInt16.toUInt32.toInt32) = (8233 : Int32)) ∨ (((x' &&& (65535 : Int32)).toUInt32.toUInt16.toUInt32.toInt32) = (1564 : Int32) ∨ ((x' &&& (65535 : Int32)).toUInt32.toUInt16.toUInt32.toInt32) = (8206 : Int32) ∨ ((x' &&& (65535 : Int32)).toUInt32.toUInt16.toUInt32.toInt32) = (8207 : Int32)) ∨ (¬ ((x' &&& (65535 : Int32)).toUInt32.toUInt16.toUInt32.toInt32) < (8234 : Int32) ∧ ¬ (8238 : Int32) < ((x' &&& (65535 : Int32)).toUInt32.toUInt16.toUInt32.toInt32)) ∨ (¬ ((x' &&& (65535 : Int32)).toUInt32.toUInt16.toUInt32.toInt32) < (8294 : Int32) ∧ ¬ (8297 : Int32) < ((x' &&& (65535 : Int32)).toUInt32.toUInt16.toUInt32.toInt32))) then (1 : Int32) else 0))])) rfl (by rw [hml]; rfl) (argsL := [(.int (x' &&& (65535 : Int32)))]) (rest := [(.int (if ((¬ (159 : Int32) < ((x' &&& (65535 : Int32)).toUInt32.toUInt16.toUInt32.toInt32) ∧ (¬ ((x' &&& (65535 : Int32)).toUInt32.toUInt16.toUInt32.toInt32) < (127 : Int32) ∨ ((((x' &&& (65535 : Int32)).toUInt32.toUInt16.toUInt32.toInt32).toUInt32 >>> ((5 : Int32) &&& 31).toUInt32).toInt32) = (0 : Int32))) ∨ (((x' &&& (65535 : Int32)).toUInt32.toUInt16.toUInt32.toInt32) = (8232 : Int32) ∨ ((x' &&& (65535 : Int32)).toUInt32.toUInt16.toUInt32.toInt32) = (8233 : Int32)) ∨ (((x' &&& (65535 : Int32)).toUInt32.toUInt16.toUInt32.toInt32) = (1564 : Int32) ∨ ((x' &&& (65535 : Int32)).toUInt32.toUInt16.toUInt32.toInt32) = (8206 : Int32) ∨ ((x' &&& (65535 : Int32)).toUInt32.toUInt16.toUInt32.toInt32) = (8207 : Int32)) ∨ (¬ ((x' &&& (65535 : Int32)).toUInt32.toUInt16.toUInt32.toInt32) < (8234 : Int32) ∧ ¬ (8238 : Int32) < ((x' &&& (65535 : Int32)).toUInt32.toUInt16.toUInt32.toInt32)) ∨ (¬ ((x' &&& (65535 : Int32)).toUInt32.toUInt16.toUInt32.toInt32) < (8294 : Int32) ∧ ¬ (8297 : Int32) < ((x' &&& (65535 : Int32)).toUInt32.toUInt16.toUInt32.toInt32))) then (1 : Int32) else 0))]) (lenOf own_pd0 rfl) rfl (by show 2 * 0 + _ ≤ _; exact Nat.le_of_eq rfl) (hb hby at_213) (fun _ _ => ⟨rfl, e28, (by decide : 1 + 0 ≤ _), (by decide : 25 + 0 ≤ _)⟩)
    dsimp only [Pt.U, Pt.locs, Pt.cells, Pt.slots] at X29 l29 y29 z29 st29 hQ29
    subst l29 y29 z29
    obtain ⟨rfl, N29q, e29⟩ := hQ29
    have N29 := Fr.app N28 N29q
    refine own_w (T' := T29) (g' := (mkF m 216 #[.val (.int x'), .val (.int sel), .val (.ref b1), .val (.int (x' &&& (65535 : Int32))), .val (.int ((x' &&& (65535 : Int32)).toUInt32.toUInt16.toUInt32.toInt32))] [(.int (if ((¬ (31 : Int32) < (x' &&& (65535 : Int32)) ∨ (¬ (x' &&& (65535 : Int32)) < (127 : Int32) ∧ ¬ (159 : Int32) < (x' &&& (65535 : Int32)))) ∨ ((x' &&& (65535 : Int32)) = (8232 : Int32) ∨ (x' &&& (65535 : Int32)) = (8233 : Int32)) ∨ ((x' &&& (65535 : Int32)) = (1564 : Int32) ∨ (x' &&& (65535 : Int32)) = (8206 : Int32) ∨ (x' &&& (65535 : Int32)) = (8207 : Int32)) ∨ (¬ (x' &&& (65535 : Int32)) < (8234 : Int32) ∧ ¬ (8238 : Int32) < (x' &&& (65535 : Int32))) ∨ (¬ (x' &&& (65535 : Int32)) < (8294 : Int32) ∧ ¬ (8297 : Int32) < (x' &&& (65535 : Int32)))) then (1 : Int32) else 0)), (.int (if ((¬ (159 : Int32) < ((x' &&& (65535 : Int32)).toUInt32.toUInt16.toUInt32.toInt32) ∧ (¬ ((x' &&& (65535 : Int32)).toUInt32.toUInt16.toUInt32.toInt32) < (127 : Int32) ∨ ((((x' &&& (65535 : Int32)).toUInt32.toUInt16.toUInt32.toInt32).toUInt32 >>> ((5 : Int32) &&& 31).toUInt32).toInt32) = (0 : Int32))) ∨ (((x' &&& (65535 : Int32)).toUInt32.toUInt16.toUInt32.toInt32) = (8232 : Int32) ∨ ((x' &&& (65535 : Int32)).toUInt32.toUInt16.toUInt32.toInt32) = (8233 : Int32)) ∨ (((x' &&& (65535 : Int32)).toUInt32.toUInt16.toUInt32.toInt32) = (1564 : Int32) ∨ ((x' &&& (65535 : Int32)).toUInt32.toUInt16.toUInt32.toInt32) = (8206 : Int32) ∨ ((x' &&& (65535 : Int32)).toUInt32.toUInt16.toUInt32.toInt32) = (8207 : Int32)) ∨ (¬ ((x' &&& (65535 : Int32)).toUInt32.toUInt16.toUInt32.toInt32) < (8234 : Int32) ∧ ¬ (8238 : Int32) < ((x' &&& (65535 : Int32)).toUInt32.toUInt16.toUInt32.toInt32)) ∨ (¬ ((x' &&& (65535 : Int32)).toUInt32.toUInt16.toUInt32.toInt32) < (8294 : Int32) ∧ ¬ (8297 : Int32) < ((x' &&& (65535 : Int32)).toUInt32.toUInt16.toUInt32.toInt32))) then (1 : Int32) else 0))])) st29 ?_
    refine own_w (T' := T29) (g' := (mkF m 219 #[.val (.int x'), .val (.int sel), .val (.ref b1), .val (.int (x' &&& (65535 : Int32))), .val (.int ((x' &&& (65535 : Int32)).toUInt32.toUInt16.toUInt32.toInt32))] [])) (fun _ k_ => XS.icmpNo X29.here hx rfl (hb hby at_216) rfl (teq (own_law x' ((x' &&& (65535 : Int32)).toUInt32.toUInt16.toUInt32.toInt32) rfl)).2 k_) ?_
    refine own_w (T' := T29) (g' := (mkF m 220 #[.val (.int x'), .val (.int sel), .val (.ref b1), .val (.int (x' &&& (65535 : Int32))), .val (.int ((x' &&& (65535 : Int32)).toUInt32.toUInt16.toUInt32.toInt32))] [(.int (1 : Int32))])) (fun _ k_ => XS.iconst X29.here hx rfl (hb hby at_219) k_) ?_
    refine own_w (T' := T29) (g' := (mkF m 224 #[.val (.int x'), .val (.int sel), .val (.ref b1), .val (.int (x' &&& (65535 : Int32))), .val (.int ((x' &&& (65535 : Int32)).toUInt32.toUInt16.toUInt32.toInt32))] [(.int (1 : Int32))])) (fun _ k_ => XS.goto X29.here hx rfl (pc0 := 220) (pc' := 224) rfl (hb hby at_220) (by decide) (by decide) k_) ?_
    obtain ⟨fs, hr, hrun, hended, hW, hsame⟩ := X29.leave (v := some (.int (1 : Int32))) (fun h => by rw [Bd.returns] at h; cases h)
    exact ⟨_, _, retOut X29 hx Bd.returns rfl (Or.inl ⟨rfl, Or.inr (Or.inl rfl), _, rfl⟩) (hb hby at_224) hr, hrun, hended, _, _, rfl, (by show own_Q0 Z x' sel h0 n0 _ T29.heap _; rw [e29]; exact ⟨rfl, N29⟩), ⟨_, rfl⟩, hW, hsame.mono (by decide) (by decide)⟩
  · refine own_w (T' := T26) (g' := (mkF m 181 #[.val (.int x'), .val (.int sel), .val (.ref b1), .unset, .unset] [])) (fun _ k_ => XS.ifYes XA27.here hx rfl (pc0 := 170) (pc' := 181) rfl (hb hby at_170) rfl ((if0 _ _).trans (feq hc170).2) (by decide) (by decide) k_) ?_
    refine own_w (T' := T26) (g' := (mkF m 182 #[.val (.int x'), .val (.int sel), .val (.ref b1), .unset, .unset] [(.ref b1)])) (fun _ k_ => XS.aloadN XA27.here hx rfl (hb hby at_181) rfl rfl k_) ?_
    refine own_w (T' := T26) (g' := (mkF m 183 #[.val (.int x'), .val (.int sel), .val (.ref b1), .unset, .unset] [(.int sel), (.ref b1)])) (fun _ k_ => XS.iloadN XA27.here hx rfl (hb hby at_182) rfl k_) ?_
    refine own_w (T' := T26) (g' := (mkF m 184 #[.val (.int x'), .val (.int sel), .val (.ref b1), .unset, .unset] [(.int (1 : Int32)), (.int sel), (.ref b1)])) (fun _ k_ => XS.iconst XA27.here hx rfl (hb hby at_183) k_) ?_
    refine own_w (T' := T26) (g' := (mkF m 185 #[.val (.int x'), .val (.int sel), .val (.ref b1), .unset, .unset] [(.int ((sel.toUInt32 >>> ((1 : Int32) &&& 31).toUInt32).toInt32)), (.ref b1)])) (fun _ k_ => XS.iushr XA27.here hx rfl (hb hby at_184) rfl k_) ?_
    refine own_w (T' := T26) (g' := (mkF m 186 #[.val (.int x'), .val (.int sel), .val (.ref b1), .unset, .unset] [(.ref b1), (.int ((sel.toUInt32 >>> ((1 : Int32) &&& 31).toUInt32).toInt32)), (.ref b1)])) (fun _ k_ => XS.aloadN XA27.here hx rfl (hb hby at_185) rfl rfl k_) ?_
    obtain ⟨cl30, Ar30, hs30⟩ := id V
    have hl30 : cl30.slots.size.toInt32 = (25 : Int32) := by rw [hs30]; simp [hlen]; decide
    refine own_w (T' := T26) (g' := (mkF m 187 #[.val (.int x'), .val (.int sel), .val (.ref b1), .unset, .unset] [(.int (25 : Int32)), (.int ((sel.toUInt32 >>> ((1 : Int32) &&& 31).toUInt32).toInt32)), (.ref b1)])) (fun t_ k_ => XA27.arraylength hx (by rw [e26]; exact Ar30.1) (State.isArrayOf_alike hZ.alike Ar30.2.1) (g := (mkF m 186 #[.val (.int x'), .val (.int sel), .val (.ref b1), .unset, .unset] [(.ref b1), (.int ((sel.toUInt32 >>> ((1 : Int32) &&& 31).toUInt32).toInt32)), (.ref b1)])) rfl rfl (hb hby at_186) t_ (by rw [hl30]; exact k_)) ?_
    refine own_w (T' := T26) (g' := (mkF m 188 #[.val (.int x'), .val (.int sel), .val (.ref b1), .unset, .unset] [(.int (((sel.toUInt32 >>> ((1 : Int32) &&& 31).toUInt32).toInt32) - (((sel.toUInt32 >>> ((1 : Int32) &&& 31).toUInt32).toInt32) / (25 : Int32)) * (25 : Int32))), (.ref b1)])) (fun _ k_ => XS.irem XA27.here hx rfl (hb hby at_187) rfl (by decide) k_) ?_
    have hq := c_iushr sel 1 1 (by decide) (by decide)
    have hr := own_rem (x := ((sel.toUInt32 >>> ((1 : Int32) &&& 31).toUInt32).toInt32)) (y := (25 : Int32)) 25 (by decide) (by decide) (by rw [hq]; omega)
    obtain ⟨i, hi⟩ : ∃ i : Nat, ((((sel.toUInt32 >>> ((1 : Int32) &&& 31).toUInt32).toInt32) - (((sel.toUInt32 >>> ((1 : Int32) &&& 31).toUInt32).toInt32) / (25 : Int32)) * (25 : Int32))).toInt = (i : Int) := ⟨((((sel.toUInt32 >>> ((1 : Int32) &&& 31).toUInt32).toInt32) - (((sel.toUInt32 >>> ((1 : Int32) &&& 31).toUInt32).toInt32) / (25 : Int32)) * (25 : Int32))).toInt.toNat, by rw [hr]; omega⟩
    obtain ⟨y, hy⟩ : ∃ y, xs[i]? = some y := ⟨_, List.getElem?_eq_getElem (by rw [hlen]; rw [hr] at hi; omega)⟩
    obtain ⟨cl31, Ar31, hs31⟩ := id V
    refine own_w (T' := T26) (g' := (mkF m 189 #[.val (.int x'), .val (.int sel), .val (.ref b1), .unset, .unset] [(.int y)])) (fun t_ k_ => XA27.iaload hx (j := (((sel.toUInt32 >>> ((1 : Int32) &&& 31).toUInt32).toInt32) - (((sel.toUInt32 >>> ((1 : Int32) &&& 31).toUInt32).toInt32) / (25 : Int32)) * (25 : Int32))) (v := .int y) (by rw [e26]; exact Ar31.1) (State.isArrayOf_alike hZ.alike Ar31.2.1) Ar31.2.2 (own_Ar_in hs31 hi (own_get_lt (show _ = some y from hy))) (own_Ar_at hs31 hi (show _ = some y from hy)) (g := (mkF m 188 #[.val (.int x'), .val (.int sel), .val (.ref b1), .unset, .unset] [(.int (((sel.toUInt32 >>> ((1 : Int32) &&& 31).toUInt32).toInt32) - (((sel.toUInt32 >>> ((1 : Int32) &&& 31).toUInt32).toInt32) / (25 : Int32)) * (25 : Int32))), (.ref b1)])) rfl rfl (hb hby at_188) t_ k_) ?_
    refine own_w (T' := T26) (g' := (mkF m 191 #[.val (.int x'), .val (.int sel), .val (.ref b1), .unset, .val (.int y)] [])) (fun _ k_ => XS.istore XA27.here hx rfl (hb hby at_189) rfl (l' := #[.val (.int x'), .val (.int sel), .val (.ref b1), .unset, .val (.int y)]) rfl k_) ?_
    refine own_w (T' := T26) (g' := (mkF m 193 #[.val (.int x'), .val (.int sel), .val (.ref b1), .unset, .val (.int y)] [(.int y)])) (fun _ k_ => XS.iload XA27.here hx rfl (hb hby at_191) rfl k_) ?_
    refine own_w (T' := T26) (g' := (mkF m 194 #[.val (.int x'), .val (.int sel), .val (.ref b1), .unset, .val (.int y)] [(.int x'), (.int y)])) (fun _ k_ => XS.iloadN XA27.here hx rfl (hb hby at_193) rfl k_) ?_
    refine own_w (T' := T26) (g' := (mkF m 195 #[.val (.int x'), .val (.int sel), .val (.ref b1), .unset, .val (.int y)] [(.int (3 : Int32)), (.int x'), (.int y)])) (fun _ k_ => XS.iconst XA27.here hx rfl (hb hby at_194) k_) ?_
    refine own_w (T' := T26) (g' := (mkF m 196 #[.val (.int x'), .val (.int sel), .val (.ref b1), .unset, .val (.int y)] [(.int (x' &&& (3 : Int32))), (.int y)])) (fun _ k_ => XS.iand XA27.here hx rfl (hb hby at_195) rfl k_) ?_
    refine own_w (T' := T26) (g' := (mkF m 197 #[.val (.int x'), .val (.int sel), .val (.ref b1), .unset, .val (.int y)] [(.int (1 : Int32)), (.int (x' &&& (3 : Int32))), (.int y)])) (fun _ k_ => XS.iconst XA27.here hx rfl (hb hby at_196) k_) ?_
    refine own_w (T' := T26) (g' := (mkF m 198 #[.val (.int x'), .val (.int sel), .val (.ref b1), .unset, .val (.int y)] [(.int ((x' &&& (3 : Int32)) - (1 : Int32))), (.int y)])) (fun _ k_ => XS.isub XA27.here hx rfl (hb hby at_197) rfl k_) ?_
    refine own_w (T' := T26) (g' := (mkF m 199 #[.val (.int x'), .val (.int sel), .val (.ref b1), .unset, .val (.int y)] [(.int (y + ((x' &&& (3 : Int32)) - (1 : Int32))))])) (fun _ k_ => XS.iadd XA27.here hx rfl (hb hby at_198) rfl k_) ?_
    refine own_w (T' := T26) (g' := (mkF m 201 #[.val (.int x'), .val (.int sel), .val (.ref b1), .unset, .val (.int y)] [(.int (65535 : Int32)), (.int (y + ((x' &&& (3 : Int32)) - (1 : Int32))))])) (XA27.ldcInt hx hown (mvT hZ (hw _ (List.mem_of_getElem? (i := 1) rfl))) (g := (mkF m 199 #[.val (.int x'), .val (.int sel), .val (.ref b1), .unset, .val (.int y)] [(.int (y + ((x' &&& (3 : Int32)) - (1 : Int32))))])) rfl (hb hby at_199)) ?_
    refine own_w (T' := T26) (g' := (mkF m 202 #[.val (.int x'), .val (.int sel), .val (.ref b1), .unset, .val (.int y)] [(.int ((y + ((x' &&& (3 : Int32)) - (1 : Int32))) &&& (65535 : Int32)))])) (fun _ k_ => XS.iand XA27.here hx rfl (hb hby at_201) rfl k_) ?_
    refine own_w (T' := T26) (g' := (mkF m 203 #[.val (.int x'), .val (.int sel), .val (.ref b1), .val (.int ((y + ((x' &&& (3 : Int32)) - (1 : Int32))) &&& (65535 : Int32))), .val (.int y)] [])) (fun _ k_ => XS.istoreN XA27.here hx rfl (hb hby at_202) rfl (l' := #[.val (.int x'), .val (.int sel), .val (.ref b1), .val (.int ((y + ((x' &&& (3 : Int32)) - (1 : Int32))) &&& (65535 : Int32))), .val (.int y)]) rfl k_) ?_
    refine own_w (T' := T26) (g' := (mkF m 204 #[.val (.int x'), .val (.int sel), .val (.ref b1), .val (.int ((y + ((x' &&& (3 : Int32)) - (1 : Int32))) &&& (65535 : Int32))), .val (.int y)] [(.int ((y + ((x' &&& (3 : Int32)) - (1 : Int32))) &&& (65535 : Int32)))])) (fun _ k_ => XS.iloadN XA27.here hx rfl (hb hby at_203) rfl k_) ?_
    refine own_w (T' := T26) (g' := (mkF m 205 #[.val (.int x'), .val (.int sel), .val (.ref b1), .val (.int ((y + ((x' &&& (3 : Int32)) - (1 : Int32))) &&& (65535 : Int32))), .val (.int y)] [(.int (((y + ((x' &&& (3 : Int32)) - (1 : Int32))) &&& (65535 : Int32)).toUInt32.toUInt16.toUInt32.toInt32))])) (fun _ k_ => XS.i2c XA27.here hx rfl (hb hby at_204) rfl k_) ?_
    refine own_w (T' := T26) (g' := (mkF m 207 #[.val (.int x'), .val (.int sel), .val (.ref b1), .val (.int ((y + ((x' &&& (3 : Int32)) - (1 : Int32))) &&& (65535 : Int32))), .val (.int (((y + ((x' &&& (3 : Int32)) - (1 : Int32))) &&& (65535 : Int32)).toUInt32.toUInt16.toUInt32.toInt32))] [])) (fun _ k_ => XS.istore XA27.here hx rfl (hb hby at_205) rfl (l' := #[.val (.int x'), .val (.int sel), .val (.ref b1), .val (.int ((y + ((x' &&& (3 : Int32)) - (1 : Int32))) &&& (65535 : Int32))), .val (.int (((y + ((x' &&& (3 : Int32)) - (1 : Int32))) &&& (65535 : Int32)).toUInt32.toUInt16.toUInt32.toInt32))]) rfl k_) ?_
    refine own_w (T' := T26) (g' := (mkF m 209 #[.val (.int x'), .val (.int sel), .val (.ref b1), .val (.int ((y + ((x' &&& (3 : Int32)) - (1 : Int32))) &&& (65535 : Int32))), .val (.int (((y + ((x' &&& (3 : Int32)) - (1 : Int32))) &&& (65535 : Int32)).toUInt32.toUInt16.toUInt32.toInt32))] [(.int (((y + ((x' &&& (3 : Int32)) - (1 : Int32))) &&& (65535 : Int32)).toUInt32.toUInt16.toUInt32.toInt32))])) (fun _ k_ => XS.iload XA27.here hx rfl (hb hby at_207) rfl k_) ?_
    obtain ⟨_, _, ⟨T32, L32, k32, n32⟩, -, X32, ⟨Lc32, hQ32, l32, y32, z32⟩, st32⟩ := Jvm.LawKit.callS XA27 hx (y := (⟨"com/example/marshal_trust/marshaltrust/ControlCharacters", "needsEscape", "(C)Z"⟩ : MethodName)) hown (mvT hZ (hw _ (List.mem_of_getElem? (i := 2) rfl))) (mvT hZ (hw _ (List.mem_of_getElem? (i := 3) rfl))) (mvT hZ (hw _ (List.mem_of_getElem? (i := 4) rfl))) (mvT hZ (hw _ (List.mem_of_getElem? (i := 5) rfl))) (by decide) (backOf (W := 0) (own_rm1 l Z a0 hw [] (((y + ((x' &&& (3 : Int32)) - (1 : Int32))) &&& (65535 : Int32)).toUInt32.toUInt16.toUInt32.toInt32)  h26 n0 Z26 ) hZ (hw _ (List.mem_of_getElem? (i := 5) rfl)) (hw _ (List.mem_of_getElem? (i := 4) rfl)) (by decide) (by decide)) (g := (mkF m 209 #[.val (.int x'), .val (.int sel), .val (.ref b1), .val (.int ((y + ((x' &&& (3 : Int32)) - (1 : Int32))) &&& (65535 : Int32))), .val (.int (((y + ((x' &&& (3 : Int32)) - (1 : Int32))) &&& (65535 : Int32)).toUInt32.toUInt16.toUInt32.toInt32))] [(.int (((y + ((x' &&& (3 : Int32)) - (1 : Int32))) &&& (65535 : Int32)).toUInt32.toUInt16.toUInt32.toInt32))])) rfl (by rw [hml]; rfl) (argsL := [(.int (((y + ((x' &&& (3 : Int32)) - (1 : Int32))) &&& (65535 : Int32)).toUInt32.toUInt16.toUInt32.toInt32))]) (rest := []) (lenOf own_pd1 rfl) rfl (by show 2 * 0 + _ ≤ _; exact Nat.le_of_eq rfl) (hb hby at_209) (fun _ _ => ⟨rfl, e26, (by decide : 1 + 0 ≤ _), (by decide : 25 + 0 ≤ _)⟩)
    dsimp only [Pt.U, Pt.locs, Pt.cells, Pt.slots] at X32 l32 y32 z32 st32 hQ32
    subst l32 y32 z32
    obtain ⟨rfl, N32q, e32⟩ := hQ32
    have N32 := Fr.app NA27 N32q
    refine own_w (T' := T32) (g' := (mkF m 212 #[.val (.int x'), .val (.int sel), .val (.ref b1), .val (.int ((y + ((x' &&& (3 : Int32)) - (1 : Int32))) &&& (65535 : Int32))), .val (.int (((y + ((x' &&& (3 : Int32)) - (1 : Int32))) &&& (65535 : Int32)).toUInt32.toUInt16.toUInt32.toInt32))] [(.int (if ((¬ (159 : Int32) < (((y + ((x' &&& (3 : Int32)) - (1 : Int32))) &&& (65535 : Int32)).toUInt32.toUInt16.toUInt32.toInt32) ∧ (¬ (((y + ((x' &&& (3 : Int32)) - (1 : Int32))) &&& (65535 : Int32)).toUInt32.toUInt16.toUInt32.toInt32) < (127 : Int32) ∨ (((((y + ((x' &&& (3 : Int32)) - (1 : Int32))) &&& (65535 : Int32)).toUInt32.toUInt16.toUInt32.toInt32).toUInt32 >>> ((5 : Int32) &&& 31).toUInt32).toInt32) = (0 : Int32))) ∨ ((((y + ((x' &&& (3 : Int32)) - (1 : Int32))) &&& (65535 : Int32)).toUInt32.toUInt16.toUInt32.toInt32) = (8232 : Int32) ∨ (((y + ((x' &&& (3 : Int32)) - (1 : Int32))) &&& (65535 : Int32)).toUInt32.toUInt16.toUInt32.toInt32) = (8233 : Int32)) ∨ ((((y + ((x' &&& (3 : Int32)) - (1 : Int32))) &&& (65535 : Int32)).toUInt32.toUInt16.toUInt32.toInt32) = (1564 : Int32) ∨ (((y + ((x' &&& (3 : Int32)) - (1 : Int32))) &&& (65535 : Int32)).toUInt32.toUInt16.toUInt32.toInt32) = (8206 : Int32) ∨ (((y + ((x' &&& (3 : Int32)) - (1 : Int32))) &&& (65535 : Int32)).toUInt32.toUInt16.toUInt32.toInt32) = (8207 : Int32)) ∨ (¬ (((y + ((x' &&& (3 : Int32)) - (1 : Int32))) &&& (65535 : Int32)).toUInt32.toUInt16.toUInt32.toInt32) < (8234 : Int32) ∧ ¬ (8238 : Int32) < (((y + ((x' &&& (3 : Int32)) - (1 : Int32))) &&& (65535 : Int32)).toUInt32.toUInt16.toUInt32.toInt32)) ∨ (¬ (((y + ((x' &&& (3 : Int32)) - (1 : Int32))) &&& (65535 : Int32)).toUInt32.toUInt16.toUInt32.toInt32) < (8294 : Int32) ∧ ¬ (8297 : Int32) < (((y + ((x' &&& (3 : Int32)) - (1 : Int32))) &&& (65535 : Int32)).toUInt32.toUInt16.toUInt32.toInt32))) then (1 : Int32) else 0))])) st32 ?_
    refine own_w (T' := T32) (g' := (mkF m 213 #[.val (.int x'), .val (.int sel), .val (.ref b1), .val (.int ((y + ((x' &&& (3 : Int32)) - (1 : Int32))) &&& (65535 : Int32))), .val (.int (((y + ((x' &&& (3 : Int32)) - (1 : Int32))) &&& (65535 : Int32)).toUInt32.toUInt16.toUInt32.toInt32))] [(.int ((y + ((x' &&& (3 : Int32)) - (1 : Int32))) &&& (65535 : Int32))), (.int (if ((¬ (159 : Int32) < (((y + ((x' &&& (3 : Int32)) - (1 : Int32))) &&& (65535 : Int32)).toUInt32.toUInt16.toUInt32.toInt32) ∧ (¬ (((y + ((x' &&& (3 : Int32)) - (1 : Int32))) &&& (65535 : Int32)).toUInt32.toUInt16.toUInt32.toInt32) < (127 : Int32) ∨ (((((y + ((x' &&& (3 : Int32)) - (1 : Int32))) &&& (65535 : Int32)).toUInt32.toUInt16.toUInt32.toInt32).toUInt32 >>> ((5 : Int32) &&& 31).toUInt32).toInt32) = (0 : Int32))) ∨ ((((y + ((x' &&& (3 : Int32)) - (1 : Int32))) &&& (65535 : Int32)).toUInt32.toUInt16.toUInt32.toInt32) = (8232 : Int32) ∨ (((y + ((x' &&& (3 : Int32)) - (1 : Int32))) &&& (65535 : Int32)).toUInt32.toUInt16.toUInt32.toInt32) = (8233 : Int32)) ∨ ((((y + ((x' &&& (3 : Int32)) - (1 : Int32))) &&& (65535 : Int32)).toUInt32.toUInt16.toUInt32.toInt32) = (1564 : Int32) ∨ (((y + ((x' &&& (3 : Int32)) - (1 : Int32))) &&& (65535 : Int32)).toUInt32.toUInt16.toUInt32.toInt32) = (8206 : Int32) ∨ (((y + ((x' &&& (3 : Int32)) - (1 : Int32))) &&& (65535 : Int32)).toUInt32.toUInt16.toUInt32.toInt32) = (8207 : Int32)) ∨ (¬ (((y + ((x' &&& (3 : Int32)) - (1 : Int32))) &&& (65535 : Int32)).toUInt32.toUInt16.toUInt32.toInt32) < (8234 : Int32) ∧ ¬ (8238 : Int32) < (((y + ((x' &&& (3 : Int32)) - (1 : Int32))) &&& (65535 : Int32)).toUInt32.toUInt16.toUInt32.toInt32)) ∨ (¬ (((y + ((x' &&& (3 : Int32)) - (1 : Int32))) &&& (65535 : Int32)).toUInt32.toUInt16.toUInt32.toInt32) < (8294 : Int32) ∧ ¬ (8297 : Int32) < (((y + ((x' &&& (3 : Int32)) - (1 : Int32))) &&& (65535 : Int32)).toUInt32.toUInt16.toUInt32.toInt32))) then (1 : Int32) else 0))])) (fun _ k_ => XS.iloadN X32.here hx rfl (hb hby at_212) rfl k_) ?_
    obtain ⟨_, _, ⟨T33, L33, k33, n33⟩, -, X33, ⟨Lc33, hQ33, l33, y33, z33⟩, st33⟩ := Jvm.LawKit.callS X32 hx (y := (⟨"com/example/marshal_trust/marshaltrust/ControlCharactersNeedsEscapePinLaw", "expected", "(I)Z"⟩ : MethodName)) hown (mvT hZ (hw _ (List.mem_of_getElem? (i := 13) rfl))) (mvT hZ (hw _ (List.mem_of_getElem? (i := 14) rfl))) (mvT hZ (hw _ (List.mem_of_getElem? (i := 15) rfl))) (mvT hZ (hw _ (List.mem_of_getElem? (i := 16) rfl))) (by decide) (backOf (W := 1) (own_rm4 l Z a0 hw [] ((y + ((x' &&& (3 : Int32)) - (1 : Int32))) &&& (65535 : Int32))  h26 n0 Z26 ) hZ (hw _ (List.mem_of_getElem? (i := 16) rfl)) (hw _ (List.mem_of_getElem? (i := 15) rfl)) (by decide) (by decide)) (g := (mkF m 213 #[.val (.int x'), .val (.int sel), .val (.ref b1), .val (.int ((y + ((x' &&& (3 : Int32)) - (1 : Int32))) &&& (65535 : Int32))), .val (.int (((y + ((x' &&& (3 : Int32)) - (1 : Int32))) &&& (65535 : Int32)).toUInt32.toUInt16.toUInt32.toInt32))] [(.int ((y + ((x' &&& (3 : Int32)) - (1 : Int32))) &&& (65535 : Int32))), (.int (if ((¬ (159 : Int32) < (((y + ((x' &&& (3 : Int32)) - (1 : Int32))) &&& (65535 : Int32)).toUInt32.toUInt16.toUInt32.toInt32) ∧ (¬ (((y + ((x' &&& (3 : Int32)) - (1 : Int32))) &&& (65535 : Int32)).toUInt32.toUInt16.toUInt32.toInt32) < (127 : Int32) ∨ (((((y + ((x' &&& (3 : Int32)) - (1 : Int32))) &&& (65535 : Int32)).toUInt32.toUInt16.toUInt32.toInt32).toUInt32 >>> ((5 : Int32) &&& 31).toUInt32).toInt32) = (0 : Int32))) ∨ ((((y + ((x' &&& (3 : Int32)) - (1 : Int32))) &&& (65535 : Int32)).toUInt32.toUInt16.toUInt32.toInt32) = (8232 : Int32) ∨ (((y + ((x' &&& (3 : Int32)) - (1 : Int32))) &&& (65535 : Int32)).toUInt32.toUInt16.toUInt32.toInt32) = (8233 : Int32)) ∨ ((((y + ((x' &&& (3 : Int32)) - (1 : Int32))) &&& (65535 : Int32)).toUInt32.toUInt16.toUInt32.toInt32) = (1564 : Int32) ∨ (((y + ((x' &&& (3 : Int32)) - (1 : Int32))) &&& (65535 : Int32)).toUInt32.toUInt16.toUInt32.toInt32) = (8206 : Int32) ∨ (((y + ((x' &&& (3 : Int32)) - (1 : Int32))) &&& (65535 : Int32)).toUInt32.toUInt16.toUInt32.toInt32) = (8207 : Int32)) ∨ (¬ (((y + ((x' &&& (3 : Int32)) - (1 : Int32))) &&& (65535 : Int32)).toUInt32.toUInt16.toUInt32.toInt32) < (8234 : Int32) ∧ ¬ (8238 : Int32) < (((y + ((x' &&& (3 : Int32)) - (1 : Int32))) &&& (65535 : Int32)).toUInt32.toUInt16.toUInt32.toInt32)) ∨ (¬ (((y + ((x' &&& (3 : Int32)) - (1 : Int32))) &&& (65535 : Int32)).toUInt32.toUInt16.toUInt32.toInt32) < (8294 : Int32) ∧ ¬ (8297 : Int32) < (((y + ((x' &&& (3 : Int32)) - (1 : Int32))) &&& (65535 : Int32)).toUInt32.toUInt16.toUInt32.toInt32))) then (1 : Int32) else 0))])) rfl (by rw [hml]; rfl) (argsL := [(.int ((y + ((x' &&& (3 : Int32)) - (1 : Int32))) &&& (65535 : Int32)))]) (rest := [(.int (if ((¬ (159 : Int32) < (((y + ((x' &&& (3 : Int32)) - (1 : Int32))) &&& (65535 : Int32)).toUInt32.toUInt16.toUInt32.toInt32) ∧ (¬ (((y + ((x' &&& (3 : Int32)) - (1 : Int32))) &&& (65535 : Int32)).toUInt32.toUInt16.toUInt32.toInt32) < (127 : Int32) ∨ (((((y + ((x' &&& (3 : Int32)) - (1 : Int32))) &&& (65535 : Int32)).toUInt32.toUInt16.toUInt32.toInt32).toUInt32 >>> ((5 : Int32) &&& 31).toUInt32).toInt32) = (0 : Int32))) ∨ ((((y + ((x' &&& (3 : Int32)) - (1 : Int32))) &&& (65535 : Int32)).toUInt32.toUInt16.toUInt32.toInt32) = (8232 : Int32) ∨ (((y + ((x' &&& (3 : Int32)) - (1 : Int32))) &&& (65535 : Int32)).toUInt32.toUInt16.toUInt32.toInt32) = (8233 : Int32)) ∨ ((((y + ((x' &&& (3 : Int32)) - (1 : Int32))) &&& (65535 : Int32)).toUInt32.toUInt16.toUInt32.toInt32) = (1564 : Int32) ∨ (((y + ((x' &&& (3 : Int32)) - (1 : Int32))) &&& (65535 : Int32)).toUInt32.toUInt16.toUInt32.toInt32) = (8206 : Int32) ∨ (((y + ((x' &&& (3 : Int32)) - (1 : Int32))) &&& (65535 : Int32)).toUInt32.toUInt16.toUInt32.toInt32) = (8207 : Int32)) ∨ (¬ (((y + ((x' &&& (3 : Int32)) - (1 : Int32))) &&& (65535 : Int32)).toUInt32.toUInt16.toUInt32.toInt32) < (8234 : Int32) ∧ ¬ (8238 : Int32) < (((y + ((x' &&& (3 : Int32)) - (1 : Int32))) &&& (65535 : Int32)).toUInt32.toUInt16.toUInt32.toInt32)) ∨ (¬ (((y + ((x' &&& (3 : Int32)) - (1 : Int32))) &&& (65535 : Int32)).toUInt32.toUInt16.toUInt32.toInt32) < (8294 : Int32) ∧ ¬ (8297 : Int32) < (((y + ((x' &&& (3 : Int32)) - (1 : Int32))) &&& (65535 : Int32)).toUInt32.toUInt16.toUInt32.toInt32))) then (1 : Int32) else 0))]) (lenOf own_pd0 rfl) rfl (by show 2 * 0 + _ ≤ _; exact Nat.le_of_eq rfl) (hb hby at_213) (fun _ _ => ⟨rfl, e32, (by decide : 1 + 0 ≤ _), (by decide : 25 + 0 ≤ _)⟩)
    dsimp only [Pt.U, Pt.locs, Pt.cells, Pt.slots] at X33 l33 y33 z33 st33 hQ33
    subst l33 y33 z33
    obtain ⟨rfl, N33q, e33⟩ := hQ33
    have N33 := Fr.app N32 N33q
    refine own_w (T' := T33) (g' := (mkF m 216 #[.val (.int x'), .val (.int sel), .val (.ref b1), .val (.int ((y + ((x' &&& (3 : Int32)) - (1 : Int32))) &&& (65535 : Int32))), .val (.int (((y + ((x' &&& (3 : Int32)) - (1 : Int32))) &&& (65535 : Int32)).toUInt32.toUInt16.toUInt32.toInt32))] [(.int (if ((¬ (31 : Int32) < ((y + ((x' &&& (3 : Int32)) - (1 : Int32))) &&& (65535 : Int32)) ∨ (¬ ((y + ((x' &&& (3 : Int32)) - (1 : Int32))) &&& (65535 : Int32)) < (127 : Int32) ∧ ¬ (159 : Int32) < ((y + ((x' &&& (3 : Int32)) - (1 : Int32))) &&& (65535 : Int32)))) ∨ (((y + ((x' &&& (3 : Int32)) - (1 : Int32))) &&& (65535 : Int32)) = (8232 : Int32) ∨ ((y + ((x' &&& (3 : Int32)) - (1 : Int32))) &&& (65535 : Int32)) = (8233 : Int32)) ∨ (((y + ((x' &&& (3 : Int32)) - (1 : Int32))) &&& (65535 : Int32)) = (1564 : Int32) ∨ ((y + ((x' &&& (3 : Int32)) - (1 : Int32))) &&& (65535 : Int32)) = (8206 : Int32) ∨ ((y + ((x' &&& (3 : Int32)) - (1 : Int32))) &&& (65535 : Int32)) = (8207 : Int32)) ∨ (¬ ((y + ((x' &&& (3 : Int32)) - (1 : Int32))) &&& (65535 : Int32)) < (8234 : Int32) ∧ ¬ (8238 : Int32) < ((y + ((x' &&& (3 : Int32)) - (1 : Int32))) &&& (65535 : Int32))) ∨ (¬ ((y + ((x' &&& (3 : Int32)) - (1 : Int32))) &&& (65535 : Int32)) < (8294 : Int32) ∧ ¬ (8297 : Int32) < ((y + ((x' &&& (3 : Int32)) - (1 : Int32))) &&& (65535 : Int32)))) then (1 : Int32) else 0)), (.int (if ((¬ (159 : Int32) < (((y + ((x' &&& (3 : Int32)) - (1 : Int32))) &&& (65535 : Int32)).toUInt32.toUInt16.toUInt32.toInt32) ∧ (¬ (((y + ((x' &&& (3 : Int32)) - (1 : Int32))) &&& (65535 : Int32)).toUInt32.toUInt16.toUInt32.toInt32) < (127 : Int32) ∨ (((((y + ((x' &&& (3 : Int32)) - (1 : Int32))) &&& (65535 : Int32)).toUInt32.toUInt16.toUInt32.toInt32).toUInt32 >>> ((5 : Int32) &&& 31).toUInt32).toInt32) = (0 : Int32))) ∨ ((((y + ((x' &&& (3 : Int32)) - (1 : Int32))) &&& (65535 : Int32)).toUInt32.toUInt16.toUInt32.toInt32) = (8232 : Int32) ∨ (((y + ((x' &&& (3 : Int32)) - (1 : Int32))) &&& (65535 : Int32)).toUInt32.toUInt16.toUInt32.toInt32) = (8233 : Int32)) ∨ ((((y + ((x' &&& (3 : Int32)) - (1 : Int32))) &&& (65535 : Int32)).toUInt32.toUInt16.toUInt32.toInt32) = (1564 : Int32) ∨ (((y + ((x' &&& (3 : Int32)) - (1 : Int32))) &&& (65535 : Int32)).toUInt32.toUInt16.toUInt32.toInt32) = (8206 : Int32) ∨ (((y + ((x' &&& (3 : Int32)) - (1 : Int32))) &&& (65535 : Int32)).toUInt32.toUInt16.toUInt32.toInt32) = (8207 : Int32)) ∨ (¬ (((y + ((x' &&& (3 : Int32)) - (1 : Int32))) &&& (65535 : Int32)).toUInt32.toUInt16.toUInt32.toInt32) < (8234 : Int32) ∧ ¬ (8238 : Int32) < (((y + ((x' &&& (3 : Int32)) - (1 : Int32))) &&& (65535 : Int32)).toUInt32.toUInt16.toUInt32.toInt32)) ∨ (¬ (((y + ((x' &&& (3 : Int32)) - (1 : Int32))) &&& (65535 : Int32)).toUInt32.toUInt16.toUInt32.toInt32) < (8294 : Int32) ∧ ¬ (8297 : Int32) < (((y + ((x' &&& (3 : Int32)) - (1 : Int32))) &&& (65535 : Int32)).toUInt32.toUInt16.toUInt32.toInt32))) then (1 : Int32) else 0))])) st33 ?_
    refine own_w (T' := T33) (g' := (mkF m 219 #[.val (.int x'), .val (.int sel), .val (.ref b1), .val (.int ((y + ((x' &&& (3 : Int32)) - (1 : Int32))) &&& (65535 : Int32))), .val (.int (((y + ((x' &&& (3 : Int32)) - (1 : Int32))) &&& (65535 : Int32)).toUInt32.toUInt16.toUInt32.toInt32))] [])) (fun _ k_ => XS.icmpNo X33.here hx rfl (hb hby at_216) rfl (teq (own_law (y + ((x' &&& (3 : Int32)) - (1 : Int32))) (((y + ((x' &&& (3 : Int32)) - (1 : Int32))) &&& (65535 : Int32)).toUInt32.toUInt16.toUInt32.toInt32) rfl)).2 k_) ?_
    refine own_w (T' := T33) (g' := (mkF m 220 #[.val (.int x'), .val (.int sel), .val (.ref b1), .val (.int ((y + ((x' &&& (3 : Int32)) - (1 : Int32))) &&& (65535 : Int32))), .val (.int (((y + ((x' &&& (3 : Int32)) - (1 : Int32))) &&& (65535 : Int32)).toUInt32.toUInt16.toUInt32.toInt32))] [(.int (1 : Int32))])) (fun _ k_ => XS.iconst X33.here hx rfl (hb hby at_219) k_) ?_
    refine own_w (T' := T33) (g' := (mkF m 224 #[.val (.int x'), .val (.int sel), .val (.ref b1), .val (.int ((y + ((x' &&& (3 : Int32)) - (1 : Int32))) &&& (65535 : Int32))), .val (.int (((y + ((x' &&& (3 : Int32)) - (1 : Int32))) &&& (65535 : Int32)).toUInt32.toUInt16.toUInt32.toInt32))] [(.int (1 : Int32))])) (fun _ k_ => XS.goto X33.here hx rfl (pc0 := 220) (pc' := 224) rfl (hb hby at_220) (by decide) (by decide) k_) ?_
    obtain ⟨fs, hr, hrun, hended, hW, hsame⟩ := X33.leave (v := some (.int (1 : Int32))) (fun h => by rw [Bd.returns] at h; cases h)
    exact ⟨_, _, retOut X33 hx Bd.returns rfl (Or.inl ⟨rfl, Or.inr (Or.inl rfl), _, rfl⟩) (hb hby at_224) hr, hrun, hended, _, _, rfl, (by show own_Q0 Z x' sel h0 n0 _ T33.heap _; rw [e33]; exact ⟨rfl, N33⟩), ⟨_, rfl⟩, hW, hsame.mono (by decide) (by decide)⟩
set_option maxRecDepth 65536 in
set_option maxHeartbeats 40000000 in
theorem comes_1 {Post : Tables → Env → Array Value → State → Outcome → State → Prop} (hpost : ∀ tb e args s v u, (limb_1_1.after args s (.returned v) u = true ∧ limb_1_2.after args s (.returned v) u = true ∧ True) → FrameEnd s (.returned v) u (Jvm.fieldLocs frame_1_writes args s ++ Jvm.arrayLocs frame_1_arrays args s ++ Jvm.staticLocs frame_1_statics s) 16 128 → Post tb e args s (.returned v) u) :
    ArmFor flags0 classFile x code maxLocals ret World_1 tables_1 room_1 Calls_1 rest_1 Pre_1 Post := by
  intro l hfl _ _ p e ha hc hk s m args below hf hA hF happ hP
  obtain ⟨hcalls, hrest, hpre⟩ := hP
  obtain ⟨-, -, -, hnamed, -, -, -, hat⟩ := (Spec.applies_iff hf).mp happ
  obtain ⟨hg, hn⟩ := and_e (Cond.before_iff.mp (show (Jvm.Cond.and given_1 narrow_1).before args s = true from hpre))
  obtain ⟨hcount, hr0⟩ := and_e hg
  obtain ⟨ga0, hr1⟩ := and_e hr0
  have ga1 := hr1
  obtain ⟨w0, w1, rfl⟩ : ∃ w0 w1 : Value, args = #[w0, w1] := by
    have hs : args.size = 2 := by simpa [Cond.value, given_1] using hcount
    obtain ⟨L⟩ := args
    match L, hs with
    | [w0, w1], _ => exact ⟨w0, w1, rfl⟩
  have hw := fun d (hd : d ∈ tables_1) => atoms_spec (ws := Jvm.Cond.code x code maxLocals ret :: tables_1) hat d (List.mem_cons_of_mem _ hd)
  obtain ⟨i0, ei0⟩ := is_v ga0
  obtain rfl : w0 = (.int i0) := Option.some.inj ei0
  obtain ⟨i1, ei1⟩ := is_v ga1
  obtain rfl : w1 = (.int i1) := Option.some.inj ei1
  obtain ⟨n, o, h1, h2, h3, _, L, rfl, ⟨rfl, N⟩, hq⟩ := own_rm0 l s _ hw tables_1 i0 i1 s.heap s.heap.size (Nat.le_refl _) p e ha hc hk s m _ below hf ((Spec.applies_iff_loose hf).mp happ).1 ⟨rfl, State.Warmed39.refl s, rfl⟩ trivial
  refine ⟨n, _, h1, h2, h3, hpost _ _ _ _ _ _ ⟨Cond.after_iff.mpr rfl, Cond.after_iff.mpr (eq_i res_at (Term.int_eval (1)) rfl), trivial⟩ ⟨hq.1, hq.2.1, (hq.2.2.sift fun y hy => Or.inr (N y hy)).mono (by decide) (by decide)⟩⟩
theorem main_1_1 : Claimed_1_1 := comes_1 fun _ _ _ _ _ _ h hF => ⟨h.1, hF⟩
theorem main_1_2 : Claimed_1_2 := comes_1 fun _ _ _ _ _ _ h hF => ⟨h.2.1, hF⟩
end Jvm.Pilot.@@N@@
namespace Jvm.Pilot.@@N@@
open Jvm Jvm.ClassFile Sem Op Lib Jvm.Free Jvm.Stand Jvm.Pilot.@@N@@.Jvm.D
/-! MADE BY PROGRAM (witnessworld.py) out of the Statement's table words and the real class files: 12 classes; the members and pool entries that the words name. The judged class is class 1, her method 2. -/
namespace start1
open Jvm.ClassFile
def u (s : String) : CpInfo := .utf8 (stringToUtf16 s)
/-- a pool by its gaps: so many unusable entries, then the entry; so many at the end -/
def gap : Nat → List CpInfo → List CpInfo
  | 0, r => r
  | n + 1, r => .unusable :: gap n r
def poolList (es : List (Nat × CpInfo)) (last : Nat) : List CpInfo := es.foldr (fun e r => gap e.1 (e.2 :: r)) (gap last [])
def pool (es : List (Nat × CpInfo)) (last : Nat) : Array CpInfo := ⟨poolList es last⟩
def fileOf (pool : Array CpInfo) (this : Nat) (attrs : Array Attribute := #[]) (ms : Array MethodInfo := #[]) (fl : Nat := 33) (sup : Nat := 0) (ifs : Array Nat := #[]) (fds : Array FieldInfo := #[]) : ClassFile where
  minorVersion := 0
  majorVersion := 65
  constantPool := pool
  accessFlags := fl
  thisClass := this
  superClass := sup
  interfaces := ifs
  fields := fds
  methods := ms
  attributes := attrs
def plain (name : String) (sup : Option ClassId) : Class where
  name := name
  kind := .ordinary
  loader := none
  accessFlags := 33
  super := sup
  interfaces := #[]
  cf := none
  fields := #[]
  methods := #[]
  instanceTypes := #[]
  staticTypes := #[]
  resolved := #[]
  callSites := []
  init := .initialized
  statics := none
  mirror := none

def pool0 : Array CpInfo := pool [(5, u "<init>"), (0, u "()V"), (1, .class_ 10), (1, u "java/lang/Object")] 113

def k0m0 : Method := { name := "<init>", desc := "()V", sig := { parameters := [], returnType := none }, accessFlags := 1, code := none }
/-- java/lang/Object -/
def k0 : Class := { plain "java/lang/Object" none with
  accessFlags := 33
  interfaces := #[]
  cf := some (fileOf pool0 8 #[] #[{ accessFlags := 1, nameIndex := 5, descriptorIndex := 6, attributes := #[] }] 33 0 #[] #[])
  fields := #[]
  methods := #[k0m0]
  instanceTypes := #[]
  staticTypes := #[]
  resolved := Array.replicate 124 none
  statics := none }

def pool1 : Array CpInfo := pool [(2, .class_ 4), (1, u "java/lang/Object"), (0, u "<init>"), (0, u "()V"), (0, .integer 65535), (0, .methodref 9 10), (0, .class_ 11), (0, .nameAndType 12 13), (0, u "com/example/marshal_trust/marshaltrust/ControlCharacters"), (0, u "needsEscape"), (0, u "(C)Z"), (0, .methodref 15 16), (0, .class_ 17), (0, .nameAndType 18 19), (0, u "com/example/marshal_trust/marshaltrust/ControlCharactersNeedsEscapePinLaw"), (0, u "expected"), (0, u "(I)Z"), (3, u "law"), (0, u "(II)Z")] 4

def k1m0 : Method := { name := "<init>", desc := "()V", sig := { parameters := [], returnType := none }, accessFlags := 2, code := none }
def k1c1 : Code := { maxStack := 2, maxLocals := 6, code := method_2_code, exceptionTable := #[], attributes := #[] }
def k1m1 : Method := { name := "expected", desc := "(I)Z", sig := { parameters := [.int], returnType := some .boolean }, accessFlags := 10, code := some k1c1 }
def k1c2 : Code := { maxStack := 4, maxLocals := 5, code := code, exceptionTable := #[], attributes := #[] }
def k1m2 : Method := { name := "law", desc := "(II)Z", sig := { parameters := [.int, .int], returnType := some .boolean }, accessFlags := 9, code := some k1c2 }
/-- com/example/marshal_trust/marshaltrust/ControlCharactersNeedsEscapePinLaw -/
def k1 : Class := { plain "com/example/marshal_trust/marshaltrust/ControlCharactersNeedsEscapePinLaw" (some 0) with
  accessFlags := 49
  interfaces := #[]
  cf := some (fileOf pool1 15 #[] #[{ accessFlags := 2, nameIndex := 5, descriptorIndex := 6, attributes := #[] }, { accessFlags := 10, nameIndex := 18, descriptorIndex := 19, attributes := #[] }, { accessFlags := 9, nameIndex := 23, descriptorIndex := 24, attributes := #[] }] 49 2 #[] #[])
  fields := #[]
  methods := #[k1m0, k1m1, k1m2]
  instanceTypes := #[]
  staticTypes := #[]
  resolved := Array.replicate 29 none
  statics := none }

def pool2 : Array CpInfo := pool [(2, .class_ 4), (1, u "java/lang/Object"), (0, u "<init>"), (0, u "()V"), (16, .class_ 25), (1, u "com/example/marshal_trust/marshaltrust/ControlCharacters"), (0, u "needsEscape"), (0, u "(C)Z"), (12, .methodref 41 42), (0, .class_ 43), (0, .nameAndType 44 27), (0, u "java/lang/Character"), (0, u "isISOControl"), (16, u "HEX_OCTET"), (0, u "Ljava/util/HexFormat;")] 26

def k2m0 : Method := { name := "<init>", desc := "()V", sig := { parameters := [], returnType := none }, accessFlags := 2, code := none }
def k2c1 : Code := { maxStack := 2, maxLocals := 5, code := prog_6_method_3_code, exceptionTable := #[], attributes := #[] }
def k2m1 : Method := { name := "needsEscape", desc := "(C)Z", sig := { parameters := [.char], returnType := some .boolean }, accessFlags := 9, code := some k2c1 }
/-- com/example/marshal_trust/marshaltrust/ControlCharacters -/
def k2 : Class := { plain "com/example/marshal_trust/marshaltrust/ControlCharacters" (some 0) with
  accessFlags := 49
  interfaces := #[]
  cf := some (fileOf pool2 23 #[] #[{ accessFlags := 2, nameIndex := 5, descriptorIndex := 6, attributes := #[] }, { accessFlags := 9, nameIndex := 26, descriptorIndex := 27, attributes := #[] }] 49 2 #[] #[{ accessFlags := 26, nameIndex := 61, descriptorIndex := 62, attributes := #[] }])
  fields := #[{ name := "HEX_OCTET", type := (.object "java/util/HexFormat"), accessFlags := 26, slot := 0, constantValue := 0 }]
  methods := #[k2m0, k2m1]
  instanceTypes := #[]
  staticTypes := #[(.object "java/util/HexFormat")]
  resolved := Array.replicate 89 none
  statics := none }

def pool3 : Array CpInfo := pool [(1, .class_ 2), (0, u "java/io/Serializable"), (0, .class_ 4), (0, u "java/lang/Object")] 2

/-- java/io/Serializable -/
def k3 : Class := { plain "java/io/Serializable" (some 0) with
  accessFlags := 1537
  interfaces := #[]
  cf := some (fileOf pool3 1 #[] #[] 1537 3 #[] #[])
  fields := #[]
  methods := #[]
  instanceTypes := #[]
  staticTypes := #[]
  resolved := Array.replicate 7 none
  statics := none }

def pool4 : Array CpInfo := pool [(1, .class_ 2), (0, u "java/lang/Comparable"), (0, .class_ 4), (0, u "java/lang/Object")] 7

/-- java/lang/Comparable -/
def k4 : Class := { plain "java/lang/Comparable" (some 0) with
  accessFlags := 1537
  interfaces := #[]
  cf := some (fileOf pool4 1 #[] #[] 1537 3 #[] #[])
  fields := #[]
  methods := #[]
  instanceTypes := #[]
  staticTypes := #[]
  resolved := Array.replicate 12 none
  statics := none }

def pool5 : Array CpInfo := pool [(1, .class_ 2), (0, u "java/lang/constant/Constable"), (0, .class_ 4), (0, u "java/lang/Object")] 6

/-- java/lang/constant/Constable -/
def k5 : Class := { plain "java/lang/constant/Constable" (some 0) with
  accessFlags := 1537
  interfaces := #[]
  cf := some (fileOf pool5 1 #[] #[] 1537 3 #[] #[])
  fields := #[]
  methods := #[]
  instanceTypes := #[]
  staticTypes := #[]
  resolved := Array.replicate 11 none
  statics := none }

def pool6 : Array CpInfo := pool [(1, .class_ 2), (0, u "java/lang/Character"), (18, u "value"), (0, u "C"), (19, .class_ 44), (1, u "java/lang/Object"), (3, .class_ 50), (1, u "java/lang/Character$CharacterCache"), (30, u "(C)Z"), (32, u "(I)Z"), (151, .methodref 1 267), (0, .nameAndType 268 114), (0, u "isISOControl"), (15, u "$assertionsDisabled"), (0, u "Z"), (21, .class_ 309), (1, u "java/lang/Character$UnicodeBlock"), (73, u "TYPE"), (0, u "Ljava/lang/Class;"), (0, .class_ 386), (0, u "java/io/Serializable"), (0, .class_ 388), (0, u "java/lang/Comparable"), (0, .class_ 390), (0, u "java/lang/constant/Constable"), (0, u "MIN_RADIX"), (0, u "I"), (2, u "MAX_RADIX"), (1, u "MIN_VALUE"), (1, u "MAX_VALUE"), (3, u "UNASSIGNED"), (0, u "B"), (0, u "UPPERCASE_LETTER"), (1, u "LOWERCASE_LETTER"), (0, u "TITLECASE_LETTER"), (1, u "MODIFIER_LETTER"), (1, u "OTHER_LETTER"), (1, u "NON_SPACING_MARK"), (1, u "ENCLOSING_MARK"), (1, u "COMBINING_SPACING_MARK"), (1, u "DECIMAL_DIGIT_NUMBER"), (1, u "LETTER_NUMBER"), (1, u "OTHER_NUMBER"), (1, u "SPACE_SEPARATOR"), (1, u "LINE_SEPARATOR"), (1, u "PARAGRAPH_SEPARATOR"), (1, u "CONTROL"), (1, u "FORMAT"), (1, u "PRIVATE_USE"), (1, u "SURROGATE"), (1, u "DASH_PUNCTUATION"), (1, u "START_PUNCTUATION"), (1, u "END_PUNCTUATION"), (1, u "CONNECTOR_PUNCTUATION"), (1, u "OTHER_PUNCTUATION"), (1, u "MATH_SYMBOL"), (1, u "CURRENCY_SYMBOL"), (1, u "MODIFIER_SYMBOL"), (1, u "OTHER_SYMBOL"), (1, u "INITIAL_QUOTE_PUNCTUATION"), (1, u "FINAL_QUOTE_PUNCTUATION"), (1, u "ERROR"), (1, u "DIRECTIONALITY_UNDEFINED"), (0, u "DIRECTIONALITY_LEFT_TO_RIGHT"), (0, u "DIRECTIONALITY_RIGHT_TO_LEFT"), (0, u "DIRECTIONALITY_RIGHT_TO_LEFT_ARABIC"), (0, u "DIRECTIONALITY_EUROPEAN_NUMBER"), (0, u "DIRECTIONALITY_EUROPEAN_NUMBER_SEPARATOR"), (0, u "DIRECTIONALITY_EUROPEAN_NUMBER_TERMINATOR"), (0, u "DIRECTIONALITY_ARABIC_NUMBER"), (0, u "DIRECTIONALITY_COMMON_NUMBER_SEPARATOR"), (0, u "DIRECTIONALITY_NONSPACING_MARK"), (0, u "DIRECTIONALITY_BOUNDARY_NEUTRAL"), (0, u "DIRECTIONALITY_PARAGRAPH_SEPARATOR"), (0, u "DIRECTIONALITY_SEGMENT_SEPARATOR"), (0, u "DIRECTIONALITY_WHITESPACE"), (0, u "DIRECTIONALITY_OTHER_NEUTRALS"), (0, u "DIRECTIONALITY_LEFT_TO_RIGHT_EMBEDDING"), (0, u "DIRECTIONALITY_LEFT_TO_RIGHT_OVERRIDE"), (0, u "DIRECTIONALITY_RIGHT_TO_LEFT_EMBEDDING"), (0, u "DIRECTIONALITY_RIGHT_TO_LEFT_OVERRIDE"), (1, u "DIRECTIONALITY_POP_DIRECTIONAL_FORMAT"), (0, u "DIRECTIONALITY_LEFT_TO_RIGHT_ISOLATE"), (0, u "DIRECTIONALITY_RIGHT_TO_LEFT_ISOLATE"), (0, u "DIRECTIONALITY_FIRST_STRONG_ISOLATE"), (0, u "DIRECTIONALITY_POP_DIRECTIONAL_ISOLATE"), (0, u "MIN_HIGH_SURROGATE"), (0, u "MAX_HIGH_SURROGATE"), (1, u "MIN_LOW_SURROGATE"), (0, u "MAX_LOW_SURROGATE"), (1, u "MIN_SURROGATE"), (0, u "MAX_SURROGATE"), (0, u "MIN_SUPPLEMENTARY_CODE_POINT"), (0, u "MIN_CODE_POINT"), (0, u "MAX_CODE_POINT"), (1, u "serialVersionUID"), (0, u "J"), (2, u "SIZE"), (0, u "BYTES"), (88, .class_ 596), (0, u "java/lang/Character$UnicodeScript"), (0, .class_ 598), (0, u "java/lang/Character$Subset")] 5

def k6c0 : Code := { maxStack := 1, maxLocals := 1, code := jdk_89_method_88_code, exceptionTable := #[], attributes := #[] }
def k6m0 : Method := { name := "isISOControl", desc := "(C)Z", sig := { parameters := [.char], returnType := some .boolean }, accessFlags := 9, code := some k6c0 }
def k6c1 : Code := { maxStack := 2, maxLocals := 1, code := jdk_89_method_89_code, exceptionTable := #[], attributes := #[] }
def k6m1 : Method := { name := "isISOControl", desc := "(I)Z", sig := { parameters := [.int], returnType := some .boolean }, accessFlags := 9, code := some k6c1 }
/-- java/lang/Character -/
def k6 : Class := { plain "java/lang/Character" (some 0) with
  accessFlags := 49
  interfaces := #[3, 4, 5]
  cf := some (fileOf pool6 1 #[.nestMembers #[48, 595, 307, 597]] #[{ accessFlags := 9, nameIndex := 268, descriptorIndex := 81, attributes := #[] }, { accessFlags := 9, nameIndex := 268, descriptorIndex := 114, attributes := #[] }] 49 42 #[385, 387, 389] #[{ accessFlags := 25, nameIndex := 391, descriptorIndex := 392, attributes := #[] }, { accessFlags := 25, nameIndex := 395, descriptorIndex := 392, attributes := #[] }, { accessFlags := 25, nameIndex := 397, descriptorIndex := 22, attributes := #[] }, { accessFlags := 25, nameIndex := 399, descriptorIndex := 22, attributes := #[] }, { accessFlags := 25, nameIndex := 383, descriptorIndex := 384, attributes := #[] }, { accessFlags := 25, nameIndex := 403, descriptorIndex := 404, attributes := #[] }, { accessFlags := 25, nameIndex := 405, descriptorIndex := 404, attributes := #[] }, { accessFlags := 25, nameIndex := 407, descriptorIndex := 404, attributes := #[] }, { accessFlags := 25, nameIndex := 408, descriptorIndex := 404, attributes := #[] }, { accessFlags := 25, nameIndex := 410, descriptorIndex := 404, attributes := #[] }, { accessFlags := 25, nameIndex := 412, descriptorIndex := 404, attributes := #[] }, { accessFlags := 25, nameIndex := 414, descriptorIndex := 404, attributes := #[] }, { accessFlags := 25, nameIndex := 416, descriptorIndex := 404, attributes := #[] }, { accessFlags := 25, nameIndex := 418, descriptorIndex := 404, attributes := #[] }, { accessFlags := 25, nameIndex := 420, descriptorIndex := 404, attributes := #[] }, { accessFlags := 25, nameIndex := 422, descriptorIndex := 404, attributes := #[] }, { accessFlags := 25, nameIndex := 424, descriptorIndex := 404, attributes := #[] }, { accessFlags := 25, nameIndex := 426, descriptorIndex := 404, attributes := #[] }, { accessFlags := 25, nameIndex := 428, descriptorIndex := 404, attributes := #[] }, { accessFlags := 25, nameIndex := 430, descriptorIndex := 404, attributes := #[] }, { accessFlags := 25, nameIndex := 432, descriptorIndex := 404, attributes := #[] }, { accessFlags := 25, nameIndex := 434, descriptorIndex := 404, attributes := #[] }, { accessFlags := 25, nameIndex := 436, descriptorIndex := 404, attributes := #[] }, { accessFlags := 25, nameIndex := 438, descriptorIndex := 404, attributes := #[] }, { accessFlags := 25, nameIndex := 440, descriptorIndex := 404, attributes := #[] }, { accessFlags := 25, nameIndex := 442, descriptorIndex := 404, attributes := #[] }, { accessFlags := 25, nameIndex := 444, descriptorIndex := 404, attributes := #[] }, { accessFlags := 25, nameIndex := 446, descriptorIndex := 404, attributes := #[] }, { accessFlags := 25, nameIndex := 448, descriptorIndex := 404, attributes := #[] }, { accessFlags := 25, nameIndex := 450, descriptorIndex := 404, attributes := #[] }, { accessFlags := 25, nameIndex := 452, descriptorIndex := 404, attributes := #[] }, { accessFlags := 25, nameIndex := 454, descriptorIndex := 404, attributes := #[] }, { accessFlags := 25, nameIndex := 456, descriptorIndex := 404, attributes := #[] }, { accessFlags := 25, nameIndex := 458, descriptorIndex := 404, attributes := #[] }, { accessFlags := 25, nameIndex := 460, descriptorIndex := 404, attributes := #[] }, { accessFlags := 24, nameIndex := 462, descriptorIndex := 392, attributes := #[] }, { accessFlags := 25, nameIndex := 464, descriptorIndex := 404, attributes := #[] }, { accessFlags := 25, nameIndex := 465, descriptorIndex := 404, attributes := #[] }, { accessFlags := 25, nameIndex := 466, descriptorIndex := 404, attributes := #[] }, { accessFlags := 25, nameIndex := 467, descriptorIndex := 404, attributes := #[] }, { accessFlags := 25, nameIndex := 468, descriptorIndex := 404, attributes := #[] }, { accessFlags := 25, nameIndex := 469, descriptorIndex := 404, attributes := #[] }, { accessFlags := 25, nameIndex := 470, descriptorIndex := 404, attributes := #[] }, { accessFlags := 25, nameIndex := 471, descriptorIndex := 404, attributes := #[] }, { accessFlags := 25, nameIndex := 472, descriptorIndex := 404, attributes := #[] }, { accessFlags := 25, nameIndex := 473, descriptorIndex := 404, attributes := #[] }, { accessFlags := 25, nameIndex := 474, descriptorIndex := 404, attributes := #[] }, { accessFlags := 25, nameIndex := 475, descriptorIndex := 404, attributes := #[] }, { accessFlags := 25, nameIndex := 476, descriptorIndex := 404, attributes := #[] }, { accessFlags := 25, nameIndex := 477, descriptorIndex := 404, attributes := #[] }, { accessFlags := 25, nameIndex := 478, descriptorIndex := 404, attributes := #[] }, { accessFlags := 25, nameIndex := 479, descriptorIndex := 404, attributes := #[] }, { accessFlags := 25, nameIndex := 480, descriptorIndex := 404, attributes := #[] }, { accessFlags := 25, nameIndex := 481, descriptorIndex := 404, attributes := #[] }, { accessFlags := 25, nameIndex := 482, descriptorIndex := 404, attributes := #[] }, { accessFlags := 25, nameIndex := 484, descriptorIndex := 404, attributes := #[] }, { accessFlags := 25, nameIndex := 485, descriptorIndex := 404, attributes := #[] }, { accessFlags := 25, nameIndex := 486, descriptorIndex := 404, attributes := #[] }, { accessFlags := 25, nameIndex := 487, descriptorIndex := 404, attributes := #[] }, { accessFlags := 25, nameIndex := 488, descriptorIndex := 404, attributes := #[] }, { accessFlags := 25, nameIndex := 489, descriptorIndex := 22, attributes := #[] }, { accessFlags := 25, nameIndex := 490, descriptorIndex := 22, attributes := #[] }, { accessFlags := 25, nameIndex := 492, descriptorIndex := 22, attributes := #[] }, { accessFlags := 25, nameIndex := 493, descriptorIndex := 22, attributes := #[] }, { accessFlags := 25, nameIndex := 495, descriptorIndex := 22, attributes := #[] }, { accessFlags := 25, nameIndex := 496, descriptorIndex := 22, attributes := #[] }, { accessFlags := 25, nameIndex := 497, descriptorIndex := 392, attributes := #[] }, { accessFlags := 25, nameIndex := 498, descriptorIndex := 392, attributes := #[] }, { accessFlags := 25, nameIndex := 499, descriptorIndex := 392, attributes := #[] }, { accessFlags := 18, nameIndex := 21, descriptorIndex := 22, attributes := #[] }, { accessFlags := 26, nameIndex := 501, descriptorIndex := 502, attributes := #[] }, { accessFlags := 25, nameIndex := 505, descriptorIndex := 392, attributes := #[] }, { accessFlags := 25, nameIndex := 506, descriptorIndex := 392, attributes := #[] }, { accessFlags := 4120, nameIndex := 284, descriptorIndex := 285, attributes := #[] }])
  fields := #[{ name := "MIN_RADIX", type := .int, accessFlags := 25, slot := 0, constantValue := 0 }, { name := "MAX_RADIX", type := .int, accessFlags := 25, slot := 1, constantValue := 0 }, { name := "MIN_VALUE", type := .char, accessFlags := 25, slot := 2, constantValue := 0 }, { name := "MAX_VALUE", type := .char, accessFlags := 25, slot := 3, constantValue := 0 }, { name := "TYPE", type := (.object "java/lang/Class"), accessFlags := 25, slot := 4, constantValue := 0 }, { name := "UNASSIGNED", type := .byte, accessFlags := 25, slot := 5, constantValue := 0 }, { name := "UPPERCASE_LETTER", type := .byte, accessFlags := 25, slot := 6, constantValue := 0 }, { name := "LOWERCASE_LETTER", type := .byte, accessFlags := 25, slot := 7, constantValue := 0 }, { name := "TITLECASE_LETTER", type := .byte, accessFlags := 25, slot := 8, constantValue := 0 }, { name := "MODIFIER_LETTER", type := .byte, accessFlags := 25, slot := 9, constantValue := 0 }, { name := "OTHER_LETTER", type := .byte, accessFlags := 25, slot := 10, constantValue := 0 }, { name := "NON_SPACING_MARK", type := .byte, accessFlags := 25, slot := 11, constantValue := 0 }, { name := "ENCLOSING_MARK", type := .byte, accessFlags := 25, slot := 12, constantValue := 0 }, { name := "COMBINING_SPACING_MARK", type := .byte, accessFlags := 25, slot := 13, constantValue := 0 }, { name := "DECIMAL_DIGIT_NUMBER", type := .byte, accessFlags := 25, slot := 14, constantValue := 0 }, { name := "LETTER_NUMBER", type := .byte, accessFlags := 25, slot := 15, constantValue := 0 }, { name := "OTHER_NUMBER", type := .byte, accessFlags := 25, slot := 16, constantValue := 0 }, { name := "SPACE_SEPARATOR", type := .byte, accessFlags := 25, slot := 17, constantValue := 0 }, { name := "LINE_SEPARATOR", type := .byte, accessFlags := 25, slot := 18, constantValue := 0 }, { name := "PARAGRAPH_SEPARATOR", type := .byte, accessFlags := 25, slot := 19, constantValue := 0 }, { name := "CONTROL", type := .byte, accessFlags := 25, slot := 20, constantValue := 0 }, { name := "FORMAT", type := .byte, accessFlags := 25, slot := 21, constantValue := 0 }, { name := "PRIVATE_USE", type := .byte, accessFlags := 25, slot := 22, constantValue := 0 }, { name := "SURROGATE", type := .byte, accessFlags := 25, slot := 23, constantValue := 0 }, { name := "DASH_PUNCTUATION", type := .byte, accessFlags := 25, slot := 24, constantValue := 0 }, { name := "START_PUNCTUATION", type := .byte, accessFlags := 25, slot := 25, constantValue := 0 }, { name := "END_PUNCTUATION", type := .byte, accessFlags := 25, slot := 26, constantValue := 0 }, { name := "CONNECTOR_PUNCTUATION", type := .byte, accessFlags := 25, slot := 27, constantValue := 0 }, { name := "OTHER_PUNCTUATION", type := .byte, accessFlags := 25, slot := 28, constantValue := 0 }, { name := "MATH_SYMBOL", type := .byte, accessFlags := 25, slot := 29, constantValue := 0 }, { name := "CURRENCY_SYMBOL", type := .byte, accessFlags := 25, slot := 30, constantValue := 0 }, { name := "MODIFIER_SYMBOL", type := .byte, accessFlags := 25, slot := 31, constantValue := 0 }, { name := "OTHER_SYMBOL", type := .byte, accessFlags := 25, slot := 32, constantValue := 0 }, { name := "INITIAL_QUOTE_PUNCTUATION", type := .byte, accessFlags := 25, slot := 33, constantValue := 0 }, { name := "FINAL_QUOTE_PUNCTUATION", type := .byte, accessFlags := 25, slot := 34, constantValue := 0 }, { name := "ERROR", type := .int, accessFlags := 24, slot := 35, constantValue := 0 }, { name := "DIRECTIONALITY_UNDEFINED", type := .byte, accessFlags := 25, slot := 36, constantValue := 0 }, { name := "DIRECTIONALITY_LEFT_TO_RIGHT", type := .byte, accessFlags := 25, slot := 37, constantValue := 0 }, { name := "DIRECTIONALITY_RIGHT_TO_LEFT", type := .byte, accessFlags := 25, slot := 38, constantValue := 0 }, { name := "DIRECTIONALITY_RIGHT_TO_LEFT_ARABIC", type := .byte, accessFlags := 25, slot := 39, constantValue := 0 }, { name := "DIRECTIONALITY_EUROPEAN_NUMBER", type := .byte, accessFlags := 25, slot := 40, constantValue := 0 }, { name := "DIRECTIONALITY_EUROPEAN_NUMBER_SEPARATOR", type := .byte, accessFlags := 25, slot := 41, constantValue := 0 }, { name := "DIRECTIONALITY_EUROPEAN_NUMBER_TERMINATOR", type := .byte, accessFlags := 25, slot := 42, constantValue := 0 }, { name := "DIRECTIONALITY_ARABIC_NUMBER", type := .byte, accessFlags := 25, slot := 43, constantValue := 0 }, { name := "DIRECTIONALITY_COMMON_NUMBER_SEPARATOR", type := .byte, accessFlags := 25, slot := 44, constantValue := 0 }, { name := "DIRECTIONALITY_NONSPACING_MARK", type := .byte, accessFlags := 25, slot := 45, constantValue := 0 }, { name := "DIRECTIONALITY_BOUNDARY_NEUTRAL", type := .byte, accessFlags := 25, slot := 46, constantValue := 0 }, { name := "DIRECTIONALITY_PARAGRAPH_SEPARATOR", type := .byte, accessFlags := 25, slot := 47, constantValue := 0 }, { name := "DIRECTIONALITY_SEGMENT_SEPARATOR", type := .byte, accessFlags := 25, slot := 48, constantValue := 0 }, { name := "DIRECTIONALITY_WHITESPACE", type := .byte, accessFlags := 25, slot := 49, constantValue := 0 }, { name := "DIRECTIONALITY_OTHER_NEUTRALS", type := .byte, accessFlags := 25, slot := 50, constantValue := 0 }, { name := "DIRECTIONALITY_LEFT_TO_RIGHT_EMBEDDING", type := .byte, accessFlags := 25, slot := 51, constantValue := 0 }, { name := "DIRECTIONALITY_LEFT_TO_RIGHT_OVERRIDE", type := .byte, accessFlags := 25, slot := 52, constantValue := 0 }, { name := "DIRECTIONALITY_RIGHT_TO_LEFT_EMBEDDING", type := .byte, accessFlags := 25, slot := 53, constantValue := 0 }, { name := "DIRECTIONALITY_RIGHT_TO_LEFT_OVERRIDE", type := .byte, accessFlags := 25, slot := 54, constantValue := 0 }, { name := "DIRECTIONALITY_POP_DIRECTIONAL_FORMAT", type := .byte, accessFlags := 25, slot := 55, constantValue := 0 }, { name := "DIRECTIONALITY_LEFT_TO_RIGHT_ISOLATE", type := .byte, accessFlags := 25, slot := 56, constantValue := 0 }, { name := "DIRECTIONALITY_RIGHT_TO_LEFT_ISOLATE", type := .byte, accessFlags := 25, slot := 57, constantValue := 0 }, { name := "DIRECTIONALITY_FIRST_STRONG_ISOLATE", type := .byte, accessFlags := 25, slot := 58, constantValue := 0 }, { name := "DIRECTIONALITY_POP_DIRECTIONAL_ISOLATE", type := .byte, accessFlags := 25, slot := 59, constantValue := 0 }, { name := "MIN_HIGH_SURROGATE", type := .char, accessFlags := 25, slot := 60, constantValue := 0 }, { name := "MAX_HIGH_SURROGATE", type := .char, accessFlags := 25, slot := 61, constantValue := 0 }, { name := "MIN_LOW_SURROGATE", type := .char, accessFlags := 25, slot := 62, constantValue := 0 }, { name := "MAX_LOW_SURROGATE", type := .char, accessFlags := 25, slot := 63, constantValue := 0 }, { name := "MIN_SURROGATE", type := .char, accessFlags := 25, slot := 64, constantValue := 0 }, { name := "MAX_SURROGATE", type := .char, accessFlags := 25, slot := 65, constantValue := 0 }, { name := "MIN_SUPPLEMENTARY_CODE_POINT", type := .int, accessFlags := 25, slot := 66, constantValue := 0 }, { name := "MIN_CODE_POINT", type := .int, accessFlags := 25, slot := 67, constantValue := 0 }, { name := "MAX_CODE_POINT", type := .int, accessFlags := 25, slot := 68, constantValue := 0 }, { name := "value", type := .char, accessFlags := 18, slot := 0, constantValue := 0 }, { name := "serialVersionUID", type := .long, accessFlags := 26, slot := 69, constantValue := 0 }, { name := "SIZE", type := .int, accessFlags := 25, slot := 70, constantValue := 0 }, { name := "BYTES", type := .int, accessFlags := 25, slot := 71, constantValue := 0 }, { name := "$assertionsDisabled", type := .boolean, accessFlags := 4120, slot := 72, constantValue := 0 }]
  methods := #[k6m0, k6m1]
  instanceTypes := #[.char]
  staticTypes := #[.int, .int, .char, .char, (.object "java/lang/Class"), .byte, .byte, .byte, .byte, .byte, .byte, .byte, .byte, .byte, .byte, .byte, .byte, .byte, .byte, .byte, .byte, .byte, .byte, .byte, .byte, .byte, .byte, .byte, .byte, .byte, .byte, .byte, .byte, .byte, .byte, .int, .byte, .byte, .byte, .byte, .byte, .byte, .byte, .byte, .byte, .byte, .byte, .byte, .byte, .byte, .byte, .byte, .byte, .byte, .byte, .byte, .byte, .byte, .byte, .byte, .char, .char, .char, .char, .char, .char, .int, .int, .int, .long, .int, .int, .boolean]
  resolved := Array.replicate 604 none
  statics := none }

def pool7 : Array CpInfo := pool [(1, u "java/lang/Cloneable"), (0, .class_ 1), (0, u "java/lang/Object"), (0, .class_ 3)] 3

/-- java/lang/Cloneable -/
def k7 : Class := { plain "java/lang/Cloneable" (some 0) with
  accessFlags := 1537
  interfaces := #[]
  cf := some (fileOf pool7 2 #[] #[] 1537 4 #[] #[])
  fields := #[]
  methods := #[]
  instanceTypes := #[]
  staticTypes := #[]
  resolved := Array.replicate 8 none
  statics := none }

/-- the primitive byte -/
def k8 : Class := { plain "byte" none with kind := .primitive 'B', accessFlags := 0x411 }
/-- [B -/
def k9 : Class := { plain "[B" (some 0) with kind := .array 8 .byte, interfaces := #[7, 3], accessFlags := 1041 }

/-- the primitive int -/
def k10 : Class := { plain "int" none with kind := .primitive 'I', accessFlags := 0x411 }
/-- [I -/
def k11 : Class := { plain "[I" (some 0) with kind := .array 10 .int, interfaces := #[7, 3], accessFlags := 1041 }

def heap : Heap := #[]
def classes : Array Class := #[k0, k1, k2, k3, k4, k5, k6, k7, k8, k9, k10, k11]
def interned : List (Array UInt16 × Addr) := []
def slotsUsed : Nat := 0
def theMethod : MethodId := ⟨1, 2⟩
def args0 : Array Value := #[.int 5, .int 7]
def aboutOver (below : List Frame) : State where
  vm := { classes := classes, interned := interned.toArray }
  heap := heap
  slotsUsed := slotsUsed
  threads := #[{ frames := .invoking theMethod args0 :: below }]
def below0 : List Frame := [.native { method := ⟨0, 0⟩, args := #[] }]
def about1 : State := aboutOver below0
def p0 : Program := .bare "" "" ""
def e0 : Env := launch0.env 0 0 0
theorem w_frames : about1.frames = Frame.invoking theMethod args0 :: below0 := rfl
set_option maxRecDepth 65536 in
theorem w_args : argsFit about1.vm theMethod args0 = true := by decide +kernel
set_option maxRecDepth 65536 in
theorem w_heap : heapFits about1 = true := by decide +kernel
set_option maxRecDepth 65536 in
theorem w_runnable : about1.curStatus? = some .runnable := by decide +kernel
set_option maxRecDepth 65536 in
theorem w_alone : about1.alone = true := by decide +kernel
set_option maxRecDepth 65536 in
theorem w_named : about1.methodNamed? x = some theMethod := by decide +kernel
set_option maxRecDepth 65536 in
theorem w_hears : about1.hears theMethod below0 = true := by decide +kernel
set_option maxRecDepth 65536 in
theorem w_ripe : about1.ripe theMethod args0 below0 = true := by decide +kernel
theorem w_running : about1.status = .running := rfl
set_option maxRecDepth 65536 in
theorem w_room : about1.hasRoom e0.platform room_1 = true :=
  launch0.hasRoom_least _ room_1 (by decide +kernel) (by decide +kernel) (by decide +kernel) (by decide +kernel) (by decide +kernel) (by decide +kernel)
theorem allAtoms_all (ts : List Jvm.Cond) (a : Array Jvm.Value) (st : Jvm.State) : (allAtoms ts).before a st = ts.all (fun c => c.before a st) := by
  induction ts with
  | nil => rfl
  | cons c t ih =>
    show (Jvm.Cond.and c (allAtoms t)).before a st = _
    rw [Jvm.Cond.before_and, ih, List.all_cons]
def words1 : List Jvm.Cond := Jvm.Cond.code x code maxLocals ret :: tables_1
/-- a 'code' word, met by the world's own term for the bytes: nothing is compared byte by byte -/
theorem code_word {y : MethodName} {bytes : ByteArray} {mx : Nat} {rt : Option FieldType} {a : Array Value} {s : State} {m : MethodId} {meth : Method} {c : Code} (h1 : s.methodNamed? y = some m) (h2 : s.vm.method? m = some meth) (h3 : meth.code = some c) (h4 : c.code = bytes)
    (h5 : (c.maxLocals == mx && c.exceptionTable.isEmpty && decide (c.maxStack ≤ mostOperands) && decide (meth.sig.returnType = rt) && !meth.locks && decide (parseMethodDescriptor y.desc = some meth.sig)) = true) : (Jvm.Cond.code y bytes mx rt).before a s = true := by
  simp only [Bool.and_eq_true, beq_iff_eq, Bool.not_eq_true', decide_eq_true_eq] at h5
  obtain ⟨⟨⟨⟨⟨g1, g2⟩, g3⟩, g4⟩, g5⟩, g6⟩ := h5
  simp [Cond.before, Cond.holds, Cond.value, h1, h2, h3, h4, g1, g2, g3, g4, g5, g6]
def isCode : Jvm.Cond → Bool
  | .code _ _ _ _ => true
  | _ => false
theorem all_split {L : List Jvm.Cond} {P : Jvm.Cond → Bool} (h1 : L.all (fun c => isCode c || P c) = true) (h2 : ∀ c ∈ L.filter isCode, P c = true) : L.all P = true := by
  refine List.all_eq_true.mpr fun c hc => ?_
  have h := List.all_eq_true.mp h1 c hc
  rcases Bool.eq_false_or_eq_true (isCode c) with hi | hi
  · exact h2 c (List.mem_filter.mpr ⟨hc, hi⟩)
  · simpa [hi] using h
set_option maxRecDepth 65536 in
theorem w_c0 : (Jvm.Cond.code x code maxLocals ret).before args0 about1 = true := code_word (m := ⟨1, 2⟩) (meth := k1m2) (c := k1c2) (by decide +kernel) rfl rfl rfl (by decide +kernel)
set_option maxRecDepth 65536 in
theorem w_c1 : (Jvm.Cond.code ({ cls := "com/example/marshal_trust/marshaltrust/ControlCharacters", name := "needsEscape", desc := "(C)Z" } : Jvm.MethodName) prog_6_method_3_code (5 : Nat) (Option.some Jvm.ClassFile.FieldType.boolean)).before args0 about1 = true := code_word (m := ⟨2, 1⟩) (meth := k2m1) (c := k2c1) (by decide +kernel) rfl rfl rfl (by decide +kernel)
set_option maxRecDepth 65536 in
theorem w_c2 : (Jvm.Cond.code ({ cls := "java/lang/Character", name := "isISOControl", desc := "(C)Z" } : Jvm.MethodName) jdk_89_method_88_code (1 : Nat) (Option.some Jvm.ClassFile.FieldType.boolean)).before args0 about1 = true := code_word (m := ⟨6, 0⟩) (meth := k6m0) (c := k6c0) (by decide +kernel) rfl rfl rfl (by decide +kernel)
set_option maxRecDepth 65536 in
theorem w_c3 : (Jvm.Cond.code ({ cls := "java/lang/Character", name := "isISOControl", desc := "(I)Z" } : Jvm.MethodName) jdk_89_method_89_code (1 : Nat) (Option.some Jvm.ClassFile.FieldType.boolean)).before args0 about1 = true := code_word (m := ⟨6, 1⟩) (meth := k6m1) (c := k6c1) (by decide +kernel) rfl rfl rfl (by decide +kernel)
set_option maxRecDepth 65536 in
theorem w_c4 : (Jvm.Cond.code ({ cls := "com/example/marshal_trust/marshaltrust/ControlCharactersNeedsEscapePinLaw", name := "expected", desc := "(I)Z" } : Jvm.MethodName) method_2_code (6 : Nat) (Option.some Jvm.ClassFile.FieldType.boolean)).before args0 about1 = true := code_word (m := ⟨1, 1⟩) (meth := k1m1) (c := k1c1) (by decide +kernel) rfl rfl rfl (by decide +kernel)
def codes1 : List Jvm.Cond := [Jvm.Cond.code x code maxLocals ret, Jvm.Cond.code ({ cls := "com/example/marshal_trust/marshaltrust/ControlCharacters", name := "needsEscape", desc := "(C)Z" } : Jvm.MethodName) prog_6_method_3_code (5 : Nat) (Option.some Jvm.ClassFile.FieldType.boolean), Jvm.Cond.code ({ cls := "java/lang/Character", name := "isISOControl", desc := "(C)Z" } : Jvm.MethodName) jdk_89_method_88_code (1 : Nat) (Option.some Jvm.ClassFile.FieldType.boolean), Jvm.Cond.code ({ cls := "java/lang/Character", name := "isISOControl", desc := "(I)Z" } : Jvm.MethodName) jdk_89_method_89_code (1 : Nat) (Option.some Jvm.ClassFile.FieldType.boolean), Jvm.Cond.code ({ cls := "com/example/marshal_trust/marshaltrust/ControlCharactersNeedsEscapePinLaw", name := "expected", desc := "(I)Z" } : Jvm.MethodName) method_2_code (6 : Nat) (Option.some Jvm.ClassFile.FieldType.boolean)]
set_option maxRecDepth 65536 in
theorem codes_eq : words1.filter isCode = codes1 := rfl
theorem w_codes : ∀ c ∈ words1.filter isCode, c.before args0 about1 = true := by
  rw [codes_eq]
  intro c hc
  simp only [codes1, List.mem_cons, List.not_mem_nil, or_false] at hc
  rcases hc with rfl | rfl | rfl | rfl | rfl
  · exact w_c0
  · exact w_c1
  · exact w_c2
  · exact w_c3
  · exact w_c4
set_option maxRecDepth 65536 in
theorem w_t1 : words1.all (fun c => isCode c || c.before args0 about1) = true := by decide +kernel
theorem w_tables : (allAtoms (Jvm.Cond.code x code maxLocals ret :: tables_1)).before args0 about1 = true := by
  rw [allAtoms_all]
  show words1.all (fun c => c.before args0 about1) = true
  refine all_split ?_ w_codes
  rw [w_t1]
set_option maxRecDepth 65536 in
theorem w_case : (Jvm.Cond.and given_1 narrow_1).before args0 about1 = true := by decide +kernel
theorem w_applies : (headSpec (Jvm.Cond.code x code maxLocals ret :: tables_1) room_1).applies x e0.platform about1 = true :=
  (Spec.applies_iff w_frames).mpr ⟨w_running, w_runnable, w_alone, w_named, w_hears, w_ripe, w_room, w_tables⟩
theorem atStart : AtStart classFile x code maxLocals ret World_1 tables_1 room_1 Calls_1 rest_1 Pre_1 launch0 p0 e0 about1 theMethod args0 below0 :=
  ⟨lists_1, trivial, launch0.admits_env _ _ _, launch0.least_env, fairChoices_fair.cas, fairChoices_fair.clock, w_frames, w_args, w_heap, w_applies, trivial, trivial, w_case⟩
end start1
theorem witness_1 : WitnessClaimed_1 := ⟨start1.p0, start1.e0, start1.about1, start1.theMethod, start1.args0, start1.below0, start1.atStart⟩
end Jvm.Pilot.@@N@@
