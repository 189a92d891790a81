import JvmDerived
import JvmDerived.Pilot.@@N@@Statement
import JvmDerived.Pilot.@@N@@Code
set_option linter.unusedVariables false
set_option linter.unusedSimpArgs false
namespace Jvm.Pilot.@@N@@
open Jvm Jvm.ClassFile Sem Op Lib Jvm.Free Jvm.Stand Jvm.LawKit Jvm.RoadKit Bundle Jvm.Pilot.@@N@@.Jvm.D
/-- what is left to show at a frame of the walk: the run from there ends as the contract says -/
def own_G (p : Program) (e : Env) (below : List Frame) (s : State) (Q : Option Value → Heap → List Loc → Prop) (ce sl : Nat) (T : State) (g : JFrame) : Prop :=
  ∃ s₂ o, Steps p.tables e below (T.setTop g) s₂ ∧ s₂.status = .running ∧ Ended s₂ below o ∧ ∃ v L, o = .returned v ∧ Q v s₂.heap L ∧ FrameEnd s o s₂ L ce sl
theorem own_w {p : Program} {e : Env} {below : List Frame} {s : State} {Q : Option Value → Heap → List Loc → Prop} {ce sl : Nat} {T T' : State} {g g' : JFrame}
    (st : ∀ target, Steps p.tables e below (T'.setTop g') target → Steps p.tables e below (T.setTop g) target) (k : own_G p e below s Q ce sl T' g') : own_G p e below s Q ce sl T g := by
  obtain ⟨u, o, a, r⟩ := k
  exact ⟨u, o, st u a, r⟩
theorem own_t {p : Program} {e : Env} {below : List Frame} {s : State} {Q : Option Value → Heap → List Loc → Prop} {ce sl : Nat} {T T' : State} {g g' : JFrame}
    (st : Steps p.tables e below (T.setTop g) (T'.setTop g')) (k : own_G p e below s Q ce sl T' g') : own_G p e below s Q ce sl T g := own_w (fun _ k => st.trans k) k
theorem own_sta {Z : State} {h h' : Heap} {C n d : String} {v : Value} {a : Addr} (F : Sta Z h C n d v) (K : Keep h h' [a]) (na : ∀ cell : Cell, h[a]? = some cell → cell.vm.isStatics = false) : Sta Z h' C n d v := by
  obtain ⟨cf, i, k, f, st, cell, h1, h2, h3, h4, h5, h6, h7⟩ := F
  refine ⟨cf, i, k, f, st, cell, h1, h2, h3, h4, K.2.1 st cell h5 (fun q => ?_), h6, h7⟩
  have e : st = a := List.mem_singleton.mp q
  subst e
  rw [na _ h5] at h6; cases h6
theorem own_nb {P : Prop} [Decidable P] : narrow .boolean (.int (if P then (1 : Int32) else 0)) = .int (if P then (1 : Int32) else 0) := by split <;> rfl
theorem own_ite0 {P : Prop} [Decidable P] : ((if P then (1 : Int32) else 0) = 0) = ¬ P := by by_cases h : P <;> simp [h]
def own_Ar (Z : State) (h : Heap) (a : Addr) (ty : FieldType) (xs : List Int32) : Prop := ∃ c : Cell, Arr Z h a c ty ∧ c.slots = (xs.map Value.int).toArray
section Arrays
variable {Z : State} {h h' : Heap} {a b : Addr} {ty : FieldType} {xs : List Int32} {c : Cell} {i : Nat} {j x y v : Int32} {sl : Nat} {u : Value} {ws : List Addr}
theorem own_Ar_lt (V : own_Ar Z h a ty xs) : a < h.size := by obtain ⟨c, A, -⟩ := V; exact A.lt
theorem own_Ar_ext (V : own_Ar Z h a ty xs) (E : Ext h h') : own_Ar Z h' a ty xs := by obtain ⟨c, A, r⟩ := V; exact ⟨c, A.ext E, r⟩
theorem own_Ar_other (V : own_Ar Z h b ty xs) (W : Wr h h' a sl u) (q : b ≠ a) : own_Ar Z h' b ty xs := by obtain ⟨c, A, r⟩ := V; exact ⟨c, A.other W q, r⟩
theorem own_Ar_keep (V : own_Ar Z h a ty xs) (K : Keep h h' ws) (q : a ∉ ws) : own_Ar Z h' a ty xs := by obtain ⟨c, A, r⟩ := V; exact ⟨c, ⟨K.2.1 a c A.1 q, A.2⟩, r⟩
theorem own_Ar_new {cA : ClassId} {n : Int32} {k : Nat} (A : Arr Z h a (newA cA ty n) ty) (hd : defaultValue ty = .int 0) (hn : n.toNatClampNeg = k) : own_Ar Z h a ty (List.replicate k 0) := by
  refine ⟨_, A, ?_⟩
  show Array.replicate n.toNatClampNeg (defaultValue ty) = _
  rw [hd, hn]; simp
theorem own_ix (hj : j.toInt = (i : Int)) : j.toNatClampNeg = i := by show j.toInt.toNat = i; rw [hj]; rfl
theorem own_Ar_set (V : own_Ar Z h a ty xs) (W : Wr h h' a j.toNatClampNeg (.int y)) (hj : j.toInt = (i : Int)) (hv : y = v) : own_Ar Z h' a ty (xs.set i v) := by
  obtain ⟨c, A, hs⟩ := V
  subst hv
  refine ⟨_, A.same W, ?_⟩
  show c.slots.setIfInBounds _ _ = _
  rw [hs, own_ix hj]; simp [List.map_set]
theorem own_Ar_in (hs : c.slots = (xs.map Value.int).toArray) (hj : j.toInt = (i : Int)) (hi : i < xs.length) : ¬ (j < 0 ∨ c.slots.size ≤ j.toNatClampNeg) := by
  rw [hs, own_ix hj, Int32.lt_iff_toInt_lt, hj, show (0 : Int32).toInt = 0 from rfl]
  simp; omega
theorem own_Ar_at (hs : c.slots = (xs.map Value.int).toArray) (hj : j.toInt = (i : Int)) (hx : xs[i]? = some x) : c.slots[j.toNatClampNeg]? = some (.int x) := by
  rw [hs, own_ix hj]; simp [hx]
theorem own_fitc (A : Arr Z h a c ty) (hs : c.slots = (xs.map Value.int).toArray) (hf : ∀ x ∈ xs, fits ty (.int x) = true) : FitC Z c := fitC_of A fun i hi v hv => by
  rw [hs] at hv
  simp only [List.getElem?_toArray, List.getElem?_map, Option.map_eq_some_iff] at hv
  obtain ⟨x, hx, rfl⟩ := hv
  exact hf x (List.mem_of_getElem? hx)
theorem own_get_lt (hx : xs[i]? = some x) : i < xs.length := (List.getElem?_eq_some_iff.mp hx).1
end Arrays
theorem own_rem {x y : Int32} (d : Nat) (hy : y.toInt = d) (hd : 0 < d) (hx : 0 ≤ x.toInt) : (x - (x / y) * y).toInt = x.toInt % d := by
  have q := (c_idiv x y d hy (by intro h; rw [h] at hy; have : (-1 : Int32).toInt = -1 := by decide
                                 omega)).1 hx
  have m := c_imul (x / y) y
  have s := c_isub x (x / y * y)
  rw [q, hy] at m
  have e := Int.mul_ediv_add_emod x.toInt d
  have r0 := Int.emod_nonneg x.toInt (show (d : Int) ≠ 0 by omega)
  have r1 := Int.emod_lt_of_pos x.toInt (show (0 : Int) < d by omega)
  have p0 : 0 ≤ x.toInt / d := Int.ediv_nonneg hx (by omega)
  have p1 : 0 ≤ (d : Int) * (x.toInt / d) := Int.mul_nonneg (by omega) p0
  rw [Int.mul_comm (x.toInt / d) d] at m
  have l1 := x.toInt_lt; have l2 := (x / y * y).toInt_lt; have l3 := (x / y * y).le_toInt; have l4 := (x - x / y * y).toInt_lt; have l5 := (x - x / y * y).le_toInt
  have hy2 := y.toInt_lt
  generalize (d : Int) * (x.toInt / d) = P at *
  generalize x.toInt % (d : Int) = r at *
  omega
theorem own_ifc {A B : Prop} [Decidable A] [Decidable B] (h : A ↔ B) : (if A then (1 : Int32) else 0) = if B then 1 else 0 := by
  by_cases a : A
  · rw [if_pos a, if_pos (h.mp a)]
  · rw [if_neg a, if_neg fun b => a (h.mpr b)]
def own_Str (Z : State) (h : Heap) (a : Addr) (xs : List Int32) : Prop := Exa Z h a "java/lang/String" ∧ Fld Z h a "java/lang/String" "coder" "B" (.int (0 : Int32)) ∧ ∃ b, Fld Z h a "java/lang/String" "value" "[B" (.ref b) ∧ own_Ar Z h b .byte xs
section Strs
variable {Z : State} {h h' : Heap} {a b : Addr} {xs : List Int32} {EL : List (String × Nat)} {vm : Vm}
theorem own_Str_ext (F : own_Str Z h a xs) (E : Ext h h') : own_Str Z h' a xs := by
  obtain ⟨e, c, b, v, A⟩ := F
  exact ⟨e.ext E, c.ext E, b, v.ext E, own_Ar_ext A E⟩
theorem own_Str_keep (F : own_Str Z h a xs) (K : Keep h h' []) : own_Str Z h' a xs := by
  obtain ⟨e, c, b, v, A⟩ := F
  exact ⟨e.keep K, c.keep K (by simp), b, v.keep K (by simp), own_Ar_keep A K (by simp)⟩
theorem own_sta0 {C n d : String} {v : Value} (F : Sta Z h C n d v) (K : Keep h h' []) : Sta Z h' C n d v := by
  obtain ⟨cf, i, k, f, st, cell, h1, h2, h3, h4, h5, h6, h7⟩ := F
  exact ⟨cf, i, k, f, st, cell, h1, h2, h3, h4, K.2.1 st cell h5 (by simp), h6, h7⟩
end Strs
/-- what is left to show at a frame of a walk that may intern -/
def own_GW (Z : State) (EL : List (String × Nat)) (p : Program) (e : Env) (below : List Frame) (s : State) (Q : Option Value → Heap → List Loc → Prop) (ce sl : Nat) (T : State) (g : JFrame) : Prop :=
  ∃ s₂ o, Steps p.tables e below (T.setTop g) s₂ ∧ s₂.status = .running ∧ Ended s₂ below o ∧ ∃ v L, o = .returned v ∧ Q v s₂.heap L ∧ CHr Z EL s.vm s.heap s₂.vm s₂.heap ∧ ReturnedEndW s o s₂ L ce sl
section Wide
variable {Z : State} {EL : List (String × Nat)} {p : Program} {e : Env} {below : List Frame} {s : State} {Q : Option Value → Heap → List Loc → Prop} {ce sl : Nat} {T T' : State} {g g' : JFrame}
theorem own_ww (st : ∀ target, Steps p.tables e below (T'.setTop g') target → Steps p.tables e below (T.setTop g) target) (k : own_GW Z EL p e below s Q ce sl T' g') : own_GW Z EL p e below s Q ce sl T g := by
  obtain ⟨u, o, a, r⟩ := k
  exact ⟨u, o, st u a, r⟩
theorem own_wt (st : Steps p.tables e below (T.setTop g) (T'.setTop g')) (k : own_GW Z EL p e below s Q ce sl T' g') : own_GW Z EL p e below s Q ce sl T g := own_ww (fun _ k => st.trans k) k
theorem own_since {vm : Vm} {n n' : Nat} (h : s.Since vm n) (q : n ≤ n') : s.Since vm n' := ⟨h.1, h.2.mono q⟩
theorem own_rmono {o : Outcome} {t : State} {L : List Loc} {k n k' n' : Nat} (h : ReturnedEndW s o t L k n) (hk : k ≤ k') (hn : n ≤ n') : ReturnedEndW s o t L k' n' := ⟨h.1, h.2.1, h.2.2.1, h.2.2.2.mono hk hn⟩
end Wide
def own_EL : List (String × Nat) := [("java/lang/String", 7)]
theorem own_EW {Z : State} {a0 : Array Value} (hw : ∀ d ∈ tables_1, d.before a0 Z = true) : EW Z a0 own_EL := (EW.cons (hw _ (List.mem_of_getElem? (i := 18) rfl)) (text := "") (by decide) EW.nil)
theorem own_wS {Z : State} {a0 : Array Value} (hw : ∀ d ∈ tables_1, d.before a0 Z = true) : ∀ a ∈ Bundle.stringAtoms, a.before a0 Z = true := by
  intro d hd
  simp only [Bundle.stringAtoms, List.mem_cons, List.not_mem_nil, or_false] at hd
  rcases hd with rfl | rfl | rfl | rfl | rfl | rfl | rfl
  · first | exact (hw _ (List.mem_of_getElem? (i := 7) rfl)) | exact (hw _ (List.mem_of_getElem? (i := 6) rfl)) | exact (hw _ (List.mem_of_getElem? (i := 19) rfl)) | exact (hw _ (List.mem_of_getElem? (i := 20) rfl)) | exact (hw _ (List.mem_of_getElem? (i := 21) rfl)) | exact (hw _ (List.mem_of_getElem? (i := 22) rfl)) | exact (hw _ (List.mem_of_getElem? (i := 23) rfl))
  · first | exact (hw _ (List.mem_of_getElem? (i := 7) rfl)) | exact (hw _ (List.mem_of_getElem? (i := 6) rfl)) | exact (hw _ (List.mem_of_getElem? (i := 19) rfl)) | exact (hw _ (List.mem_of_getElem? (i := 20) rfl)) | exact (hw _ (List.mem_of_getElem? (i := 21) rfl)) | exact (hw _ (List.mem_of_getElem? (i := 22) rfl)) | exact (hw _ (List.mem_of_getElem? (i := 23) rfl))
  · first | exact (hw _ (List.mem_of_getElem? (i := 7) rfl)) | exact (hw _ (List.mem_of_getElem? (i := 6) rfl)) | exact (hw _ (List.mem_of_getElem? (i := 19) rfl)) | exact (hw _ (List.mem_of_getElem? (i := 20) rfl)) | exact (hw _ (List.mem_of_getElem? (i := 21) rfl)) | exact (hw _ (List.mem_of_getElem? (i := 22) rfl)) | exact (hw _ (List.mem_of_getElem? (i := 23) rfl))
  · first | exact (hw _ (List.mem_of_getElem? (i := 7) rfl)) | exact (hw _ (List.mem_of_getElem? (i := 6) rfl)) | exact (hw _ (List.mem_of_getElem? (i := 19) rfl)) | exact (hw _ (List.mem_of_getElem? (i := 20) rfl)) | exact (hw _ (List.mem_of_getElem? (i := 21) rfl)) | exact (hw _ (List.mem_of_getElem? (i := 22) rfl)) | exact (hw _ (List.mem_of_getElem? (i := 23) rfl))
  · first | exact (hw _ (List.mem_of_getElem? (i := 7) rfl)) | exact (hw _ (List.mem_of_getElem? (i := 6) rfl)) | exact (hw _ (List.mem_of_getElem? (i := 19) rfl)) | exact (hw _ (List.mem_of_getElem? (i := 20) rfl)) | exact (hw _ (List.mem_of_getElem? (i := 21) rfl)) | exact (hw _ (List.mem_of_getElem? (i := 22) rfl)) | exact (hw _ (List.mem_of_getElem? (i := 23) rfl))
  · first | exact (hw _ (List.mem_of_getElem? (i := 7) rfl)) | exact (hw _ (List.mem_of_getElem? (i := 6) rfl)) | exact (hw _ (List.mem_of_getElem? (i := 19) rfl)) | exact (hw _ (List.mem_of_getElem? (i := 20) rfl)) | exact (hw _ (List.mem_of_getElem? (i := 21) rfl)) | exact (hw _ (List.mem_of_getElem? (i := 22) rfl)) | exact (hw _ (List.mem_of_getElem? (i := 23) rfl))
  · first | exact (hw _ (List.mem_of_getElem? (i := 7) rfl)) | exact (hw _ (List.mem_of_getElem? (i := 6) rfl)) | exact (hw _ (List.mem_of_getElem? (i := 19) rfl)) | exact (hw _ (List.mem_of_getElem? (i := 20) rfl)) | exact (hw _ (List.mem_of_getElem? (i := 21) rfl)) | exact (hw _ (List.mem_of_getElem? (i := 22) rfl)) | exact (hw _ (List.mem_of_getElem? (i := 23) rfl))
theorem own_safe_null {Z : State} {h : Heap} {x : Addr} {EL : List (String × Nat)} {vm : Vm} (hal : Z.vm.Alike vm) (E : Exa Z h x "java/lang/String") (F : Fld Z h x "java/lang/String" "value" "[B" .null) : Safe Z EL vm h x := fun B => by
  obtain ⟨cell, k, e1, e2, e3, -, -⟩ := E
  obtain ⟨cell', cf, kf, i, f, g1, g2, g3, g4, g5, g6, g7⟩ := F
  cases e1.symm.trans g1
  obtain ⟨p, -, u, a, -, q, -, F, rfl | rfl⟩ := B
  · cases (show h[q.sa]? = some q.sC from F.ha).symm.trans e1
    obtain ⟨cS, ⟨⟨-, -, -, ⟨c1, k1, i1, f1, -⟩, -, -, -, v1, -⟩, -⟩, -⟩ := F
    obtain ⟨k3, e4, -⟩ := State.fieldFound?_setVm (s := ({ Z with heap := h } : State)) hal g2
    have e5 := (show (Wst Z vm h).fieldFound? _ _ _ = _ from e4).symm.trans f1
    simp only [Option.some.injEq, Prod.mk.injEq] at e5
    rw [← e5.2.2.2, g7] at v1
    cases v1
  · cases (show h[q.sd]? = some q.SA from F.hd).symm.trans e1
    obtain ⟨cS, -, -, f, -⟩ := F
    have f' : Z.vm.findClass "[B" = some q.SA.cls := by rw [← hal.findClass]; exact f
    obtain ⟨k1, q1, q2⟩ := Vm.findClass_spec f'
    obtain ⟨k2, q3, q4⟩ := Vm.findClass_spec e2
    cases q1.symm.trans q3
    have := q2.symm.trans q4
    exact absurd this (by decide)
theorem own_n8 (x : Int32) : nar .byte x.toInt8.toInt32 = x.toInt8.toInt32 := by
  apply Int32.toInt_inj.mp
  have h1 := c_i2b x
  have h2 := c_i2b x.toInt8.toInt32
  show (x.toInt8.toInt32.toInt8.toInt32).toInt = _
  omega
theorem own_arv0 {Z : State} {h : Heap} {b : Addr} {k : ClassId} (F : Arv Z h b k .byte (0 : Int32) [] (.int 0)) : own_Ar Z h b .byte [] := by
  obtain ⟨c, A, -, S, -⟩ := F
  exact ⟨c, A, by simpa using (show c.slots.size = 0 from S)⟩
def own_mk (n x y : Int32) : List Int32 := if n = 0 then [] else if n = 1 then [x.toInt8.toInt32] else [x.toInt8.toInt32, y.toInt8.toInt32]
theorem own_d10_0 : decode jdk_52_method_21_code 0 = .ok (.iconst 0, 1) := by decide +kernel
theorem own_d10_1 : decode jdk_52_method_21_code 1 = .ok (.istore 5, 2) := by decide +kernel
theorem own_d10_3 : decode jdk_52_method_21_code 3 = .ok (.iload 5, 2) := by decide +kernel
theorem own_d10_5 : decode jdk_52_method_21_code 5 = .ok (.iload 4, 2) := by decide +kernel
theorem own_d10_7 : decode jdk_52_method_21_code 7 = .ok (.if_icmp .ge 37, 3) := by decide +kernel
theorem own_d10_10 : decode jdk_52_method_21_code 10 = .ok (.aload_n 0, 1) := by decide +kernel
theorem own_d10_11 : decode jdk_52_method_21_code 11 = .ok (.iload_n 1, 1) := by decide +kernel
theorem own_d10_12 : decode jdk_52_method_21_code 12 = .ok (.caload, 1) := by decide +kernel
theorem own_d10_13 : decode jdk_52_method_21_code 13 = .ok (.istore 6, 2) := by decide +kernel
theorem own_d10_15 : decode jdk_52_method_21_code 15 = .ok (.iload 6, 2) := by decide +kernel
theorem own_d10_17 : decode jdk_52_method_21_code 17 = .ok (.sipush 255, 3) := by decide +kernel
theorem own_d10_20 : decode jdk_52_method_21_code 20 = .ok (.if_icmp .le 6, 3) := by decide +kernel
theorem own_d10_26 : decode jdk_52_method_21_code 26 = .ok (.aload_n 2, 1) := by decide +kernel
theorem own_d10_27 : decode jdk_52_method_21_code 27 = .ok (.iload_n 3, 1) := by decide +kernel
theorem own_d10_28 : decode jdk_52_method_21_code 28 = .ok (.iload 6, 2) := by decide +kernel
theorem own_d10_30 : decode jdk_52_method_21_code 30 = .ok (.i2b, 1) := by decide +kernel
theorem own_d10_31 : decode jdk_52_method_21_code 31 = .ok (.bastore, 1) := by decide +kernel
theorem own_d10_32 : decode jdk_52_method_21_code 32 = .ok (.iinc 1 1, 3) := by decide +kernel
theorem own_d10_35 : decode jdk_52_method_21_code 35 = .ok (.iinc 3 1, 3) := by decide +kernel
theorem own_d10_38 : decode jdk_52_method_21_code 38 = .ok (.iinc 5 1, 3) := by decide +kernel
theorem own_d10_41 : decode jdk_52_method_21_code 41 = .ok (.goto (-38), 3) := by decide +kernel
theorem own_d10_44 : decode jdk_52_method_21_code 44 = .ok (.iload 4, 2) := by decide +kernel
theorem own_d10_46 : decode jdk_52_method_21_code 46 = .ok (.ireturn, 1) := by decide +kernel
theorem own_pn_java_lang_StringUTF16 : plainName "java/lang/StringUTF16" = true := by first | (simp [plainName, overriddenIn]; done) | decide +kernel
theorem own_rm10_1_ef (m : MethodId) (ac : Addr) (ab : Addr) : entryFrame m #[(.ref ac), (.int (0 : Int32)), (.ref ab), (.int (0 : Int32)), (.int (1 : Int32))] 7 = mkF m 0 #[.val (.ref ac), .val (.int (0 : Int32)), .val (.ref ab), .val (.int (0 : Int32)), .val (.int (1 : Int32)), .unset, .unset] [] := by first | (simp [entryFrame, mkF, argsToLocals, Value.category]; done) | rfl
def own_Q10_1 (Z : State) (ac : Addr) (ab : Addr) (c0 : Int32) (h0 : Heap) (n0 : Nat) (v_ : Option Value) (h : Heap) (L_ : List Loc) : Prop := v_ = some (.int (1 : Int32)) ∧ Fr n0 L_ ∧ (Keep h0 h [ab]) ∧ (own_Ar Z h ab .byte [c0.toInt8.toInt32])
set_option maxRecDepth 65536 in
set_option maxHeartbeats 40000000 in
theorem own_rm10_1 (l : Launch) (Z : State) (a0 : Array Value) (hw : ∀ d ∈ tables_1, d.before a0 Z = true) (ws : List Jvm.Cond) (ac : Addr) (ab : Addr) (c0 : Int32) (h0 : Heap) (n0 : Nat) (Z0 : n0 ≤ h0.size) (Va : own_Ar Z h0 ac .char [c0]) (Vb : own_Ar Z h0 ab .byte (List.replicate 1 0)) (ne : ac ≠ ab) (g_ab : n0 ≤ ab) (hc0 : ¬ (255 : Int32) < c0) :
    MetFree l (⟨"java/lang/StringUTF16", "compress", "([CI[BII)I"⟩ : MethodName) (head1 (Jvm.Cond.code (⟨"java/lang/StringUTF16", "compress", "([CI[BII)I"⟩ : MethodName) jdk_52_method_21_code 7 (some .int) :: ws) ({ frames := 0, cells := 0, slots := 0, locals := 0 } : Room)) (fun a_ U_ => a_ = #[(.ref ac), (.int (0 : Int32)), (.ref ab), (.int (0 : Int32)), (.int (1 : Int32))] ∧ Z.Warmed39 U_.vm ∧ U_.heap = h0) (fun _ _ _ _ _ => True) (fun _ U_ o_ V_ => ∃ v_ L_, o_ = .returned v_ ∧ own_Q10_1 Z ac ab c0 h0 n0 v_ V_.heap L_ ∧ FrameEnd U_ o_ V_ L_ ({ frames := 0, cells := 0, slots := 0, locals := 0 } : Room).cells ({ frames := 0, cells := 0, slots := 0, locals := 0 } : Room).slots) := by
  refine MetFree.of_bodySF (plainFor_of_name own_pn_java_lang_StringUTF16) hisR ?_
  intro p e s m args below meth c s₁ Bd hml0 hP hK
  obtain ⟨rfl, hZ, hh⟩ := hP
  have hx := Bd.exec
  have hby := Bd.bytes
  have hml : c.maxLocals = 7 := hml0
  have hown : s.vm.findClass "java/lang/StringUTF16" = some m.cls := findClass_of_methodNamed Bd.named
  have hnm := (name_of_methodNamed Bd.named Bd.method).1
  have X0 : Stand p l e ({ frames := 0, cells := 0, slots := 0, locals := 0 } : Room) s m #[(.ref ac), (.int (0 : Int32)), (.ref ab), (.int (0 : Int32)), (.int (1 : Int32))] below meth c s₁ [] 0 0 := Stand.of_body Bd
  have e0 : s₁.heap = h0 := by rw [← hh, Bd.state]; rfl
  have N0 := Fr.nil n0
  show own_G p e below s (own_Q10_1 Z ac ab c0 h0 n0) ({ frames := 0, cells := 0, slots := 0, locals := 0 } : Room).cells ({ frames := 0, cells := 0, slots := 0, locals := 0 } : Room).slots s₁ (entryFrame m #[(.ref ac), (.int (0 : Int32)), (.ref ab), (.int (0 : Int32)), (.int (1 : Int32))] 7)
  rw [own_rm10_1_ef]
  refine own_w (T' := s₁) (g' := (mkF m 1 #[.val (.ref ac), .val (.int (0 : Int32)), .val (.ref ab), .val (.int (0 : Int32)), .val (.int (1 : Int32)), .unset, .unset] [(.int (0 : Int32))])) (fun _ k_ => XS.iconst X0.here hx rfl (hb hby own_d10_0) k_) ?_
  refine own_w (T' := s₁) (g' := (mkF m 3 #[.val (.ref ac), .val (.int (0 : Int32)), .val (.ref ab), .val (.int (0 : Int32)), .val (.int (1 : Int32)), .val (.int (0 : Int32)), .unset] [])) (fun _ k_ => XS.istore X0.here hx rfl (hb hby own_d10_1) rfl (l' := #[.val (.ref ac), .val (.int (0 : Int32)), .val (.ref ab), .val (.int (0 : Int32)), .val (.int (1 : Int32)), .val (.int (0 : Int32)), .unset]) rfl k_) ?_
  refine own_w (T' := s₁) (g' := (mkF m 5 #[.val (.ref ac), .val (.int (0 : Int32)), .val (.ref ab), .val (.int (0 : Int32)), .val (.int (1 : Int32)), .val (.int (0 : Int32)), .unset] [(.int (0 : Int32))])) (fun _ k_ => XS.iload X0.here hx rfl (hb hby own_d10_3) rfl k_) ?_
  refine own_w (T' := s₁) (g' := (mkF m 7 #[.val (.ref ac), .val (.int (0 : Int32)), .val (.ref ab), .val (.int (0 : Int32)), .val (.int (1 : Int32)), .val (.int (0 : Int32)), .unset] [(.int (1 : Int32)), (.int (0 : Int32))])) (fun _ k_ => XS.iload X0.here hx rfl (hb hby own_d10_5) rfl k_) ?_
  refine own_w (T' := s₁) (g' := (mkF m 10 #[.val (.ref ac), .val (.int (0 : Int32)), .val (.ref ab), .val (.int (0 : Int32)), .val (.int (1 : Int32)), .val (.int (0 : Int32)), .unset] [])) (fun _ k_ => XS.icmpNo X0.here hx rfl (hb hby own_d10_7) rfl (tlt (by decide)).2.1 k_) ?_
  refine own_w (T' := s₁) (g' := (mkF m 11 #[.val (.ref ac), .val (.int (0 : Int32)), .val (.ref ab), .val (.int (0 : Int32)), .val (.int (1 : Int32)), .val (.int (0 : Int32)), .unset] [(.ref ac)])) (fun _ k_ => XS.aloadN X0.here hx rfl (hb hby own_d10_10) rfl rfl k_) ?_
  refine own_w (T' := s₁) (g' := (mkF m 12 #[.val (.ref ac), .val (.int (0 : Int32)), .val (.ref ab), .val (.int (0 : Int32)), .val (.int (1 : Int32)), .val (.int (0 : Int32)), .unset] [(.int (0 : Int32)), (.ref ac)])) (fun _ k_ => XS.iloadN X0.here hx rfl (hb hby own_d10_11) rfl k_) ?_
  obtain ⟨cl1, Ar1, hs1⟩ := id Va
  refine own_w (T' := s₁) (g' := (mkF m 13 #[.val (.ref ac), .val (.int (0 : Int32)), .val (.ref ab), .val (.int (0 : Int32)), .val (.int (1 : Int32)), .val (.int (0 : Int32)), .unset] [(.int c0)])) (fun t_ k_ => X0.caload hx (j := (0 : Int32)) (v := .int c0) (by rw [e0]; exact Ar1.1) (State.isArrayOf_alike hZ.alike Ar1.2.1) Ar1.2.2 (own_Ar_in (i := 0) hs1 (by decide) (own_get_lt (show _ = some c0 from rfl))) (own_Ar_at (i := 0) hs1 (by decide) (show _ = some c0 from rfl)) (g := (mkF m 12 #[.val (.ref ac), .val (.int (0 : Int32)), .val (.ref ab), .val (.int (0 : Int32)), .val (.int (1 : Int32)), .val (.int (0 : Int32)), .unset] [(.int (0 : Int32)), (.ref ac)])) rfl rfl (hb hby own_d10_12) t_ k_) ?_
  refine own_w (T' := s₁) (g' := (mkF m 15 #[.val (.ref ac), .val (.int (0 : Int32)), .val (.ref ab), .val (.int (0 : Int32)), .val (.int (1 : Int32)), .val (.int (0 : Int32)), .val (.int c0)] [])) (fun _ k_ => XS.istore X0.here hx rfl (hb hby own_d10_13) rfl (l' := #[.val (.ref ac), .val (.int (0 : Int32)), .val (.ref ab), .val (.int (0 : Int32)), .val (.int (1 : Int32)), .val (.int (0 : Int32)), .val (.int c0)]) rfl k_) ?_
  refine own_w (T' := s₁) (g' := (mkF m 17 #[.val (.ref ac), .val (.int (0 : Int32)), .val (.ref ab), .val (.int (0 : Int32)), .val (.int (1 : Int32)), .val (.int (0 : Int32)), .val (.int c0)] [(.int c0)])) (fun _ k_ => XS.iload X0.here hx rfl (hb hby own_d10_15) rfl k_) ?_
  refine own_w (T' := s₁) (g' := (mkF m 20 #[.val (.ref ac), .val (.int (0 : Int32)), .val (.ref ab), .val (.int (0 : Int32)), .val (.int (1 : Int32)), .val (.int (0 : Int32)), .val (.int c0)] [(.int (255 : Int32)), (.int c0)])) (fun _ k_ => XS.sipush X0.here hx rfl (hb hby own_d10_17) k_) ?_
  refine own_w (T' := s₁) (g' := (mkF m 26 #[.val (.ref ac), .val (.int (0 : Int32)), .val (.ref ab), .val (.int (0 : Int32)), .val (.int (1 : Int32)), .val (.int (0 : Int32)), .val (.int c0)] [])) (fun _ k_ => XS.icmpYes X0.here hx rfl (pc0 := 20) (pc' := 26) rfl (hb hby own_d10_20) rfl (flt hc0).2.2.2 (by decide) (by decide) k_) ?_
  refine own_w (T' := s₁) (g' := (mkF m 27 #[.val (.ref ac), .val (.int (0 : Int32)), .val (.ref ab), .val (.int (0 : Int32)), .val (.int (1 : Int32)), .val (.int (0 : Int32)), .val (.int c0)] [(.ref ab)])) (fun _ k_ => XS.aloadN X0.here hx rfl (hb hby own_d10_26) rfl rfl k_) ?_
  refine own_w (T' := s₁) (g' := (mkF m 28 #[.val (.ref ac), .val (.int (0 : Int32)), .val (.ref ab), .val (.int (0 : Int32)), .val (.int (1 : Int32)), .val (.int (0 : Int32)), .val (.int c0)] [(.int (0 : Int32)), (.ref ab)])) (fun _ k_ => XS.iloadN X0.here hx rfl (hb hby own_d10_27) rfl k_) ?_
  refine own_w (T' := s₁) (g' := (mkF m 30 #[.val (.ref ac), .val (.int (0 : Int32)), .val (.ref ab), .val (.int (0 : Int32)), .val (.int (1 : Int32)), .val (.int (0 : Int32)), .val (.int c0)] [(.int c0), (.int (0 : Int32)), (.ref ab)])) (fun _ k_ => XS.iload X0.here hx rfl (hb hby own_d10_28) rfl k_) ?_
  refine own_w (T' := s₁) (g' := (mkF m 31 #[.val (.ref ac), .val (.int (0 : Int32)), .val (.ref ab), .val (.int (0 : Int32)), .val (.int (1 : Int32)), .val (.int (0 : Int32)), .val (.int c0)] [(.int (c0.toInt8.toInt32)), (.int (0 : Int32)), (.ref ab)])) (fun _ k_ => XS.i2b X0.here hx rfl (hb hby own_d10_30) rfl k_) ?_
  obtain ⟨cl2, Ar2, hs2⟩ := id Vb
  obtain ⟨T2, h2, X2, e2, W2, st2⟩ := stB X0 hx hZ e0 Ar2 (j := (0 : Int32)) (own_Ar_in (i := 0) hs2 (by decide) (by simp)) (g := (mkF m 31 #[.val (.ref ac), .val (.int (0 : Int32)), .val (.ref ab), .val (.int (0 : Int32)), .val (.int (1 : Int32)), .val (.int (0 : Int32)), .val (.int c0)] [(.int (c0.toInt8.toInt32)), (.int (0 : Int32)), (.ref ab)])) rfl rfl (hb hby own_d10_31)
  have V2 := own_Ar_set (i := 0) Vb W2 (by decide) (own_n8 _)
  have N2 := Fr.snoc X2 N0 g_ab
  have Z2 : n0 ≤ h2.size := Nat.le_trans Z0 (Keep.of_wr W2).1
  refine own_w (T' := T2) (g' := (mkF m 32 #[.val (.ref ac), .val (.int (0 : Int32)), .val (.ref ab), .val (.int (0 : Int32)), .val (.int (1 : Int32)), .val (.int (0 : Int32)), .val (.int c0)] [])) st2 ?_
  have Va2 := own_Ar_other Va W2 ne
  have K2 := (Keep.refl h0 [ab]).wr W2 (Or.inl (List.mem_singleton.mpr rfl))
  refine own_w (T' := T2) (g' := (mkF m 35 #[.val (.ref ac), .val (.int (1 : Int32)), .val (.ref ab), .val (.int (0 : Int32)), .val (.int (1 : Int32)), .val (.int (0 : Int32)), .val (.int c0)] [])) (fun _ k_ => XS.iinc X2.here hx rfl (hb hby own_d10_32) rfl (l' := #[.val (.ref ac), .val (.int (1 : Int32)), .val (.ref ab), .val (.int (0 : Int32)), .val (.int (1 : Int32)), .val (.int (0 : Int32)), .val (.int c0)]) rfl k_) ?_
  refine own_w (T' := T2) (g' := (mkF m 38 #[.val (.ref ac), .val (.int (1 : Int32)), .val (.ref ab), .val (.int (1 : Int32)), .val (.int (1 : Int32)), .val (.int (0 : Int32)), .val (.int c0)] [])) (fun _ k_ => XS.iinc X2.here hx rfl (hb hby own_d10_35) rfl (l' := #[.val (.ref ac), .val (.int (1 : Int32)), .val (.ref ab), .val (.int (1 : Int32)), .val (.int (1 : Int32)), .val (.int (0 : Int32)), .val (.int c0)]) rfl k_) ?_
  refine own_w (T' := T2) (g' := (mkF m 41 #[.val (.ref ac), .val (.int (1 : Int32)), .val (.ref ab), .val (.int (1 : Int32)), .val (.int (1 : Int32)), .val (.int (1 : Int32)), .val (.int c0)] [])) (fun _ k_ => XS.iinc X2.here hx rfl (hb hby own_d10_38) rfl (l' := #[.val (.ref ac), .val (.int (1 : Int32)), .val (.ref ab), .val (.int (1 : Int32)), .val (.int (1 : Int32)), .val (.int (1 : Int32)), .val (.int c0)]) rfl k_) ?_
  refine own_w (T' := T2) (g' := (mkF m 3 #[.val (.ref ac), .val (.int (1 : Int32)), .val (.ref ab), .val (.int (1 : Int32)), .val (.int (1 : Int32)), .val (.int (1 : Int32)), .val (.int c0)] [])) (fun _ k_ => XS.goto X2.here hx rfl (pc0 := 41) (pc' := 3) rfl (hb hby own_d10_41) (by decide) (by decide) k_) ?_
  refine own_w (T' := T2) (g' := (mkF m 5 #[.val (.ref ac), .val (.int (1 : Int32)), .val (.ref ab), .val (.int (1 : Int32)), .val (.int (1 : Int32)), .val (.int (1 : Int32)), .val (.int c0)] [(.int (1 : Int32))])) (fun _ k_ => XS.iload X2.here hx rfl (hb hby own_d10_3) rfl k_) ?_
  refine own_w (T' := T2) (g' := (mkF m 7 #[.val (.ref ac), .val (.int (1 : Int32)), .val (.ref ab), .val (.int (1 : Int32)), .val (.int (1 : Int32)), .val (.int (1 : Int32)), .val (.int c0)] [(.int (1 : Int32)), (.int (1 : Int32))])) (fun _ k_ => XS.iload X2.here hx rfl (hb hby own_d10_5) rfl k_) ?_
  refine own_w (T' := T2) (g' := (mkF m 44 #[.val (.ref ac), .val (.int (1 : Int32)), .val (.ref ab), .val (.int (1 : Int32)), .val (.int (1 : Int32)), .val (.int (1 : Int32)), .val (.int c0)] [])) (fun _ k_ => XS.icmpYes X2.here hx rfl (pc0 := 7) (pc' := 44) rfl (hb hby own_d10_7) rfl (flt (by decide)).2.1 (by decide) (by decide) k_) ?_
  refine own_w (T' := T2) (g' := (mkF m 46 #[.val (.ref ac), .val (.int (1 : Int32)), .val (.ref ab), .val (.int (1 : Int32)), .val (.int (1 : Int32)), .val (.int (1 : Int32)), .val (.int c0)] [(.int (1 : Int32))])) (fun _ k_ => XS.iload X2.here hx rfl (hb hby own_d10_44) rfl k_) ?_
  obtain ⟨fs, hr, hrun, hended, hW, hsame⟩ := X2.leave (v := some (.int (1 : Int32))) (fun h => by rw [Bd.returns] at h; cases h)
  exact ⟨_, _, retOut X2 hx Bd.returns rfl (Or.inl ⟨rfl, Or.inl rfl, _, rfl⟩) (hb hby own_d10_46) hr, hrun, hended, _, _, rfl, (by show own_Q10_1 Z ac ab c0 h0 n0 _ T2.heap _; rw [e2]; exact ⟨rfl, N2, K2, V2⟩), ⟨_, rfl⟩, hW, hsame.mono (by decide) (by decide)⟩
theorem own_d9_0 : decode jdk_52_method_16_code 0 = .ok (.iload_n 2, 1) := by decide +kernel
theorem own_d9_1 : decode jdk_52_method_16_code 1 = .ok (.newarray .byte, 2) := by decide +kernel
theorem own_d9_3 : decode jdk_52_method_16_code 3 = .ok (.astore_n 3, 1) := by decide +kernel
theorem own_d9_4 : decode jdk_52_method_16_code 4 = .ok (.aload_n 0, 1) := by decide +kernel
theorem own_d9_5 : decode jdk_52_method_16_code 5 = .ok (.iload_n 1, 1) := by decide +kernel
theorem own_d9_6 : decode jdk_52_method_16_code 6 = .ok (.aload_n 3, 1) := by decide +kernel
theorem own_d9_7 : decode jdk_52_method_16_code 7 = .ok (.iconst 0, 1) := by decide +kernel
theorem own_d9_8 : decode jdk_52_method_16_code 8 = .ok (.iload_n 2, 1) := by decide +kernel
theorem own_d9_9 : decode jdk_52_method_16_code 9 = .ok (.invokestatic 115, 3) := by decide +kernel
theorem own_pd0 : parseMethodDescriptor "([CI[BII)I" = some ⟨[(.array .char), .int, (.array .byte), .int, .int], some .int⟩ := by decide +kernel
theorem own_d9_12 : decode jdk_52_method_16_code 12 = .ok (.istore 4, 2) := by decide +kernel
theorem own_d9_14 : decode jdk_52_method_16_code 14 = .ok (.iload 4, 2) := by decide +kernel
theorem own_d9_16 : decode jdk_52_method_16_code 16 = .ok (.iload_n 2, 1) := by decide +kernel
theorem own_d9_17 : decode jdk_52_method_16_code 17 = .ok (.if_icmp .eq 40, 3) := by decide +kernel
theorem own_d9_57 : decode jdk_52_method_16_code 57 = .ok (.aload_n 3, 1) := by decide +kernel
theorem own_d9_58 : decode jdk_52_method_16_code 58 = .ok (.areturn, 1) := by decide +kernel
theorem own_rm9_1_ef (m : MethodId) (ac : Addr) : entryFrame m #[(.ref ac), (.int (0 : Int32)), (.int (1 : Int32))] 6 = mkF m 0 #[.val (.ref ac), .val (.int (0 : Int32)), .val (.int (1 : Int32)), .unset, .unset, .unset] [] := by first | (simp [entryFrame, mkF, argsToLocals, Value.category]; done) | rfl
def own_Q9_1 (Z : State) (ac : Addr) (c0 : Int32) (h0 : Heap) (n0 : Nat) (v_ : Option Value) (h : Heap) (L_ : List Loc) : Prop := v_ = some (.ref h0.size) ∧ Fr n0 L_ ∧ (Keep h0 h []) ∧ (own_Ar Z h h0.size .byte [c0.toInt8.toInt32])
set_option maxRecDepth 65536 in
set_option maxHeartbeats 40000000 in
theorem own_rm9_1 (l : Launch) (Z : State) (a0 : Array Value) (hw : ∀ d ∈ tables_1, d.before a0 Z = true) (ws : List Jvm.Cond) (ac : Addr) (c0 : Int32) (h0 : Heap) (n0 : Nat) (Z0 : n0 ≤ h0.size) (Va : own_Ar Z h0 ac .char [c0]) (hc0 : ¬ (255 : Int32) < c0) :
    MetFree l (⟨"java/lang/StringUTF16", "compress", "([CII)[B"⟩ : MethodName) (head1 (Jvm.Cond.code (⟨"java/lang/StringUTF16", "compress", "([CII)[B"⟩ : MethodName) jdk_52_method_16_code 6 (some (.array .byte)) :: ws) ({ frames := 1, cells := 1, slots := 1, locals := 18 } : Room)) (fun a_ U_ => a_ = #[(.ref ac), (.int (0 : Int32)), (.int (1 : Int32))] ∧ Z.Warmed39 U_.vm ∧ U_.heap = h0) (fun _ _ _ _ _ => True) (fun _ U_ o_ V_ => ∃ v_ L_, o_ = .returned v_ ∧ own_Q9_1 Z ac c0 h0 n0 v_ V_.heap L_ ∧ FrameEnd U_ o_ V_ L_ ({ frames := 1, cells := 1, slots := 1, locals := 18 } : Room).cells ({ frames := 1, cells := 1, slots := 1, locals := 18 } : Room).slots) := by
  refine MetFree.of_bodySF (plainFor_of_name own_pn_java_lang_StringUTF16) hisR ?_
  intro p e s m args below meth c s₁ Bd hml0 hP hK
  obtain ⟨rfl, hZ, hh⟩ := hP
  have hx := Bd.exec
  have hby := Bd.bytes
  have hml : c.maxLocals = 6 := hml0
  have hown : s.vm.findClass "java/lang/StringUTF16" = some m.cls := findClass_of_methodNamed Bd.named
  have hnm := (name_of_methodNamed Bd.named Bd.method).1
  have X0 : Stand p l e ({ frames := 1, cells := 1, slots := 1, locals := 18 } : Room) s m #[(.ref ac), (.int (0 : Int32)), (.int (1 : Int32))] below meth c s₁ [] 0 0 := Stand.of_body Bd
  have e0 : s₁.heap = h0 := by rw [← hh, Bd.state]; rfl
  have N0 := Fr.nil n0
  show own_G p e below s (own_Q9_1 Z ac c0 h0 n0) ({ frames := 1, cells := 1, slots := 1, locals := 18 } : Room).cells ({ frames := 1, cells := 1, slots := 1, locals := 18 } : Room).slots s₁ (entryFrame m #[(.ref ac), (.int (0 : Int32)), (.int (1 : Int32))] 6)
  rw [own_rm9_1_ef]
  refine own_w (T' := s₁) (g' := (mkF m 1 #[.val (.ref ac), .val (.int (0 : Int32)), .val (.int (1 : Int32)), .unset, .unset, .unset] [(.int (1 : Int32))])) (fun _ k_ => XS.iloadN X0.here hx rfl (hb hby own_d9_0) rfl k_) ?_
  obtain ⟨T1, h1, k1, X1, e1, E1, A1, st1⟩ := newP X0 hx hZ (hw _ (List.mem_of_getElem? (i := 19) rfl)) e0 (g := (mkF m 1 #[.val (.ref ac), .val (.int (0 : Int32)), .val (.int (1 : Int32)), .unset, .unset, .unset] [(.int (1 : Int32))])) rfl (hb hby own_d9_1) rfl (by decide) (cap := 1) (by decide) (by decide) (by decide) (by decide)
  obtain ⟨b1, gq1⟩ : ∃ z, z = h0.size := ⟨_, rfl⟩
  rw [← gq1] at A1 st1
  have V_b1 := own_Ar_new A1 rfl (k := 1) rfl
  have g_b1 : n0 ≤ b1 := Nat.le_trans Z0 (Nat.le_of_eq gq1.symm)
  have Z1 : n0 ≤ h1.size := Nat.le_trans Z0 E1.1
  refine own_w (T' := T1) (g' := (mkF m 3 #[.val (.ref ac), .val (.int (0 : Int32)), .val (.int (1 : Int32)), .unset, .unset, .unset] [(.ref b1)])) st1 ?_
  have ne : ac ≠ b1 := Nat.ne_of_lt (Nat.lt_of_lt_of_le (own_Ar_lt Va) (Nat.le_of_eq gq1.symm))
  refine own_w (T' := T1) (g' := (mkF m 4 #[.val (.ref ac), .val (.int (0 : Int32)), .val (.int (1 : Int32)), .val (.ref b1), .unset, .unset] [])) (fun _ k_ => XS.astoreN X1.here hx rfl (hb hby own_d9_3) rfl rfl (l' := #[.val (.ref ac), .val (.int (0 : Int32)), .val (.int (1 : Int32)), .val (.ref b1), .unset, .unset]) rfl k_) ?_
  refine own_w (T' := T1) (g' := (mkF m 5 #[.val (.ref ac), .val (.int (0 : Int32)), .val (.int (1 : Int32)), .val (.ref b1), .unset, .unset] [(.ref ac)])) (fun _ k_ => XS.aloadN X1.here hx rfl (hb hby own_d9_4) rfl rfl k_) ?_
  refine own_w (T' := T1) (g' := (mkF m 6 #[.val (.ref ac), .val (.int (0 : Int32)), .val (.int (1 : Int32)), .val (.ref b1), .unset, .unset] [(.int (0 : Int32)), (.ref ac)])) (fun _ k_ => XS.iloadN X1.here hx rfl (hb hby own_d9_5) rfl k_) ?_
  refine own_w (T' := T1) (g' := (mkF m 7 #[.val (.ref ac), .val (.int (0 : Int32)), .val (.int (1 : Int32)), .val (.ref b1), .unset, .unset] [(.ref b1), (.int (0 : Int32)), (.ref ac)])) (fun _ k_ => XS.aloadN X1.here hx rfl (hb hby own_d9_6) rfl rfl k_) ?_
  refine own_w (T' := T1) (g' := (mkF m 8 #[.val (.ref ac), .val (.int (0 : Int32)), .val (.int (1 : Int32)), .val (.ref b1), .unset, .unset] [(.int (0 : Int32)), (.ref b1), (.int (0 : Int32)), (.ref ac)])) (fun _ k_ => XS.iconst X1.here hx rfl (hb hby own_d9_7) k_) ?_
  refine own_w (T' := T1) (g' := (mkF m 9 #[.val (.ref ac), .val (.int (0 : Int32)), .val (.int (1 : Int32)), .val (.ref b1), .unset, .unset] [(.int (1 : Int32)), (.int (0 : Int32)), (.ref b1), (.int (0 : Int32)), (.ref ac)])) (fun _ k_ => XS.iloadN X1.here hx rfl (hb hby own_d9_8) rfl k_) ?_
  obtain ⟨_, _, ⟨T2, L2, k2, n2⟩, -, X2, ⟨Lc2, hQ2, l2, y2, z2⟩, st2⟩ := Jvm.LawKit.callS X1 hx (y := (⟨"java/lang/StringUTF16", "compress", "([CI[BII)I"⟩ : MethodName)) hown (mvT hZ (hw _ (List.mem_of_getElem? (i := 57) rfl))) (mvT hZ (hw _ (List.mem_of_getElem? (i := 58) rfl))) (mvT hZ (hw _ (List.mem_of_getElem? (i := 55) rfl))) (mvT hZ (hw _ (List.mem_of_getElem? (i := 59) rfl))) (by decide) (backOf (W := 0) (own_rm10_1 l Z a0 hw [] ac b1 c0 h1 n0 Z1 (own_Ar_ext Va E1) V_b1 ne g_b1 hc0) hZ (hw _ (List.mem_of_getElem? (i := 59) rfl)) (hw _ (List.mem_of_getElem? (i := 55) rfl)) (by decide) (by decide)) (g := (mkF m 9 #[.val (.ref ac), .val (.int (0 : Int32)), .val (.int (1 : Int32)), .val (.ref b1), .unset, .unset] [(.int (1 : Int32)), (.int (0 : Int32)), (.ref b1), (.int (0 : Int32)), (.ref ac)])) rfl (by rw [hml]; rfl) (argsL := [(.ref ac), (.int (0 : Int32)), (.ref b1), (.int (0 : Int32)), (.int (1 : Int32))]) (rest := []) (lenOf own_pd0 rfl) rfl (by show 2 * 0 + _ ≤ _; exact Nat.le_of_eq rfl) (hb hby own_d9_9) (fun _ _ => ⟨rfl, e1, (by decide : 1 + 0 ≤ _), (by decide : 1 + 0 ≤ _)⟩)
  dsimp only [Pt.U, Pt.locs, Pt.cells, Pt.slots] at X2 l2 y2 z2 st2 hQ2
  subst l2 y2 z2
  obtain ⟨h2, e2⟩ : ∃ h, T2.heap = h := ⟨_, rfl⟩
  rw [e2] at hQ2
  obtain ⟨rfl, N2q, K2, V2⟩ := hQ2
  have N2 := Fr.app N0 N2q
  refine own_w (T' := T2) (g' := (mkF m 12 #[.val (.ref ac), .val (.int (0 : Int32)), .val (.int (1 : Int32)), .val (.ref b1), .unset, .unset] [(.int (1 : Int32))])) st2 ?_
  refine own_w (T' := T2) (g' := (mkF m 14 #[.val (.ref ac), .val (.int (0 : Int32)), .val (.int (1 : Int32)), .val (.ref b1), .val (.int (1 : Int32)), .unset] [])) (fun _ k_ => XS.istore X2.here hx rfl (hb hby own_d9_12) rfl (l' := #[.val (.ref ac), .val (.int (0 : Int32)), .val (.int (1 : Int32)), .val (.ref b1), .val (.int (1 : Int32)), .unset]) rfl k_) ?_
  refine own_w (T' := T2) (g' := (mkF m 16 #[.val (.ref ac), .val (.int (0 : Int32)), .val (.int (1 : Int32)), .val (.ref b1), .val (.int (1 : Int32)), .unset] [(.int (1 : Int32))])) (fun _ k_ => XS.iload X2.here hx rfl (hb hby own_d9_14) rfl k_) ?_
  refine own_w (T' := T2) (g' := (mkF m 17 #[.val (.ref ac), .val (.int (0 : Int32)), .val (.int (1 : Int32)), .val (.ref b1), .val (.int (1 : Int32)), .unset] [(.int (1 : Int32)), (.int (1 : Int32))])) (fun _ k_ => XS.iloadN X2.here hx rfl (hb hby own_d9_16) rfl k_) ?_
  refine own_w (T' := T2) (g' := (mkF m 57 #[.val (.ref ac), .val (.int (0 : Int32)), .val (.int (1 : Int32)), .val (.ref b1), .val (.int (1 : Int32)), .unset] [])) (fun _ k_ => XS.icmpYes X2.here hx rfl (pc0 := 17) (pc' := 57) rfl (hb hby own_d9_17) rfl (teq rfl).1 (by decide) (by decide) k_) ?_
  refine own_w (T' := T2) (g' := (mkF m 58 #[.val (.ref ac), .val (.int (0 : Int32)), .val (.int (1 : Int32)), .val (.ref b1), .val (.int (1 : Int32)), .unset] [(.ref b1)])) (fun _ k_ => XS.aloadN X2.here hx rfl (hb hby own_d9_57) rfl rfl k_) ?_
  obtain ⟨fs, hr, hrun, hended, hW, hsame⟩ := X2.leave (v := some (.ref b1)) (fun h => by rw [Bd.returns] at h; cases h)
  exact ⟨_, _, retOut X2 hx Bd.returns rfl (Or.inr (Or.inr (Or.inr (Or.inr ⟨rfl, rfl, rfl⟩)))) (hb hby own_d9_58) hr, hrun, hended, _, _, rfl, (by show own_Q9_1 Z ac c0 h0 n0 _ T2.heap _; rw [e2]; exact ⟨(by rw [gq1]), N2, ((Keep.refl h0 []).ext E1).trans K2 (fun x hx => Or.inr (by rw [List.mem_singleton.mp hx]; exact Nat.le_of_eq gq1.symm)), gq1 ▸ V2⟩), ⟨_, rfl⟩, hW, hsame.mono (by decide) (by decide)⟩
theorem own_d11_0 : decode jdk_52_method_15_code 0 = .ok (.iload_n 1, 1) := by decide +kernel
theorem own_d11_1 : decode jdk_52_method_15_code 1 = .ok (.aload_n 0, 1) := by decide +kernel
theorem own_d11_2 : decode jdk_52_method_15_code 2 = .ok (.arraylength, 1) := by decide +kernel
theorem own_d11_3 : decode jdk_52_method_15_code 3 = .ok (.isub, 1) := by decide +kernel
theorem own_d11_4 : decode jdk_52_method_15_code 4 = .ok (.bipush 31, 2) := by decide +kernel
theorem own_d11_6 : decode jdk_52_method_15_code 6 = .ok (.iushr, 1) := by decide +kernel
theorem own_d11_7 : decode jdk_52_method_15_code 7 = .ok (.i2b, 1) := by decide +kernel
theorem own_d11_8 : decode jdk_52_method_15_code 8 = .ok (.ireturn, 1) := by decide +kernel
theorem own_rm11_1_ef (m : MethodId) (ab : Addr) : entryFrame m #[(.ref ab), (.int (1 : Int32))] 2 = mkF m 0 #[.val (.ref ab), .val (.int (1 : Int32))] [] := by first | (simp [entryFrame, mkF, argsToLocals, Value.category]; done) | rfl
def own_Q11_1 (Z : State) (ab : Addr) (xs : List Int32) (h0 : Heap) (n0 : Nat) (v_ : Option Value) (h : Heap) (L_ : List Loc) : Prop := v_ = some (.int (0 : Int32)) ∧ Fr n0 L_ ∧ (h = h0)
set_option maxRecDepth 65536 in
set_option maxHeartbeats 40000000 in
theorem own_rm11_1 (l : Launch) (Z : State) (a0 : Array Value) (hw : ∀ d ∈ tables_1, d.before a0 Z = true) (ws : List Jvm.Cond) (ab : Addr) (xs : List Int32) (h0 : Heap) (n0 : Nat) (Z0 : n0 ≤ h0.size) (V : own_Ar Z h0 ab .byte xs) (hl : xs.length = 1) :
    MetFree l (⟨"java/lang/StringUTF16", "coderFromArrayLen", "([BI)B"⟩ : MethodName) (head1 (Jvm.Cond.code (⟨"java/lang/StringUTF16", "coderFromArrayLen", "([BI)B"⟩ : MethodName) jdk_52_method_15_code 2 (some .byte) :: ws) ({ frames := 0, cells := 0, slots := 0, locals := 0 } : Room)) (fun a_ U_ => a_ = #[(.ref ab), (.int (1 : Int32))] ∧ Z.Warmed39 U_.vm ∧ U_.heap = h0) (fun _ _ _ _ _ => True) (fun _ U_ o_ V_ => ∃ v_ L_, o_ = .returned v_ ∧ own_Q11_1 Z ab xs h0 n0 v_ V_.heap L_ ∧ FrameEnd U_ o_ V_ L_ ({ frames := 0, cells := 0, slots := 0, locals := 0 } : Room).cells ({ frames := 0, cells := 0, slots := 0, locals := 0 } : Room).slots) := by
  refine MetFree.of_bodySF (plainFor_of_name own_pn_java_lang_StringUTF16) hisR ?_
  intro p e s m args below meth c s₁ Bd hml0 hP hK
  obtain ⟨rfl, hZ, hh⟩ := hP
  have hx := Bd.exec
  have hby := Bd.bytes
  have hml : c.maxLocals = 2 := hml0
  have hown : s.vm.findClass "java/lang/StringUTF16" = some m.cls := findClass_of_methodNamed Bd.named
  have hnm := (name_of_methodNamed Bd.named Bd.method).1
  have X0 : Stand p l e ({ frames := 0, cells := 0, slots := 0, locals := 0 } : Room) s m #[(.ref ab), (.int (1 : Int32))] below meth c s₁ [] 0 0 := Stand.of_body Bd
  have e0 : s₁.heap = h0 := by rw [← hh, Bd.state]; rfl
  have N0 := Fr.nil n0
  show own_G p e below s (own_Q11_1 Z ab xs h0 n0) ({ frames := 0, cells := 0, slots := 0, locals := 0 } : Room).cells ({ frames := 0, cells := 0, slots := 0, locals := 0 } : Room).slots s₁ (entryFrame m #[(.ref ab), (.int (1 : Int32))] 2)
  rw [own_rm11_1_ef]
  refine own_w (T' := s₁) (g' := (mkF m 1 #[.val (.ref ab), .val (.int (1 : Int32))] [(.int (1 : Int32))])) (fun _ k_ => XS.iloadN X0.here hx rfl (hb hby own_d11_0) rfl k_) ?_
  refine own_w (T' := s₁) (g' := (mkF m 2 #[.val (.ref ab), .val (.int (1 : Int32))] [(.ref ab), (.int (1 : Int32))])) (fun _ k_ => XS.aloadN X0.here hx rfl (hb hby own_d11_1) rfl rfl k_) ?_
  obtain ⟨cl1, Ar1, hs1⟩ := id V
  have hl1 : cl1.slots.size.toInt32 = (1 : Int32) := by rw [hs1]; simp [hl]; decide
  refine own_w (T' := s₁) (g' := (mkF m 3 #[.val (.ref ab), .val (.int (1 : Int32))] [(.int (1 : Int32)), (.int (1 : Int32))])) (fun t_ k_ => X0.arraylength hx (by rw [e0]; exact Ar1.1) (State.isArrayOf_alike hZ.alike Ar1.2.1) (g := (mkF m 2 #[.val (.ref ab), .val (.int (1 : Int32))] [(.ref ab), (.int (1 : Int32))])) rfl rfl (hb hby own_d11_2) t_ (by rw [hl1]; exact k_)) ?_
  refine own_w (T' := s₁) (g' := (mkF m 4 #[.val (.ref ab), .val (.int (1 : Int32))] [(.int (0 : Int32))])) (fun _ k_ => XS.isub X0.here hx rfl (hb hby own_d11_3) rfl k_) ?_
  refine own_w (T' := s₁) (g' := (mkF m 6 #[.val (.ref ab), .val (.int (1 : Int32))] [(.int (31 : Int32)), (.int (0 : Int32))])) (fun _ k_ => XS.bipush X0.here hx rfl (hb hby own_d11_4) k_) ?_
  refine own_w (T' := s₁) (g' := (mkF m 7 #[.val (.ref ab), .val (.int (1 : Int32))] [(.int (((0 : Int32).toUInt32 >>> ((31 : Int32) &&& 31).toUInt32).toInt32))])) (fun _ k_ => XS.iushr X0.here hx rfl (hb hby own_d11_6) rfl k_) ?_
  refine own_w (T' := s₁) (g' := (mkF m 8 #[.val (.ref ab), .val (.int (1 : Int32))] [(.int ((((0 : Int32).toUInt32 >>> ((31 : Int32) &&& 31).toUInt32).toInt32).toInt8.toInt32))])) (fun _ k_ => XS.i2b X0.here hx rfl (hb hby own_d11_7) rfl k_) ?_
  obtain ⟨fs, hr, hrun, hended, hW, hsame⟩ := X0.leave (v := some (.int ((((0 : Int32).toUInt32 >>> ((31 : Int32) &&& 31).toUInt32).toInt32).toInt8.toInt32))) (fun h => by rw [Bd.returns] at h; cases h)
  exact ⟨_, _, retOut X0 hx Bd.returns (by decide) (Or.inl ⟨rfl, Or.inr (Or.inr (Or.inl rfl)), _, rfl⟩) (hb hby own_d11_8) hr, hrun, hended, _, _, rfl, (by show own_Q11_1 Z ab xs h0 n0 _ s₁.heap _; rw [e0]; exact ⟨rfl, N0, rfl⟩), ⟨_, rfl⟩, hW, hsame.mono (by decide) (by decide)⟩
theorem own_d3_0 : decode jdk_42_method_149_code 0 = .ok (.aload_n 0, 1) := by decide +kernel
theorem own_d3_1 : decode jdk_42_method_149_code 1 = .ok (.invokespecial 1, 3) := by decide +kernel
theorem own_d3_4 : decode jdk_42_method_149_code 4 = .ok (.iload_n 3, 1) := by decide +kernel
theorem own_d3_5 : decode jdk_42_method_149_code 5 = .ok (.ifCond .ne 22, 3) := by decide +kernel
theorem own_d3_27 : decode jdk_42_method_149_code 27 = .ok (.getstatic 38, 3) := by decide +kernel
theorem own_d3_30 : decode jdk_42_method_149_code 30 = .ok (.ifCond .eq 28, 3) := by decide +kernel
theorem own_d3_33 : decode jdk_42_method_149_code 33 = .ok (.aload_n 1, 1) := by decide +kernel
theorem own_d3_34 : decode jdk_42_method_149_code 34 = .ok (.iload_n 2, 1) := by decide +kernel
theorem own_d3_35 : decode jdk_42_method_149_code 35 = .ok (.iload_n 3, 1) := by decide +kernel
theorem own_d3_36 : decode jdk_42_method_149_code 36 = .ok (.invokestatic 177, 3) := by decide +kernel
theorem own_pd1 : parseMethodDescriptor "([CII)[B" = some ⟨[(.array .char), .int, .int], some (.array .byte)⟩ := by decide +kernel
theorem own_d3_39 : decode jdk_42_method_149_code 39 = .ok (.astore 5, 2) := by decide +kernel
theorem own_d3_41 : decode jdk_42_method_149_code 41 = .ok (.aload_n 0, 1) := by decide +kernel
theorem own_d3_42 : decode jdk_42_method_149_code 42 = .ok (.aload 5, 2) := by decide +kernel
theorem own_d3_44 : decode jdk_42_method_149_code 44 = .ok (.iload_n 3, 1) := by decide +kernel
theorem own_d3_45 : decode jdk_42_method_149_code 45 = .ok (.invokestatic 47, 3) := by decide +kernel
theorem own_pd2 : parseMethodDescriptor "([BI)B" = some ⟨[(.array .byte), .int], some .byte⟩ := by decide +kernel
theorem own_d3_48 : decode jdk_42_method_149_code 48 = .ok (.putfield 15, 3) := by decide +kernel
theorem own_d3_51 : decode jdk_42_method_149_code 51 = .ok (.aload_n 0, 1) := by decide +kernel
theorem own_d3_52 : decode jdk_42_method_149_code 52 = .ok (.aload 5, 2) := by decide +kernel
theorem own_d3_54 : decode jdk_42_method_149_code 54 = .ok (.putfield 9, 3) := by decide +kernel
theorem own_d3_57 : decode jdk_42_method_149_code 57 = .ok (.return_, 1) := by decide +kernel
theorem own_pn_java_lang_String : plainName "java/lang/String" = true := by first | (simp [plainName, overriddenIn]; done) | decide +kernel
theorem own_rm3_1_ef (m : MethodId) (a : Addr) (ac : Addr) : entryFrame m #[(.ref a), (.ref ac), (.int (0 : Int32)), (.int (1 : Int32)), .null] 6 = mkF m 0 #[.val (.ref a), .val (.ref ac), .val (.int (0 : Int32)), .val (.int (1 : Int32)), .val .null, .unset] [] := by first | (simp [entryFrame, mkF, argsToLocals, Value.category]; done) | rfl
def own_Q3_1 (Z : State) (a : Addr) (ac : Addr) (u : Value) (u2 : Value) (cs : Int32) (c0 : Int32) (h0 : Heap) (n0 : Nat) (v_ : Option Value) (h : Heap) (L_ : List Loc) : Prop := v_ = none ∧ Fr n0 L_ ∧ (Keep h0 h [a]) ∧ (own_Str Z h a [c0.toInt8.toInt32])
set_option maxRecDepth 65536 in
set_option maxHeartbeats 40000000 in
theorem own_rm3_1 (l : Launch) (Z : State) (a0 : Array Value) (hw : ∀ d ∈ tables_1, d.before a0 Z = true) (ws : List Jvm.Cond) (a : Addr) (ac : Addr) (u : Value) (u2 : Value) (cs : Int32) (c0 : Int32) (h0 : Heap) (n0 : Nat) (Z0 : n0 ≤ h0.size) (F : Fld Z h0 a "java/lang/String" "value" "[B" u) (G : Fld Z h0 a "java/lang/String" "coder" "B" u2) (E : Exa Z h0 a "java/lang/String") (g_a : n0 ≤ a) (Va : own_Ar Z h0 ac .char [c0]) (hcs : ¬ cs = (0 : Int32)) (S : Sta Z h0 "java/lang/String" "COMPACT_STRINGS" "Z" (.int cs)) (hc0 : ¬ (255 : Int32) < c0) :
    MetFree l (⟨"java/lang/String", "<init>", "([CIILjava/lang/Void;)V"⟩ : MethodName) (head1 (Jvm.Cond.code (⟨"java/lang/String", "<init>", "([CIILjava/lang/Void;)V"⟩ : MethodName) jdk_42_method_149_code 6 none :: ws) ({ frames := 2, cells := 1, slots := 1, locals := 35 } : Room)) (fun a_ U_ => a_ = #[(.ref a), (.ref ac), (.int (0 : Int32)), (.int (1 : Int32)), .null] ∧ Z.Warmed39 U_.vm ∧ U_.heap = h0) (fun _ _ _ _ _ => True) (fun _ U_ o_ V_ => ∃ v_ L_, o_ = .returned v_ ∧ own_Q3_1 Z a ac u u2 cs c0 h0 n0 v_ V_.heap L_ ∧ FrameEnd U_ o_ V_ L_ ({ frames := 2, cells := 1, slots := 1, locals := 35 } : Room).cells ({ frames := 2, cells := 1, slots := 1, locals := 35 } : Room).slots) := by
  refine MetFree.of_bodySF (plainFor_of_name own_pn_java_lang_String) hisR ?_
  intro p e s m args below meth c s₁ Bd hml0 hP hK
  obtain ⟨rfl, hZ, hh⟩ := hP
  have hx := Bd.exec
  have hby := Bd.bytes
  have hml : c.maxLocals = 6 := hml0
  have hown : s.vm.findClass "java/lang/String" = some m.cls := findClass_of_methodNamed Bd.named
  have hnm := (name_of_methodNamed Bd.named Bd.method).1
  have X0 : Stand p l e ({ frames := 2, cells := 1, slots := 1, locals := 35 } : Room) s m #[(.ref a), (.ref ac), (.int (0 : Int32)), (.int (1 : Int32)), .null] below meth c s₁ [] 0 0 := Stand.of_body Bd
  have e0 : s₁.heap = h0 := by rw [← hh, Bd.state]; rfl
  have N0 := Fr.nil n0
  show own_G p e below s (own_Q3_1 Z a ac u u2 cs c0 h0 n0) ({ frames := 2, cells := 1, slots := 1, locals := 35 } : Room).cells ({ frames := 2, cells := 1, slots := 1, locals := 35 } : Room).slots s₁ (entryFrame m #[(.ref a), (.ref ac), (.int (0 : Int32)), (.int (1 : Int32)), .null] 6)
  rw [own_rm3_1_ef]
  refine own_w (T' := s₁) (g' := (mkF m 1 #[.val (.ref a), .val (.ref ac), .val (.int (0 : Int32)), .val (.int (1 : Int32)), .val .null, .unset] [(.ref a)])) (fun _ k_ => XS.aloadN X0.here hx rfl (hb hby own_d3_0) rfl rfl k_) ?_
  obtain ⟨T1, X1, e1, st1⟩ := initO X0 hx hZ hown (hw _ (List.mem_of_getElem? (i := 15) rfl)) (hw _ (List.mem_of_getElem? (i := 16) rfl)) (hw _ (List.mem_of_getElem? (i := 17) rfl)) e0 (g := (mkF m 1 #[.val (.ref a), .val (.ref ac), .val (.int (0 : Int32)), .val (.int (1 : Int32)), .val .null, .unset] [(.ref a)])) rfl (by rw [hml]; rfl) rfl (hb hby own_d3_1) (by decide) (W := 0) (by show 2 * 0 + _ ≤ _; exact Nat.le_of_eq rfl) (by decide)
  refine own_w (T' := T1) (g' := (mkF m 4 #[.val (.ref a), .val (.ref ac), .val (.int (0 : Int32)), .val (.int (1 : Int32)), .val .null, .unset] [])) st1 ?_
  refine own_w (T' := T1) (g' := (mkF m 5 #[.val (.ref a), .val (.ref ac), .val (.int (0 : Int32)), .val (.int (1 : Int32)), .val .null, .unset] [(.int (1 : Int32))])) (fun _ k_ => XS.iloadN X1.here hx rfl (hb hby own_d3_4) rfl k_) ?_
  refine own_w (T' := T1) (g' := (mkF m 27 #[.val (.ref a), .val (.ref ac), .val (.int (0 : Int32)), .val (.int (1 : Int32)), .val .null, .unset] [])) (fun _ k_ => XS.ifYes X1.here hx rfl (pc0 := 5) (pc' := 27) rfl (hb hby own_d3_5) rfl ((if0 _ _).trans (feq (by decide)).2) (by decide) (by decide) k_) ?_
  obtain ⟨T2, X2, e2, st2⟩ := getS2 X1 hx hZ hown (host := "") (Or.inl (hw _ (List.mem_of_getElem? (i := 48) rfl))) Via.refl e1 S (g := (mkF m 27 #[.val (.ref a), .val (.ref ac), .val (.int (0 : Int32)), .val (.int (1 : Int32)), .val .null, .unset] [])) rfl (hb hby own_d3_27)
  refine own_w (T' := T2) (g' := (mkF m 30 #[.val (.ref a), .val (.ref ac), .val (.int (0 : Int32)), .val (.int (1 : Int32)), .val .null, .unset] [(.int cs)])) st2 ?_
  refine own_w (T' := T2) (g' := (mkF m 33 #[.val (.ref a), .val (.ref ac), .val (.int (0 : Int32)), .val (.int (1 : Int32)), .val .null, .unset] [])) (fun _ k_ => XS.ifNo X2.here hx rfl (hb hby own_d3_30) rfl ((if0 _ _).trans (feq hcs).1) k_) ?_
  refine own_w (T' := T2) (g' := (mkF m 34 #[.val (.ref a), .val (.ref ac), .val (.int (0 : Int32)), .val (.int (1 : Int32)), .val .null, .unset] [(.ref ac)])) (fun _ k_ => XS.aloadN X2.here hx rfl (hb hby own_d3_33) rfl rfl k_) ?_
  refine own_w (T' := T2) (g' := (mkF m 35 #[.val (.ref a), .val (.ref ac), .val (.int (0 : Int32)), .val (.int (1 : Int32)), .val .null, .unset] [(.int (0 : Int32)), (.ref ac)])) (fun _ k_ => XS.iloadN X2.here hx rfl (hb hby own_d3_34) rfl k_) ?_
  refine own_w (T' := T2) (g' := (mkF m 36 #[.val (.ref a), .val (.ref ac), .val (.int (0 : Int32)), .val (.int (1 : Int32)), .val .null, .unset] [(.int (1 : Int32)), (.int (0 : Int32)), (.ref ac)])) (fun _ k_ => XS.iloadN X2.here hx rfl (hb hby own_d3_35) rfl k_) ?_
  obtain ⟨_, _, ⟨T3, L3, k3, n3⟩, -, X3, ⟨Lc3, hQ3, l3, y3, z3⟩, st3⟩ := Jvm.LawKit.callS X2 hx (y := (⟨"java/lang/StringUTF16", "compress", "([CII)[B"⟩ : MethodName)) hown (mvT hZ (hw _ (List.mem_of_getElem? (i := 53) rfl))) (mvT hZ (hw _ (List.mem_of_getElem? (i := 54) rfl))) (mvT hZ (hw _ (List.mem_of_getElem? (i := 55) rfl))) (mvT hZ (hw _ (List.mem_of_getElem? (i := 56) rfl))) (by decide) (backOf (W := 0) (own_rm9_1 l Z a0 hw [] ac c0 h0 n0 Z0 Va hc0) hZ (hw _ (List.mem_of_getElem? (i := 56) rfl)) (hw _ (List.mem_of_getElem? (i := 55) rfl)) (by decide) (by decide)) (g := (mkF m 36 #[.val (.ref a), .val (.ref ac), .val (.int (0 : Int32)), .val (.int (1 : Int32)), .val .null, .unset] [(.int (1 : Int32)), (.int (0 : Int32)), (.ref ac)])) rfl (by rw [hml]; rfl) (argsL := [(.ref ac), (.int (0 : Int32)), (.int (1 : Int32))]) (rest := []) (lenOf own_pd1 rfl) rfl (by show 2 * 0 + _ ≤ _; exact Nat.le_of_eq rfl) (hb hby own_d3_36) (fun _ _ => ⟨rfl, e2, (by decide : 0 + 1 ≤ _), (by decide : 0 + 1 ≤ _)⟩)
  dsimp only [Pt.U, Pt.locs, Pt.cells, Pt.slots] at X3 l3 y3 z3 st3 hQ3
  subst l3 y3 z3
  obtain ⟨h3, e3⟩ : ∃ h, T3.heap = h := ⟨_, rfl⟩
  rw [e3] at hQ3
  obtain ⟨rfl, N3q, K3, V3⟩ := hQ3
  have N3 := Fr.app N0 N3q
  refine own_w (T' := T3) (g' := (mkF m 39 #[.val (.ref a), .val (.ref ac), .val (.int (0 : Int32)), .val (.int (1 : Int32)), .val .null, .unset] [(.ref h0.size)])) st3 ?_
  have Z3 : n0 ≤ h3.size := Nat.le_trans Z0 K3.1
  refine own_w (T' := T3) (g' := (mkF m 41 #[.val (.ref a), .val (.ref ac), .val (.int (0 : Int32)), .val (.int (1 : Int32)), .val .null, .val (.ref h0.size)] [])) (fun _ k_ => XS.astore X3.here hx rfl (hb hby own_d3_39) rfl rfl (l' := #[.val (.ref a), .val (.ref ac), .val (.int (0 : Int32)), .val (.int (1 : Int32)), .val .null, .val (.ref h0.size)]) rfl k_) ?_
  refine own_w (T' := T3) (g' := (mkF m 42 #[.val (.ref a), .val (.ref ac), .val (.int (0 : Int32)), .val (.int (1 : Int32)), .val .null, .val (.ref h0.size)] [(.ref a)])) (fun _ k_ => XS.aloadN X3.here hx rfl (hb hby own_d3_41) rfl rfl k_) ?_
  refine own_w (T' := T3) (g' := (mkF m 44 #[.val (.ref a), .val (.ref ac), .val (.int (0 : Int32)), .val (.int (1 : Int32)), .val .null, .val (.ref h0.size)] [(.ref h0.size), (.ref a)])) (fun _ k_ => XS.aload X3.here hx rfl (hb hby own_d3_42) rfl rfl k_) ?_
  refine own_w (T' := T3) (g' := (mkF m 45 #[.val (.ref a), .val (.ref ac), .val (.int (0 : Int32)), .val (.int (1 : Int32)), .val .null, .val (.ref h0.size)] [(.int (1 : Int32)), (.ref h0.size), (.ref a)])) (fun _ k_ => XS.iloadN X3.here hx rfl (hb hby own_d3_44) rfl k_) ?_
  obtain ⟨_, _, ⟨T4, L4, k4, n4⟩, -, X4, ⟨Lc4, hQ4, l4, y4, z4⟩, st4⟩ := Jvm.LawKit.callS X3 hx (y := (⟨"java/lang/StringUTF16", "coderFromArrayLen", "([BI)B"⟩ : MethodName)) hown (mvT hZ (hw _ (List.mem_of_getElem? (i := 60) rfl))) (mvT hZ (hw _ (List.mem_of_getElem? (i := 61) rfl))) (mvT hZ (hw _ (List.mem_of_getElem? (i := 55) rfl))) (mvT hZ (hw _ (List.mem_of_getElem? (i := 62) rfl))) (by decide) (backOf (W := 1) (own_rm11_1 l Z a0 hw [] h0.size _ h3 n0 Z3 V3 rfl) hZ (hw _ (List.mem_of_getElem? (i := 62) rfl)) (hw _ (List.mem_of_getElem? (i := 55) rfl)) (by decide) (by decide)) (g := (mkF m 45 #[.val (.ref a), .val (.ref ac), .val (.int (0 : Int32)), .val (.int (1 : Int32)), .val .null, .val (.ref h0.size)] [(.int (1 : Int32)), (.ref h0.size), (.ref a)])) rfl (by rw [hml]; rfl) (argsL := [(.ref h0.size), (.int (1 : Int32))]) (rest := [(.ref a)]) (lenOf own_pd2 rfl) rfl (by show 2 * 0 + _ ≤ _; exact Nat.le_of_eq rfl) (hb hby own_d3_45) (fun _ _ => ⟨rfl, e3, (by decide : 1 + 0 ≤ _), (by decide : 1 + 0 ≤ _)⟩)
  dsimp only [Pt.U, Pt.locs, Pt.cells, Pt.slots] at X4 l4 y4 z4 st4 hQ4
  subst l4 y4 z4
  obtain ⟨rfl, N4q, e4⟩ := hQ4
  have N4 := Fr.app N3 N4q
  refine own_w (T' := T4) (g' := (mkF m 48 #[.val (.ref a), .val (.ref ac), .val (.int (0 : Int32)), .val (.int (1 : Int32)), .val .null, .val (.ref h0.size)] [(.int (0 : Int32)), (.ref a)])) st4 ?_
  have ne : h0.size ≠ a := Nat.ne_of_gt E.lt
  obtain ⟨T5, h5, X5, e5, W5, st5⟩ := putFN X4 hx hZ hown (hw _ (List.mem_of_getElem? (i := 25) rfl)) Via.refl e4 (G.keep K3 (by simp)) (E.keep K3) (Or.inr ⟨(hw _ (List.mem_of_getElem? (i := 21) rfl)), rfl, hnm⟩) (hw _ (List.mem_of_getElem? (i := 6) rfl)) (ty := .byte) (v' := (.int (0 : Int32))) (by decide) rfl rfl (g := (mkF m 48 #[.val (.ref a), .val (.ref ac), .val (.int (0 : Int32)), .val (.int (1 : Int32)), .val .null, .val (.ref h0.size)] [(.int (0 : Int32)), (.ref a)])) rfl rfl (hb hby own_d3_48)
  have N5 := Fr.snoc X5 N4 g_a
  refine own_w (T' := T5) (g' := (mkF m 51 #[.val (.ref a), .val (.ref ac), .val (.int (0 : Int32)), .val (.int (1 : Int32)), .val .null, .val (.ref h0.size)] [])) st5 ?_
  refine own_w (T' := T5) (g' := (mkF m 52 #[.val (.ref a), .val (.ref ac), .val (.int (0 : Int32)), .val (.int (1 : Int32)), .val .null, .val (.ref h0.size)] [(.ref a)])) (fun _ k_ => XS.aloadN X5.here hx rfl (hb hby own_d3_51) rfl rfl k_) ?_
  refine own_w (T' := T5) (g' := (mkF m 54 #[.val (.ref a), .val (.ref ac), .val (.int (0 : Int32)), .val (.int (1 : Int32)), .val .null, .val (.ref h0.size)] [(.ref h0.size), (.ref a)])) (fun _ k_ => XS.aload X5.here hx rfl (hb hby own_d3_52) rfl rfl k_) ?_
  have F5 := (F.keep K3 (by simp)).other W5 (Or.inr (slot_ne (Or.inr (hw _ (List.mem_of_getElem? (i := 20) rfl))) (Or.inr (hw _ (List.mem_of_getElem? (i := 21) rfl))) (by decide) (t := (.array .byte)) (t' := .byte) (by decide) (by decide)))
  have G5 := (G.keep K3 (by simp)).same W5
  obtain ⟨T6, h6, X6, e6, W6, st6⟩ := putF X5 hx hZ hown (host := "") (Or.inl (hw _ (List.mem_of_getElem? (i := 24) rfl))) Via.refl e5 F5 ((E.keep K3).wr W5) (Or.inr ⟨(hw _ (List.mem_of_getElem? (i := 20) rfl)), rfl, hnm⟩) (hw _ (List.mem_of_getElem? (i := 6) rfl)) (ty := (.array .byte)) (by decide) rfl rfl (g := (mkF m 54 #[.val (.ref a), .val (.ref ac), .val (.int (0 : Int32)), .val (.int (1 : Int32)), .val .null, .val (.ref h0.size)] [(.ref h0.size), (.ref a)])) rfl rfl (hb hby own_d3_54)
  have N6 := Fr.snoc X6 N5 g_a
  refine own_w (T' := T6) (g' := (mkF m 57 #[.val (.ref a), .val (.ref ac), .val (.int (0 : Int32)), .val (.int (1 : Int32)), .val .null, .val (.ref h0.size)] [])) st6 ?_
  obtain ⟨fs, hr, hrun, hended, hW, hsame⟩ := X6.leave (v := none) (fun _ => rfl)
  exact ⟨_, _, X6.returnOut hx Bd.returns (hb hby own_d3_57) hr, hrun, hended, _, _, rfl, (by show own_Q3_1 Z a ac u u2 cs c0 h0 n0 _ T6.heap _; rw [e6]; exact ⟨rfl, N6, ((Keep.trans (ws := [a]) (Keep.refl h0 [a]) K3 (fun x hx => by cases hx)).wr W5 (Or.inl (List.mem_singleton.mpr rfl))).wr W6 (Or.inl (List.mem_singleton.mpr rfl)), ⟨((E.keep K3).wr W5).wr W6, G5.other W6 (Or.inr (slot_ne (Or.inr (hw _ (List.mem_of_getElem? (i := 21) rfl))) (Or.inr (hw _ (List.mem_of_getElem? (i := 20) rfl))) (by decide) (t := .byte) (t' := (.array .byte)) (by decide) (by decide))), _, F5.same W6, own_Ar_other (own_Ar_other V3 W5 ne) W6 ne⟩⟩), ⟨_, rfl⟩, hW, hsame.mono (by decide) (by decide)⟩
theorem own_d2_0 : decode jdk_42_method_3_code 0 = .ok (.aload_n 0, 1) := by decide +kernel
theorem own_d2_1 : decode jdk_42_method_3_code 1 = .ok (.aload_n 1, 1) := by decide +kernel
theorem own_d2_2 : decode jdk_42_method_3_code 2 = .ok (.iconst 0, 1) := by decide +kernel
theorem own_d2_3 : decode jdk_42_method_3_code 3 = .ok (.aload_n 1, 1) := by decide +kernel
theorem own_d2_4 : decode jdk_42_method_3_code 4 = .ok (.arraylength, 1) := by decide +kernel
theorem own_d2_5 : decode jdk_42_method_3_code 5 = .ok (.aconst_null, 1) := by decide +kernel
theorem own_d2_6 : decode jdk_42_method_3_code 6 = .ok (.invokespecial 27, 3) := by decide +kernel
theorem own_pd3 : parseMethodDescriptor "([CIILjava/lang/Void;)V" = some ⟨[(.array .char), .int, .int, (.object "java/lang/Void")], none⟩ := by decide +kernel
theorem own_d2_9 : decode jdk_42_method_3_code 9 = .ok (.return_, 1) := by decide +kernel
theorem own_rm2_1_ef (m : MethodId) (a : Addr) (ac : Addr) : entryFrame m #[(.ref a), (.ref ac)] 2 = mkF m 0 #[.val (.ref a), .val (.ref ac)] [] := by first | (simp [entryFrame, mkF, argsToLocals, Value.category]; done) | rfl
def own_Q2_1 (Z : State) (a : Addr) (ac : Addr) (u : Value) (u2 : Value) (cs : Int32) (c0 : Int32) (h0 : Heap) (n0 : Nat) (v_ : Option Value) (h : Heap) (L_ : List Loc) : Prop := v_ = none ∧ Fr n0 L_ ∧ (Keep h0 h [a]) ∧ (own_Str Z h a [c0.toInt8.toInt32])
set_option maxRecDepth 65536 in
set_option maxHeartbeats 40000000 in
theorem own_rm2_1 (l : Launch) (Z : State) (a0 : Array Value) (hw : ∀ d ∈ tables_1, d.before a0 Z = true) (ws : List Jvm.Cond) (a : Addr) (ac : Addr) (u : Value) (u2 : Value) (cs : Int32) (c0 : Int32) (h0 : Heap) (n0 : Nat) (Z0 : n0 ≤ h0.size) (F : Fld Z h0 a "java/lang/String" "value" "[B" u) (G : Fld Z h0 a "java/lang/String" "coder" "B" u2) (E : Exa Z h0 a "java/lang/String") (g_a : n0 ≤ a) (Va : own_Ar Z h0 ac .char [c0]) (hcs : ¬ cs = (0 : Int32)) (S : Sta Z h0 "java/lang/String" "COMPACT_STRINGS" "Z" (.int cs)) (hc0 : ¬ (255 : Int32) < c0) :
    MetFree l (⟨"java/lang/String", "<init>", "([C)V"⟩ : MethodName) (head1 (Jvm.Cond.code (⟨"java/lang/String", "<init>", "([C)V"⟩ : MethodName) jdk_42_method_3_code 2 none :: ws) ({ frames := 3, cells := 1, slots := 1, locals := 52 } : Room)) (fun a_ U_ => a_ = #[(.ref a), (.ref ac)] ∧ Z.Warmed39 U_.vm ∧ U_.heap = h0) (fun _ _ _ _ _ => True) (fun _ U_ o_ V_ => ∃ v_ L_, o_ = .returned v_ ∧ own_Q2_1 Z a ac u u2 cs c0 h0 n0 v_ V_.heap L_ ∧ FrameEnd U_ o_ V_ L_ ({ frames := 3, cells := 1, slots := 1, locals := 52 } : Room).cells ({ frames := 3, cells := 1, slots := 1, locals := 52 } : Room).slots) := by
  refine MetFree.of_bodySF (plainFor_of_name own_pn_java_lang_String) hisR ?_
  intro p e s m args below meth c s₁ Bd hml0 hP hK
  obtain ⟨rfl, hZ, hh⟩ := hP
  have hx := Bd.exec
  have hby := Bd.bytes
  have hml : c.maxLocals = 2 := hml0
  have hown : s.vm.findClass "java/lang/String" = some m.cls := findClass_of_methodNamed Bd.named
  have hnm := (name_of_methodNamed Bd.named Bd.method).1
  have X0 : Stand p l e ({ frames := 3, cells := 1, slots := 1, locals := 52 } : Room) s m #[(.ref a), (.ref ac)] below meth c s₁ [] 0 0 := Stand.of_body Bd
  have e0 : s₁.heap = h0 := by rw [← hh, Bd.state]; rfl
  have N0 := Fr.nil n0
  show own_G p e below s (own_Q2_1 Z a ac u u2 cs c0 h0 n0) ({ frames := 3, cells := 1, slots := 1, locals := 52 } : Room).cells ({ frames := 3, cells := 1, slots := 1, locals := 52 } : Room).slots s₁ (entryFrame m #[(.ref a), (.ref ac)] 2)
  rw [own_rm2_1_ef]
  refine own_w (T' := s₁) (g' := (mkF m 1 #[.val (.ref a), .val (.ref ac)] [(.ref a)])) (fun _ k_ => XS.aloadN X0.here hx rfl (hb hby own_d2_0) rfl rfl k_) ?_
  refine own_w (T' := s₁) (g' := (mkF m 2 #[.val (.ref a), .val (.ref ac)] [(.ref ac), (.ref a)])) (fun _ k_ => XS.aloadN X0.here hx rfl (hb hby own_d2_1) rfl rfl k_) ?_
  refine own_w (T' := s₁) (g' := (mkF m 3 #[.val (.ref a), .val (.ref ac)] [(.int (0 : Int32)), (.ref ac), (.ref a)])) (fun _ k_ => XS.iconst X0.here hx rfl (hb hby own_d2_2) k_) ?_
  refine own_w (T' := s₁) (g' := (mkF m 4 #[.val (.ref a), .val (.ref ac)] [(.ref ac), (.int (0 : Int32)), (.ref ac), (.ref a)])) (fun _ k_ => XS.aloadN X0.here hx rfl (hb hby own_d2_3) rfl rfl k_) ?_
  obtain ⟨cl1, Ar1, hs1⟩ := id Va
  have hl1 : cl1.slots.size.toInt32 = (1 : Int32) := by rw [hs1]; rfl
  refine own_w (T' := s₁) (g' := (mkF m 5 #[.val (.ref a), .val (.ref ac)] [(.int (1 : Int32)), (.int (0 : Int32)), (.ref ac), (.ref a)])) (fun t_ k_ => X0.arraylength hx (by rw [e0]; exact Ar1.1) (State.isArrayOf_alike hZ.alike Ar1.2.1) (g := (mkF m 4 #[.val (.ref a), .val (.ref ac)] [(.ref ac), (.int (0 : Int32)), (.ref ac), (.ref a)])) rfl rfl (hb hby own_d2_4) t_ (by rw [hl1]; exact k_)) ?_
  refine own_w (T' := s₁) (g' := (mkF m 6 #[.val (.ref a), .val (.ref ac)] [.null, (.int (1 : Int32)), (.int (0 : Int32)), (.ref ac), (.ref a)])) (fun _ k_ => XS.aconstNull X0.here hx rfl (hb hby own_d2_5) k_) ?_
  obtain ⟨_, _, ⟨T2, L2, k2, n2⟩, -, X2, ⟨Lc2, hQ2, l2, y2, z2⟩, st2⟩ := X0.specialBack hx (y := (⟨"java/lang/String", "<init>", "([CIILjava/lang/Void;)V"⟩ : MethodName)) rfl hown (mvT hZ (hw _ (List.mem_of_getElem? (i := 11) rfl))) (mvT hZ (hw _ (List.mem_of_getElem? (i := 12) rfl))) (mvT hZ (hw _ (List.mem_of_getElem? (i := 14) rfl))) (by decide) (backOf (W := 0) (own_rm3_1 l Z a0 hw [] a ac _ _ cs c0 h0 n0 Z0 F G E g_a Va hcs S hc0) hZ (hw _ (List.mem_of_getElem? (i := 14) rfl)) (hw _ (List.mem_of_getElem? (i := 7) rfl)) (by decide) (by decide)) (g := (mkF m 6 #[.val (.ref a), .val (.ref ac)] [.null, (.int (1 : Int32)), (.int (0 : Int32)), (.ref ac), (.ref a)])) rfl (by rw [hml]; rfl) (Steps.refl _) (a := a) (argsL := [(.ref ac), (.int (0 : Int32)), (.int (1 : Int32)), .null]) (rest := []) (lenOf own_pd3 rfl) rfl (by show 2 * 0 + _ ≤ _; exact Nat.le_of_eq rfl) (hb hby own_d2_6) (fun _ _ => ⟨rfl, e0, (by decide : 0 + 1 ≤ _), (by decide : 0 + 1 ≤ _)⟩)
  dsimp only [Pt.U, Pt.locs, Pt.cells, Pt.slots] at X2 l2 y2 z2 st2 hQ2
  subst l2 y2 z2
  obtain ⟨h2, e2⟩ : ∃ h, T2.heap = h := ⟨_, rfl⟩
  rw [e2] at hQ2
  obtain ⟨rfl, N2q, K2, Q2⟩ := hQ2
  have N2 := Fr.app N0 N2q
  refine own_t (T' := T2) (g' := (mkF m 9 #[.val (.ref a), .val (.ref ac)] [])) st2 ?_
  obtain ⟨fs, hr, hrun, hended, hW, hsame⟩ := X2.leave (v := none) (fun _ => rfl)
  exact ⟨_, _, X2.returnOut hx Bd.returns (hb hby own_d2_9) hr, hrun, hended, _, _, rfl, (by show own_Q2_1 Z a ac u u2 cs c0 h0 n0 _ T2.heap _; rw [e2]; exact ⟨rfl, N2, K2, Q2⟩), ⟨_, rfl⟩, hW, hsame.mono (by decide) (by decide)⟩
theorem own_rm10_2_ef (m : MethodId) (ac : Addr) (ab : Addr) : entryFrame m #[(.ref ac), (.int (0 : Int32)), (.ref ab), (.int (0 : Int32)), (.int (2 : Int32))] 7 = mkF m 0 #[.val (.ref ac), .val (.int (0 : Int32)), .val (.ref ab), .val (.int (0 : Int32)), .val (.int (2 : Int32)), .unset, .unset] [] := by first | (simp [entryFrame, mkF, argsToLocals, Value.category]; done) | rfl
def own_Q10_2 (Z : State) (ac : Addr) (ab : Addr) (c0 : Int32) (c1 : Int32) (h0 : Heap) (n0 : Nat) (v_ : Option Value) (h : Heap) (L_ : List Loc) : Prop := v_ = some (.int (2 : Int32)) ∧ Fr n0 L_ ∧ (Keep h0 h [ab]) ∧ (own_Ar Z h ab .byte [c0.toInt8.toInt32, c1.toInt8.toInt32])
set_option maxRecDepth 65536 in
set_option maxHeartbeats 40000000 in
theorem own_rm10_2 (l : Launch) (Z : State) (a0 : Array Value) (hw : ∀ d ∈ tables_1, d.before a0 Z = true) (ws : List Jvm.Cond) (ac : Addr) (ab : Addr) (c0 : Int32) (c1 : Int32) (h0 : Heap) (n0 : Nat) (Z0 : n0 ≤ h0.size) (Va : own_Ar Z h0 ac .char [c0, c1]) (Vb : own_Ar Z h0 ab .byte (List.replicate 2 0)) (ne : ac ≠ ab) (g_ab : n0 ≤ ab) (hc0 : ¬ (255 : Int32) < c0) (hc1 : ¬ (255 : Int32) < c1) :
    MetFree l (⟨"java/lang/StringUTF16", "compress", "([CI[BII)I"⟩ : MethodName) (head1 (Jvm.Cond.code (⟨"java/lang/StringUTF16", "compress", "([CI[BII)I"⟩ : MethodName) jdk_52_method_21_code 7 (some .int) :: ws) ({ frames := 0, cells := 0, slots := 0, locals := 0 } : Room)) (fun a_ U_ => a_ = #[(.ref ac), (.int (0 : Int32)), (.ref ab), (.int (0 : Int32)), (.int (2 : Int32))] ∧ Z.Warmed39 U_.vm ∧ U_.heap = h0) (fun _ _ _ _ _ => True) (fun _ U_ o_ V_ => ∃ v_ L_, o_ = .returned v_ ∧ own_Q10_2 Z ac ab c0 c1 h0 n0 v_ V_.heap L_ ∧ FrameEnd U_ o_ V_ L_ ({ frames := 0, cells := 0, slots := 0, locals := 0 } : Room).cells ({ frames := 0, cells := 0, slots := 0, locals := 0 } : Room).slots) := by
  refine MetFree.of_bodySF (plainFor_of_name own_pn_java_lang_StringUTF16) hisR ?_
  intro p e s m args below meth c s₁ Bd hml0 hP hK
  obtain ⟨rfl, hZ, hh⟩ := hP
  have hx := Bd.exec
  have hby := Bd.bytes
  have hml : c.maxLocals = 7 := hml0
  have hown : s.vm.findClass "java/lang/StringUTF16" = some m.cls := findClass_of_methodNamed Bd.named
  have hnm := (name_of_methodNamed Bd.named Bd.method).1
  have X0 : Stand p l e ({ frames := 0, cells := 0, slots := 0, locals := 0 } : Room) s m #[(.ref ac), (.int (0 : Int32)), (.ref ab), (.int (0 : Int32)), (.int (2 : Int32))] below meth c s₁ [] 0 0 := Stand.of_body Bd
  have e0 : s₁.heap = h0 := by rw [← hh, Bd.state]; rfl
  have N0 := Fr.nil n0
  show own_G p e below s (own_Q10_2 Z ac ab c0 c1 h0 n0) ({ frames := 0, cells := 0, slots := 0, locals := 0 } : Room).cells ({ frames := 0, cells := 0, slots := 0, locals := 0 } : Room).slots s₁ (entryFrame m #[(.ref ac), (.int (0 : Int32)), (.ref ab), (.int (0 : Int32)), (.int (2 : Int32))] 7)
  rw [own_rm10_2_ef]
  refine own_w (T' := s₁) (g' := (mkF m 1 #[.val (.ref ac), .val (.int (0 : Int32)), .val (.ref ab), .val (.int (0 : Int32)), .val (.int (2 : Int32)), .unset, .unset] [(.int (0 : Int32))])) (fun _ k_ => XS.iconst X0.here hx rfl (hb hby own_d10_0) k_) ?_
  refine own_w (T' := s₁) (g' := (mkF m 3 #[.val (.ref ac), .val (.int (0 : Int32)), .val (.ref ab), .val (.int (0 : Int32)), .val (.int (2 : Int32)), .val (.int (0 : Int32)), .unset] [])) (fun _ k_ => XS.istore X0.here hx rfl (hb hby own_d10_1) rfl (l' := #[.val (.ref ac), .val (.int (0 : Int32)), .val (.ref ab), .val (.int (0 : Int32)), .val (.int (2 : Int32)), .val (.int (0 : Int32)), .unset]) rfl k_) ?_
  refine own_w (T' := s₁) (g' := (mkF m 5 #[.val (.ref ac), .val (.int (0 : Int32)), .val (.ref ab), .val (.int (0 : Int32)), .val (.int (2 : Int32)), .val (.int (0 : Int32)), .unset] [(.int (0 : Int32))])) (fun _ k_ => XS.iload X0.here hx rfl (hb hby own_d10_3) rfl k_) ?_
  refine own_w (T' := s₁) (g' := (mkF m 7 #[.val (.ref ac), .val (.int (0 : Int32)), .val (.ref ab), .val (.int (0 : Int32)), .val (.int (2 : Int32)), .val (.int (0 : Int32)), .unset] [(.int (2 : Int32)), (.int (0 : Int32))])) (fun _ k_ => XS.iload X0.here hx rfl (hb hby own_d10_5) rfl k_) ?_
  refine own_w (T' := s₁) (g' := (mkF m 10 #[.val (.ref ac), .val (.int (0 : Int32)), .val (.ref ab), .val (.int (0 : Int32)), .val (.int (2 : Int32)), .val (.int (0 : Int32)), .unset] [])) (fun _ k_ => XS.icmpNo X0.here hx rfl (hb hby own_d10_7) rfl (tlt (by decide)).2.1 k_) ?_
  refine own_w (T' := s₁) (g' := (mkF m 11 #[.val (.ref ac), .val (.int (0 : Int32)), .val (.ref ab), .val (.int (0 : Int32)), .val (.int (2 : Int32)), .val (.int (0 : Int32)), .unset] [(.ref ac)])) (fun _ k_ => XS.aloadN X0.here hx rfl (hb hby own_d10_10) rfl rfl k_) ?_
  refine own_w (T' := s₁) (g' := (mkF m 12 #[.val (.ref ac), .val (.int (0 : Int32)), .val (.ref ab), .val (.int (0 : Int32)), .val (.int (2 : Int32)), .val (.int (0 : Int32)), .unset] [(.int (0 : Int32)), (.ref ac)])) (fun _ k_ => XS.iloadN X0.here hx rfl (hb hby own_d10_11) rfl k_) ?_
  obtain ⟨cl1, Ar1, hs1⟩ := id Va
  refine own_w (T' := s₁) (g' := (mkF m 13 #[.val (.ref ac), .val (.int (0 : Int32)), .val (.ref ab), .val (.int (0 : Int32)), .val (.int (2 : Int32)), .val (.int (0 : Int32)), .unset] [(.int c0)])) (fun t_ k_ => X0.caload hx (j := (0 : Int32)) (v := .int c0) (by rw [e0]; exact Ar1.1) (State.isArrayOf_alike hZ.alike Ar1.2.1) Ar1.2.2 (own_Ar_in (i := 0) hs1 (by decide) (own_get_lt (show _ = some c0 from rfl))) (own_Ar_at (i := 0) hs1 (by decide) (show _ = some c0 from rfl)) (g := (mkF m 12 #[.val (.ref ac), .val (.int (0 : Int32)), .val (.ref ab), .val (.int (0 : Int32)), .val (.int (2 : Int32)), .val (.int (0 : Int32)), .unset] [(.int (0 : Int32)), (.ref ac)])) rfl rfl (hb hby own_d10_12) t_ k_) ?_
  refine own_w (T' := s₁) (g' := (mkF m 15 #[.val (.ref ac), .val (.int (0 : Int32)), .val (.ref ab), .val (.int (0 : Int32)), .val (.int (2 : Int32)), .val (.int (0 : Int32)), .val (.int c0)] [])) (fun _ k_ => XS.istore X0.here hx rfl (hb hby own_d10_13) rfl (l' := #[.val (.ref ac), .val (.int (0 : Int32)), .val (.ref ab), .val (.int (0 : Int32)), .val (.int (2 : Int32)), .val (.int (0 : Int32)), .val (.int c0)]) rfl k_) ?_
  refine own_w (T' := s₁) (g' := (mkF m 17 #[.val (.ref ac), .val (.int (0 : Int32)), .val (.ref ab), .val (.int (0 : Int32)), .val (.int (2 : Int32)), .val (.int (0 : Int32)), .val (.int c0)] [(.int c0)])) (fun _ k_ => XS.iload X0.here hx rfl (hb hby own_d10_15) rfl k_) ?_
  refine own_w (T' := s₁) (g' := (mkF m 20 #[.val (.ref ac), .val (.int (0 : Int32)), .val (.ref ab), .val (.int (0 : Int32)), .val (.int (2 : Int32)), .val (.int (0 : Int32)), .val (.int c0)] [(.int (255 : Int32)), (.int c0)])) (fun _ k_ => XS.sipush X0.here hx rfl (hb hby own_d10_17) k_) ?_
  refine own_w (T' := s₁) (g' := (mkF m 26 #[.val (.ref ac), .val (.int (0 : Int32)), .val (.ref ab), .val (.int (0 : Int32)), .val (.int (2 : Int32)), .val (.int (0 : Int32)), .val (.int c0)] [])) (fun _ k_ => XS.icmpYes X0.here hx rfl (pc0 := 20) (pc' := 26) rfl (hb hby own_d10_20) rfl (flt hc0).2.2.2 (by decide) (by decide) k_) ?_
  refine own_w (T' := s₁) (g' := (mkF m 27 #[.val (.ref ac), .val (.int (0 : Int32)), .val (.ref ab), .val (.int (0 : Int32)), .val (.int (2 : Int32)), .val (.int (0 : Int32)), .val (.int c0)] [(.ref ab)])) (fun _ k_ => XS.aloadN X0.here hx rfl (hb hby own_d10_26) rfl rfl k_) ?_
  refine own_w (T' := s₁) (g' := (mkF m 28 #[.val (.ref ac), .val (.int (0 : Int32)), .val (.ref ab), .val (.int (0 : Int32)), .val (.int (2 : Int32)), .val (.int (0 : Int32)), .val (.int c0)] [(.int (0 : Int32)), (.ref ab)])) (fun _ k_ => XS.iloadN X0.here hx rfl (hb hby own_d10_27) rfl k_) ?_
  refine own_w (T' := s₁) (g' := (mkF m 30 #[.val (.ref ac), .val (.int (0 : Int32)), .val (.ref ab), .val (.int (0 : Int32)), .val (.int (2 : Int32)), .val (.int (0 : Int32)), .val (.int c0)] [(.int c0), (.int (0 : Int32)), (.ref ab)])) (fun _ k_ => XS.iload X0.here hx rfl (hb hby own_d10_28) rfl k_) ?_
  refine own_w (T' := s₁) (g' := (mkF m 31 #[.val (.ref ac), .val (.int (0 : Int32)), .val (.ref ab), .val (.int (0 : Int32)), .val (.int (2 : Int32)), .val (.int (0 : Int32)), .val (.int c0)] [(.int (c0.toInt8.toInt32)), (.int (0 : Int32)), (.ref ab)])) (fun _ k_ => XS.i2b X0.here hx rfl (hb hby own_d10_30) rfl k_) ?_
  obtain ⟨cl2, Ar2, hs2⟩ := id Vb
  obtain ⟨T2, h2, X2, e2, W2, st2⟩ := stB X0 hx hZ e0 Ar2 (j := (0 : Int32)) (own_Ar_in (i := 0) hs2 (by decide) (by simp)) (g := (mkF m 31 #[.val (.ref ac), .val (.int (0 : Int32)), .val (.ref ab), .val (.int (0 : Int32)), .val (.int (2 : Int32)), .val (.int (0 : Int32)), .val (.int c0)] [(.int (c0.toInt8.toInt32)), (.int (0 : Int32)), (.ref ab)])) rfl rfl (hb hby own_d10_31)
  have V2 := own_Ar_set (i := 0) Vb W2 (by decide) (own_n8 _)
  have N2 := Fr.snoc X2 N0 g_ab
  have Z2 : n0 ≤ h2.size := Nat.le_trans Z0 (Keep.of_wr W2).1
  refine own_w (T' := T2) (g' := (mkF m 32 #[.val (.ref ac), .val (.int (0 : Int32)), .val (.ref ab), .val (.int (0 : Int32)), .val (.int (2 : Int32)), .val (.int (0 : Int32)), .val (.int c0)] [])) st2 ?_
  have Va2 := own_Ar_other Va W2 ne
  have K2 := (Keep.refl h0 [ab]).wr W2 (Or.inl (List.mem_singleton.mpr rfl))
  refine own_w (T' := T2) (g' := (mkF m 35 #[.val (.ref ac), .val (.int (1 : Int32)), .val (.ref ab), .val (.int (0 : Int32)), .val (.int (2 : Int32)), .val (.int (0 : Int32)), .val (.int c0)] [])) (fun _ k_ => XS.iinc X2.here hx rfl (hb hby own_d10_32) rfl (l' := #[.val (.ref ac), .val (.int (1 : Int32)), .val (.ref ab), .val (.int (0 : Int32)), .val (.int (2 : Int32)), .val (.int (0 : Int32)), .val (.int c0)]) rfl k_) ?_
  refine own_w (T' := T2) (g' := (mkF m 38 #[.val (.ref ac), .val (.int (1 : Int32)), .val (.ref ab), .val (.int (1 : Int32)), .val (.int (2 : Int32)), .val (.int (0 : Int32)), .val (.int c0)] [])) (fun _ k_ => XS.iinc X2.here hx rfl (hb hby own_d10_35) rfl (l' := #[.val (.ref ac), .val (.int (1 : Int32)), .val (.ref ab), .val (.int (1 : Int32)), .val (.int (2 : Int32)), .val (.int (0 : Int32)), .val (.int c0)]) rfl k_) ?_
  refine own_w (T' := T2) (g' := (mkF m 41 #[.val (.ref ac), .val (.int (1 : Int32)), .val (.ref ab), .val (.int (1 : Int32)), .val (.int (2 : Int32)), .val (.int (1 : Int32)), .val (.int c0)] [])) (fun _ k_ => XS.iinc X2.here hx rfl (hb hby own_d10_38) rfl (l' := #[.val (.ref ac), .val (.int (1 : Int32)), .val (.ref ab), .val (.int (1 : Int32)), .val (.int (2 : Int32)), .val (.int (1 : Int32)), .val (.int c0)]) rfl k_) ?_
  refine own_w (T' := T2) (g' := (mkF m 3 #[.val (.ref ac), .val (.int (1 : Int32)), .val (.ref ab), .val (.int (1 : Int32)), .val (.int (2 : Int32)), .val (.int (1 : Int32)), .val (.int c0)] [])) (fun _ k_ => XS.goto X2.here hx rfl (pc0 := 41) (pc' := 3) rfl (hb hby own_d10_41) (by decide) (by decide) k_) ?_
  refine own_w (T' := T2) (g' := (mkF m 5 #[.val (.ref ac), .val (.int (1 : Int32)), .val (.ref ab), .val (.int (1 : Int32)), .val (.int (2 : Int32)), .val (.int (1 : Int32)), .val (.int c0)] [(.int (1 : Int32))])) (fun _ k_ => XS.iload X2.here hx rfl (hb hby own_d10_3) rfl k_) ?_
  refine own_w (T' := T2) (g' := (mkF m 7 #[.val (.ref ac), .val (.int (1 : Int32)), .val (.ref ab), .val (.int (1 : Int32)), .val (.int (2 : Int32)), .val (.int (1 : Int32)), .val (.int c0)] [(.int (2 : Int32)), (.int (1 : Int32))])) (fun _ k_ => XS.iload X2.here hx rfl (hb hby own_d10_5) rfl k_) ?_
  refine own_w (T' := T2) (g' := (mkF m 10 #[.val (.ref ac), .val (.int (1 : Int32)), .val (.ref ab), .val (.int (1 : Int32)), .val (.int (2 : Int32)), .val (.int (1 : Int32)), .val (.int c0)] [])) (fun _ k_ => XS.icmpNo X2.here hx rfl (hb hby own_d10_7) rfl (tlt (by decide)).2.1 k_) ?_
  refine own_w (T' := T2) (g' := (mkF m 11 #[.val (.ref ac), .val (.int (1 : Int32)), .val (.ref ab), .val (.int (1 : Int32)), .val (.int (2 : Int32)), .val (.int (1 : Int32)), .val (.int c0)] [(.ref ac)])) (fun _ k_ => XS.aloadN X2.here hx rfl (hb hby own_d10_10) rfl rfl k_) ?_
  refine own_w (T' := T2) (g' := (mkF m 12 #[.val (.ref ac), .val (.int (1 : Int32)), .val (.ref ab), .val (.int (1 : Int32)), .val (.int (2 : Int32)), .val (.int (1 : Int32)), .val (.int c0)] [(.int (1 : Int32)), (.ref ac)])) (fun _ k_ => XS.iloadN X2.here hx rfl (hb hby own_d10_11) rfl k_) ?_
  obtain ⟨cl3, Ar3, hs3⟩ := id Va2
  refine own_w (T' := T2) (g' := (mkF m 13 #[.val (.ref ac), .val (.int (1 : Int32)), .val (.ref ab), .val (.int (1 : Int32)), .val (.int (2 : Int32)), .val (.int (1 : Int32)), .val (.int c0)] [(.int c1)])) (fun t_ k_ => X2.caload hx (j := (1 : Int32)) (v := .int c1) (by rw [e2]; exact Ar3.1) (State.isArrayOf_alike hZ.alike Ar3.2.1) Ar3.2.2 (own_Ar_in (i := 1) hs3 (by decide) (own_get_lt (show _ = some c1 from rfl))) (own_Ar_at (i := 1) hs3 (by decide) (show _ = some c1 from rfl)) (g := (mkF m 12 #[.val (.ref ac), .val (.int (1 : Int32)), .val (.ref ab), .val (.int (1 : Int32)), .val (.int (2 : Int32)), .val (.int (1 : Int32)), .val (.int c0)] [(.int (1 : Int32)), (.ref ac)])) rfl rfl (hb hby own_d10_12) t_ k_) ?_
  refine own_w (T' := T2) (g' := (mkF m 15 #[.val (.ref ac), .val (.int (1 : Int32)), .val (.ref ab), .val (.int (1 : Int32)), .val (.int (2 : Int32)), .val (.int (1 : Int32)), .val (.int c1)] [])) (fun _ k_ => XS.istore X2.here hx rfl (hb hby own_d10_13) rfl (l' := #[.val (.ref ac), .val (.int (1 : Int32)), .val (.ref ab), .val (.int (1 : Int32)), .val (.int (2 : Int32)), .val (.int (1 : Int32)), .val (.int c1)]) rfl k_) ?_
  refine own_w (T' := T2) (g' := (mkF m 17 #[.val (.ref ac), .val (.int (1 : Int32)), .val (.ref ab), .val (.int (1 : Int32)), .val (.int (2 : Int32)), .val (.int (1 : Int32)), .val (.int c1)] [(.int c1)])) (fun _ k_ => XS.iload X2.here hx rfl (hb hby own_d10_15) rfl k_) ?_
  refine own_w (T' := T2) (g' := (mkF m 20 #[.val (.ref ac), .val (.int (1 : Int32)), .val (.ref ab), .val (.int (1 : Int32)), .val (.int (2 : Int32)), .val (.int (1 : Int32)), .val (.int c1)] [(.int (255 : Int32)), (.int c1)])) (fun _ k_ => XS.sipush X2.here hx rfl (hb hby own_d10_17) k_) ?_
  refine own_w (T' := T2) (g' := (mkF m 26 #[.val (.ref ac), .val (.int (1 : Int32)), .val (.ref ab), .val (.int (1 : Int32)), .val (.int (2 : Int32)), .val (.int (1 : Int32)), .val (.int c1)] [])) (fun _ k_ => XS.icmpYes X2.here hx rfl (pc0 := 20) (pc' := 26) rfl (hb hby own_d10_20) rfl (flt hc1).2.2.2 (by decide) (by decide) k_) ?_
  refine own_w (T' := T2) (g' := (mkF m 27 #[.val (.ref ac), .val (.int (1 : Int32)), .val (.ref ab), .val (.int (1 : Int32)), .val (.int (2 : Int32)), .val (.int (1 : Int32)), .val (.int c1)] [(.ref ab)])) (fun _ k_ => XS.aloadN X2.here hx rfl (hb hby own_d10_26) rfl rfl k_) ?_
  refine own_w (T' := T2) (g' := (mkF m 28 #[.val (.ref ac), .val (.int (1 : Int32)), .val (.ref ab), .val (.int (1 : Int32)), .val (.int (2 : Int32)), .val (.int (1 : Int32)), .val (.int c1)] [(.int (1 : Int32)), (.ref ab)])) (fun _ k_ => XS.iloadN X2.here hx rfl (hb hby own_d10_27) rfl k_) ?_
  refine own_w (T' := T2) (g' := (mkF m 30 #[.val (.ref ac), .val (.int (1 : Int32)), .val (.ref ab), .val (.int (1 : Int32)), .val (.int (2 : Int32)), .val (.int (1 : Int32)), .val (.int c1)] [(.int c1), (.int (1 : Int32)), (.ref ab)])) (fun _ k_ => XS.iload X2.here hx rfl (hb hby own_d10_28) rfl k_) ?_
  refine own_w (T' := T2) (g' := (mkF m 31 #[.val (.ref ac), .val (.int (1 : Int32)), .val (.ref ab), .val (.int (1 : Int32)), .val (.int (2 : Int32)), .val (.int (1 : Int32)), .val (.int c1)] [(.int (c1.toInt8.toInt32)), (.int (1 : Int32)), (.ref ab)])) (fun _ k_ => XS.i2b X2.here hx rfl (hb hby own_d10_30) rfl k_) ?_
  obtain ⟨cl4, Ar4, hs4⟩ := id V2
  obtain ⟨T4, h4, X4, e4, W4, st4⟩ := stB X2 hx hZ e2 Ar4 (j := (1 : Int32)) (own_Ar_in (i := 1) hs4 (by decide) (by simp)) (g := (mkF m 31 #[.val (.ref ac), .val (.int (1 : Int32)), .val (.ref ab), .val (.int (1 : Int32)), .val (.int (2 : Int32)), .val (.int (1 : Int32)), .val (.int c1)] [(.int (c1.toInt8.toInt32)), (.int (1 : Int32)), (.ref ab)])) rfl rfl (hb hby own_d10_31)
  have V4 := own_Ar_set (i := 1) V2 W4 (by decide) (own_n8 _)
  have N4 := Fr.snoc X4 N2 g_ab
  have Z4 : n0 ≤ h4.size := Nat.le_trans Z2 (Keep.of_wr W4).1
  refine own_w (T' := T4) (g' := (mkF m 32 #[.val (.ref ac), .val (.int (1 : Int32)), .val (.ref ab), .val (.int (1 : Int32)), .val (.int (2 : Int32)), .val (.int (1 : Int32)), .val (.int c1)] [])) st4 ?_
  have Va4 := own_Ar_other Va2 W4 ne
  have K4 := K2.wr W4 (Or.inl (List.mem_singleton.mpr rfl))
  refine own_w (T' := T4) (g' := (mkF m 35 #[.val (.ref ac), .val (.int (2 : Int32)), .val (.ref ab), .val (.int (1 : Int32)), .val (.int (2 : Int32)), .val (.int (1 : Int32)), .val (.int c1)] [])) (fun _ k_ => XS.iinc X4.here hx rfl (hb hby own_d10_32) rfl (l' := #[.val (.ref ac), .val (.int (2 : Int32)), .val (.ref ab), .val (.int (1 : Int32)), .val (.int (2 : Int32)), .val (.int (1 : Int32)), .val (.int c1)]) rfl k_) ?_
  refine own_w (T' := T4) (g' := (mkF m 38 #[.val (.ref ac), .val (.int (2 : Int32)), .val (.ref ab), .val (.int (2 : Int32)), .val (.int (2 : Int32)), .val (.int (1 : Int32)), .val (.int c1)] [])) (fun _ k_ => XS.iinc X4.here hx rfl (hb hby own_d10_35) rfl (l' := #[.val (.ref ac), .val (.int (2 : Int32)), .val (.ref ab), .val (.int (2 : Int32)), .val (.int (2 : Int32)), .val (.int (1 : Int32)), .val (.int c1)]) rfl k_) ?_
  refine own_w (T' := T4) (g' := (mkF m 41 #[.val (.ref ac), .val (.int (2 : Int32)), .val (.ref ab), .val (.int (2 : Int32)), .val (.int (2 : Int32)), .val (.int (2 : Int32)), .val (.int c1)] [])) (fun _ k_ => XS.iinc X4.here hx rfl (hb hby own_d10_38) rfl (l' := #[.val (.ref ac), .val (.int (2 : Int32)), .val (.ref ab), .val (.int (2 : Int32)), .val (.int (2 : Int32)), .val (.int (2 : Int32)), .val (.int c1)]) rfl k_) ?_
  refine own_w (T' := T4) (g' := (mkF m 3 #[.val (.ref ac), .val (.int (2 : Int32)), .val (.ref ab), .val (.int (2 : Int32)), .val (.int (2 : Int32)), .val (.int (2 : Int32)), .val (.int c1)] [])) (fun _ k_ => XS.goto X4.here hx rfl (pc0 := 41) (pc' := 3) rfl (hb hby own_d10_41) (by decide) (by decide) k_) ?_
  refine own_w (T' := T4) (g' := (mkF m 5 #[.val (.ref ac), .val (.int (2 : Int32)), .val (.ref ab), .val (.int (2 : Int32)), .val (.int (2 : Int32)), .val (.int (2 : Int32)), .val (.int c1)] [(.int (2 : Int32))])) (fun _ k_ => XS.iload X4.here hx rfl (hb hby own_d10_3) rfl k_) ?_
  refine own_w (T' := T4) (g' := (mkF m 7 #[.val (.ref ac), .val (.int (2 : Int32)), .val (.ref ab), .val (.int (2 : Int32)), .val (.int (2 : Int32)), .val (.int (2 : Int32)), .val (.int c1)] [(.int (2 : Int32)), (.int (2 : Int32))])) (fun _ k_ => XS.iload X4.here hx rfl (hb hby own_d10_5) rfl k_) ?_
  refine own_w (T' := T4) (g' := (mkF m 44 #[.val (.ref ac), .val (.int (2 : Int32)), .val (.ref ab), .val (.int (2 : Int32)), .val (.int (2 : Int32)), .val (.int (2 : Int32)), .val (.int c1)] [])) (fun _ k_ => XS.icmpYes X4.here hx rfl (pc0 := 7) (pc' := 44) rfl (hb hby own_d10_7) rfl (flt (by decide)).2.1 (by decide) (by decide) k_) ?_
  refine own_w (T' := T4) (g' := (mkF m 46 #[.val (.ref ac), .val (.int (2 : Int32)), .val (.ref ab), .val (.int (2 : Int32)), .val (.int (2 : Int32)), .val (.int (2 : Int32)), .val (.int c1)] [(.int (2 : Int32))])) (fun _ k_ => XS.iload X4.here hx rfl (hb hby own_d10_44) rfl k_) ?_
  obtain ⟨fs, hr, hrun, hended, hW, hsame⟩ := X4.leave (v := some (.int (2 : Int32))) (fun h => by rw [Bd.returns] at h; cases h)
  exact ⟨_, _, retOut X4 hx Bd.returns rfl (Or.inl ⟨rfl, Or.inl rfl, _, rfl⟩) (hb hby own_d10_46) hr, hrun, hended, _, _, rfl, (by show own_Q10_2 Z ac ab c0 c1 h0 n0 _ T4.heap _; rw [e4]; exact ⟨rfl, N4, K4, V4⟩), ⟨_, rfl⟩, hW, hsame.mono (by decide) (by decide)⟩
theorem own_rm9_2_ef (m : MethodId) (ac : Addr) : entryFrame m #[(.ref ac), (.int (0 : Int32)), (.int (2 : Int32))] 6 = mkF m 0 #[.val (.ref ac), .val (.int (0 : Int32)), .val (.int (2 : Int32)), .unset, .unset, .unset] [] := by first | (simp [entryFrame, mkF, argsToLocals, Value.category]; done) | rfl
def own_Q9_2 (Z : State) (ac : Addr) (c0 : Int32) (c1 : Int32) (h0 : Heap) (n0 : Nat) (v_ : Option Value) (h : Heap) (L_ : List Loc) : Prop := v_ = some (.ref h0.size) ∧ Fr n0 L_ ∧ (Keep h0 h []) ∧ (own_Ar Z h h0.size .byte [c0.toInt8.toInt32, c1.toInt8.toInt32])
set_option maxRecDepth 65536 in
set_option maxHeartbeats 40000000 in
theorem own_rm9_2 (l : Launch) (Z : State) (a0 : Array Value) (hw : ∀ d ∈ tables_1, d.before a0 Z = true) (ws : List Jvm.Cond) (ac : Addr) (c0 : Int32) (c1 : Int32) (h0 : Heap) (n0 : Nat) (Z0 : n0 ≤ h0.size) (Va : own_Ar Z h0 ac .char [c0, c1]) (hc0 : ¬ (255 : Int32) < c0) (hc1 : ¬ (255 : Int32) < c1) :
    MetFree l (⟨"java/lang/StringUTF16", "compress", "([CII)[B"⟩ : MethodName) (head1 (Jvm.Cond.code (⟨"java/lang/StringUTF16", "compress", "([CII)[B"⟩ : MethodName) jdk_52_method_16_code 6 (some (.array .byte)) :: ws) ({ frames := 1, cells := 1, slots := 2, locals := 18 } : Room)) (fun a_ U_ => a_ = #[(.ref ac), (.int (0 : Int32)), (.int (2 : Int32))] ∧ Z.Warmed39 U_.vm ∧ U_.heap = h0) (fun _ _ _ _ _ => True) (fun _ U_ o_ V_ => ∃ v_ L_, o_ = .returned v_ ∧ own_Q9_2 Z ac c0 c1 h0 n0 v_ V_.heap L_ ∧ FrameEnd U_ o_ V_ L_ ({ frames := 1, cells := 1, slots := 2, locals := 18 } : Room).cells ({ frames := 1, cells := 1, slots := 2, locals := 18 } : Room).slots) := by
  refine MetFree.of_bodySF (plainFor_of_name own_pn_java_lang_StringUTF16) hisR ?_
  intro p e s m args below meth c s₁ Bd hml0 hP hK
  obtain ⟨rfl, hZ, hh⟩ := hP
  have hx := Bd.exec
  have hby := Bd.bytes
  have hml : c.maxLocals = 6 := hml0
  have hown : s.vm.findClass "java/lang/StringUTF16" = some m.cls := findClass_of_methodNamed Bd.named
  have hnm := (name_of_methodNamed Bd.named Bd.method).1
  have X0 : Stand p l e ({ frames := 1, cells := 1, slots := 2, locals := 18 } : Room) s m #[(.ref ac), (.int (0 : Int32)), (.int (2 : Int32))] below meth c s₁ [] 0 0 := Stand.of_body Bd
  have e0 : s₁.heap = h0 := by rw [← hh, Bd.state]; rfl
  have N0 := Fr.nil n0
  show own_G p e below s (own_Q9_2 Z ac c0 c1 h0 n0) ({ frames := 1, cells := 1, slots := 2, locals := 18 } : Room).cells ({ frames := 1, cells := 1, slots := 2, locals := 18 } : Room).slots s₁ (entryFrame m #[(.ref ac), (.int (0 : Int32)), (.int (2 : Int32))] 6)
  rw [own_rm9_2_ef]
  refine own_w (T' := s₁) (g' := (mkF m 1 #[.val (.ref ac), .val (.int (0 : Int32)), .val (.int (2 : Int32)), .unset, .unset, .unset] [(.int (2 : Int32))])) (fun _ k_ => XS.iloadN X0.here hx rfl (hb hby own_d9_0) rfl k_) ?_
  obtain ⟨T1, h1, k1, X1, e1, E1, A1, st1⟩ := newP X0 hx hZ (hw _ (List.mem_of_getElem? (i := 19) rfl)) e0 (g := (mkF m 1 #[.val (.ref ac), .val (.int (0 : Int32)), .val (.int (2 : Int32)), .unset, .unset, .unset] [(.int (2 : Int32))])) rfl (hb hby own_d9_1) rfl (by decide) (cap := 2) (by decide) (by decide) (by decide) (by decide)
  obtain ⟨b1, gq1⟩ : ∃ z, z = h0.size := ⟨_, rfl⟩
  rw [← gq1] at A1 st1
  have V_b1 := own_Ar_new A1 rfl (k := 2) rfl
  have g_b1 : n0 ≤ b1 := Nat.le_trans Z0 (Nat.le_of_eq gq1.symm)
  have Z1 : n0 ≤ h1.size := Nat.le_trans Z0 E1.1
  refine own_w (T' := T1) (g' := (mkF m 3 #[.val (.ref ac), .val (.int (0 : Int32)), .val (.int (2 : Int32)), .unset, .unset, .unset] [(.ref b1)])) st1 ?_
  have ne : ac ≠ b1 := Nat.ne_of_lt (Nat.lt_of_lt_of_le (own_Ar_lt Va) (Nat.le_of_eq gq1.symm))
  refine own_w (T' := T1) (g' := (mkF m 4 #[.val (.ref ac), .val (.int (0 : Int32)), .val (.int (2 : Int32)), .val (.ref b1), .unset, .unset] [])) (fun _ k_ => XS.astoreN X1.here hx rfl (hb hby own_d9_3) rfl rfl (l' := #[.val (.ref ac), .val (.int (0 : Int32)), .val (.int (2 : Int32)), .val (.ref b1), .unset, .unset]) rfl k_) ?_
  refine own_w (T' := T1) (g' := (mkF m 5 #[.val (.ref ac), .val (.int (0 : Int32)), .val (.int (2 : Int32)), .val (.ref b1), .unset, .unset] [(.ref ac)])) (fun _ k_ => XS.aloadN X1.here hx rfl (hb hby own_d9_4) rfl rfl k_) ?_
  refine own_w (T' := T1) (g' := (mkF m 6 #[.val (.ref ac), .val (.int (0 : Int32)), .val (.int (2 : Int32)), .val (.ref b1), .unset, .unset] [(.int (0 : Int32)), (.ref ac)])) (fun _ k_ => XS.iloadN X1.here hx rfl (hb hby own_d9_5) rfl k_) ?_
  refine own_w (T' := T1) (g' := (mkF m 7 #[.val (.ref ac), .val (.int (0 : Int32)), .val (.int (2 : Int32)), .val (.ref b1), .unset, .unset] [(.ref b1), (.int (0 : Int32)), (.ref ac)])) (fun _ k_ => XS.aloadN X1.here hx rfl (hb hby own_d9_6) rfl rfl k_) ?_
  refine own_w (T' := T1) (g' := (mkF m 8 #[.val (.ref ac), .val (.int (0 : Int32)), .val (.int (2 : Int32)), .val (.ref b1), .unset, .unset] [(.int (0 : Int32)), (.ref b1), (.int (0 : Int32)), (.ref ac)])) (fun _ k_ => XS.iconst X1.here hx rfl (hb hby own_d9_7) k_) ?_
  refine own_w (T' := T1) (g' := (mkF m 9 #[.val (.ref ac), .val (.int (0 : Int32)), .val (.int (2 : Int32)), .val (.ref b1), .unset, .unset] [(.int (2 : Int32)), (.int (0 : Int32)), (.ref b1), (.int (0 : Int32)), (.ref ac)])) (fun _ k_ => XS.iloadN X1.here hx rfl (hb hby own_d9_8) rfl k_) ?_
  obtain ⟨_, _, ⟨T2, L2, k2, n2⟩, -, X2, ⟨Lc2, hQ2, l2, y2, z2⟩, st2⟩ := Jvm.LawKit.callS X1 hx (y := (⟨"java/lang/StringUTF16", "compress", "([CI[BII)I"⟩ : MethodName)) hown (mvT hZ (hw _ (List.mem_of_getElem? (i := 57) rfl))) (mvT hZ (hw _ (List.mem_of_getElem? (i := 58) rfl))) (mvT hZ (hw _ (List.mem_of_getElem? (i := 55) rfl))) (mvT hZ (hw _ (List.mem_of_getElem? (i := 59) rfl))) (by decide) (backOf (W := 0) (own_rm10_2 l Z a0 hw [] ac b1 c0 c1 h1 n0 Z1 (own_Ar_ext Va E1) V_b1 ne g_b1 hc0 hc1) hZ (hw _ (List.mem_of_getElem? (i := 59) rfl)) (hw _ (List.mem_of_getElem? (i := 55) rfl)) (by decide) (by decide)) (g := (mkF m 9 #[.val (.ref ac), .val (.int (0 : Int32)), .val (.int (2 : Int32)), .val (.ref b1), .unset, .unset] [(.int (2 : Int32)), (.int (0 : Int32)), (.ref b1), (.int (0 : Int32)), (.ref ac)])) rfl (by rw [hml]; rfl) (argsL := [(.ref ac), (.int (0 : Int32)), (.ref b1), (.int (0 : Int32)), (.int (2 : Int32))]) (rest := []) (lenOf own_pd0 rfl) rfl (by show 2 * 0 + _ ≤ _; exact Nat.le_of_eq rfl) (hb hby own_d9_9) (fun _ _ => ⟨rfl, e1, (by decide : 1 + 0 ≤ _), (by decide : 2 + 0 ≤ _)⟩)
  dsimp only [Pt.U, Pt.locs, Pt.cells, Pt.slots] at X2 l2 y2 z2 st2 hQ2
  subst l2 y2 z2
  obtain ⟨h2, e2⟩ : ∃ h, T2.heap = h := ⟨_, rfl⟩
  rw [e2] at hQ2
  obtain ⟨rfl, N2q, K2, V2⟩ := hQ2
  have N2 := Fr.app N0 N2q
  refine own_w (T' := T2) (g' := (mkF m 12 #[.val (.ref ac), .val (.int (0 : Int32)), .val (.int (2 : Int32)), .val (.ref b1), .unset, .unset] [(.int (2 : Int32))])) st2 ?_
  refine own_w (T' := T2) (g' := (mkF m 14 #[.val (.ref ac), .val (.int (0 : Int32)), .val (.int (2 : Int32)), .val (.ref b1), .val (.int (2 : Int32)), .unset] [])) (fun _ k_ => XS.istore X2.here hx rfl (hb hby own_d9_12) rfl (l' := #[.val (.ref ac), .val (.int (0 : Int32)), .val (.int (2 : Int32)), .val (.ref b1), .val (.int (2 : Int32)), .unset]) rfl k_) ?_
  refine own_w (T' := T2) (g' := (mkF m 16 #[.val (.ref ac), .val (.int (0 : Int32)), .val (.int (2 : Int32)), .val (.ref b1), .val (.int (2 : Int32)), .unset] [(.int (2 : Int32))])) (fun _ k_ => XS.iload X2.here hx rfl (hb hby own_d9_14) rfl k_) ?_
  refine own_w (T' := T2) (g' := (mkF m 17 #[.val (.ref ac), .val (.int (0 : Int32)), .val (.int (2 : Int32)), .val (.ref b1), .val (.int (2 : Int32)), .unset] [(.int (2 : Int32)), (.int (2 : Int32))])) (fun _ k_ => XS.iloadN X2.here hx rfl (hb hby own_d9_16) rfl k_) ?_
  refine own_w (T' := T2) (g' := (mkF m 57 #[.val (.ref ac), .val (.int (0 : Int32)), .val (.int (2 : Int32)), .val (.ref b1), .val (.int (2 : Int32)), .unset] [])) (fun _ k_ => XS.icmpYes X2.here hx rfl (pc0 := 17) (pc' := 57) rfl (hb hby own_d9_17) rfl (teq rfl).1 (by decide) (by decide) k_) ?_
  refine own_w (T' := T2) (g' := (mkF m 58 #[.val (.ref ac), .val (.int (0 : Int32)), .val (.int (2 : Int32)), .val (.ref b1), .val (.int (2 : Int32)), .unset] [(.ref b1)])) (fun _ k_ => XS.aloadN X2.here hx rfl (hb hby own_d9_57) rfl rfl k_) ?_
  obtain ⟨fs, hr, hrun, hended, hW, hsame⟩ := X2.leave (v := some (.ref b1)) (fun h => by rw [Bd.returns] at h; cases h)
  exact ⟨_, _, retOut X2 hx Bd.returns rfl (Or.inr (Or.inr (Or.inr (Or.inr ⟨rfl, rfl, rfl⟩)))) (hb hby own_d9_58) hr, hrun, hended, _, _, rfl, (by show own_Q9_2 Z ac c0 c1 h0 n0 _ T2.heap _; rw [e2]; exact ⟨(by rw [gq1]), N2, ((Keep.refl h0 []).ext E1).trans K2 (fun x hx => Or.inr (by rw [List.mem_singleton.mp hx]; exact Nat.le_of_eq gq1.symm)), gq1 ▸ V2⟩), ⟨_, rfl⟩, hW, hsame.mono (by decide) (by decide)⟩
theorem own_rm11_2_ef (m : MethodId) (ab : Addr) : entryFrame m #[(.ref ab), (.int (2 : Int32))] 2 = mkF m 0 #[.val (.ref ab), .val (.int (2 : Int32))] [] := by first | (simp [entryFrame, mkF, argsToLocals, Value.category]; done) | rfl
def own_Q11_2 (Z : State) (ab : Addr) (xs : List Int32) (h0 : Heap) (n0 : Nat) (v_ : Option Value) (h : Heap) (L_ : List Loc) : Prop := v_ = some (.int (0 : Int32)) ∧ Fr n0 L_ ∧ (h = h0)
set_option maxRecDepth 65536 in
set_option maxHeartbeats 40000000 in
theorem own_rm11_2 (l : Launch) (Z : State) (a0 : Array Value) (hw : ∀ d ∈ tables_1, d.before a0 Z = true) (ws : List Jvm.Cond) (ab : Addr) (xs : List Int32) (h0 : Heap) (n0 : Nat) (Z0 : n0 ≤ h0.size) (V : own_Ar Z h0 ab .byte xs) (hl : xs.length = 2) :
    MetFree l (⟨"java/lang/StringUTF16", "coderFromArrayLen", "([BI)B"⟩ : MethodName) (head1 (Jvm.Cond.code (⟨"java/lang/StringUTF16", "coderFromArrayLen", "([BI)B"⟩ : MethodName) jdk_52_method_15_code 2 (some .byte) :: ws) ({ frames := 0, cells := 0, slots := 0, locals := 0 } : Room)) (fun a_ U_ => a_ = #[(.ref ab), (.int (2 : Int32))] ∧ Z.Warmed39 U_.vm ∧ U_.heap = h0) (fun _ _ _ _ _ => True) (fun _ U_ o_ V_ => ∃ v_ L_, o_ = .returned v_ ∧ own_Q11_2 Z ab xs h0 n0 v_ V_.heap L_ ∧ FrameEnd U_ o_ V_ L_ ({ frames := 0, cells := 0, slots := 0, locals := 0 } : Room).cells ({ frames := 0, cells := 0, slots := 0, locals := 0 } : Room).slots) := by
  refine MetFree.of_bodySF (plainFor_of_name own_pn_java_lang_StringUTF16) hisR ?_
  intro p e s m args below meth c s₁ Bd hml0 hP hK
  obtain ⟨rfl, hZ, hh⟩ := hP
  have hx := Bd.exec
  have hby := Bd.bytes
  have hml : c.maxLocals = 2 := hml0
  have hown : s.vm.findClass "java/lang/StringUTF16" = some m.cls := findClass_of_methodNamed Bd.named
  have hnm := (name_of_methodNamed Bd.named Bd.method).1
  have X0 : Stand p l e ({ frames := 0, cells := 0, slots := 0, locals := 0 } : Room) s m #[(.ref ab), (.int (2 : Int32))] below meth c s₁ [] 0 0 := Stand.of_body Bd
  have e0 : s₁.heap = h0 := by rw [← hh, Bd.state]; rfl
  have N0 := Fr.nil n0
  show own_G p e below s (own_Q11_2 Z ab xs h0 n0) ({ frames := 0, cells := 0, slots := 0, locals := 0 } : Room).cells ({ frames := 0, cells := 0, slots := 0, locals := 0 } : Room).slots s₁ (entryFrame m #[(.ref ab), (.int (2 : Int32))] 2)
  rw [own_rm11_2_ef]
  refine own_w (T' := s₁) (g' := (mkF m 1 #[.val (.ref ab), .val (.int (2 : Int32))] [(.int (2 : Int32))])) (fun _ k_ => XS.iloadN X0.here hx rfl (hb hby own_d11_0) rfl k_) ?_
  refine own_w (T' := s₁) (g' := (mkF m 2 #[.val (.ref ab), .val (.int (2 : Int32))] [(.ref ab), (.int (2 : Int32))])) (fun _ k_ => XS.aloadN X0.here hx rfl (hb hby own_d11_1) rfl rfl k_) ?_
  obtain ⟨cl1, Ar1, hs1⟩ := id V
  have hl1 : cl1.slots.size.toInt32 = (2 : Int32) := by rw [hs1]; simp [hl]; decide
  refine own_w (T' := s₁) (g' := (mkF m 3 #[.val (.ref ab), .val (.int (2 : Int32))] [(.int (2 : Int32)), (.int (2 : Int32))])) (fun t_ k_ => X0.arraylength hx (by rw [e0]; exact Ar1.1) (State.isArrayOf_alike hZ.alike Ar1.2.1) (g := (mkF m 2 #[.val (.ref ab), .val (.int (2 : Int32))] [(.ref ab), (.int (2 : Int32))])) rfl rfl (hb hby own_d11_2) t_ (by rw [hl1]; exact k_)) ?_
  refine own_w (T' := s₁) (g' := (mkF m 4 #[.val (.ref ab), .val (.int (2 : Int32))] [(.int (0 : Int32))])) (fun _ k_ => XS.isub X0.here hx rfl (hb hby own_d11_3) rfl k_) ?_
  refine own_w (T' := s₁) (g' := (mkF m 6 #[.val (.ref ab), .val (.int (2 : Int32))] [(.int (31 : Int32)), (.int (0 : Int32))])) (fun _ k_ => XS.bipush X0.here hx rfl (hb hby own_d11_4) k_) ?_
  refine own_w (T' := s₁) (g' := (mkF m 7 #[.val (.ref ab), .val (.int (2 : Int32))] [(.int (((0 : Int32).toUInt32 >>> ((31 : Int32) &&& 31).toUInt32).toInt32))])) (fun _ k_ => XS.iushr X0.here hx rfl (hb hby own_d11_6) rfl k_) ?_
  refine own_w (T' := s₁) (g' := (mkF m 8 #[.val (.ref ab), .val (.int (2 : Int32))] [(.int ((((0 : Int32).toUInt32 >>> ((31 : Int32) &&& 31).toUInt32).toInt32).toInt8.toInt32))])) (fun _ k_ => XS.i2b X0.here hx rfl (hb hby own_d11_7) rfl k_) ?_
  obtain ⟨fs, hr, hrun, hended, hW, hsame⟩ := X0.leave (v := some (.int ((((0 : Int32).toUInt32 >>> ((31 : Int32) &&& 31).toUInt32).toInt32).toInt8.toInt32))) (fun h => by rw [Bd.returns] at h; cases h)
  exact ⟨_, _, retOut X0 hx Bd.returns (by decide) (Or.inl ⟨rfl, Or.inr (Or.inr (Or.inl rfl)), _, rfl⟩) (hb hby own_d11_8) hr, hrun, hended, _, _, rfl, (by show own_Q11_2 Z ab xs h0 n0 _ s₁.heap _; rw [e0]; exact ⟨rfl, N0, rfl⟩), ⟨_, rfl⟩, hW, hsame.mono (by decide) (by decide)⟩
theorem own_rm3_2_ef (m : MethodId) (a : Addr) (ac : Addr) : entryFrame m #[(.ref a), (.ref ac), (.int (0 : Int32)), (.int (2 : Int32)), .null] 6 = mkF m 0 #[.val (.ref a), .val (.ref ac), .val (.int (0 : Int32)), .val (.int (2 : Int32)), .val .null, .unset] [] := by first | (simp [entryFrame, mkF, argsToLocals, Value.category]; done) | rfl
def own_Q3_2 (Z : State) (a : Addr) (ac : Addr) (u : Value) (u2 : Value) (cs : Int32) (c0 : Int32) (c1 : Int32) (h0 : Heap) (n0 : Nat) (v_ : Option Value) (h : Heap) (L_ : List Loc) : Prop := v_ = none ∧ Fr n0 L_ ∧ (Keep h0 h [a]) ∧ (own_Str Z h a [c0.toInt8.toInt32, c1.toInt8.toInt32])
set_option maxRecDepth 65536 in
set_option maxHeartbeats 40000000 in
theorem own_rm3_2 (l : Launch) (Z : State) (a0 : Array Value) (hw : ∀ d ∈ tables_1, d.before a0 Z = true) (ws : List Jvm.Cond) (a : Addr) (ac : Addr) (u : Value) (u2 : Value) (cs : Int32) (c0 : Int32) (c1 : Int32) (h0 : Heap) (n0 : Nat) (Z0 : n0 ≤ h0.size) (F : Fld Z h0 a "java/lang/String" "value" "[B" u) (G : Fld Z h0 a "java/lang/String" "coder" "B" u2) (E : Exa Z h0 a "java/lang/String") (g_a : n0 ≤ a) (Va : own_Ar Z h0 ac .char [c0, c1]) (hcs : ¬ cs = (0 : Int32)) (S : Sta Z h0 "java/lang/String" "COMPACT_STRINGS" "Z" (.int cs)) (hc0 : ¬ (255 : Int32) < c0) (hc1 : ¬ (255 : Int32) < c1) :
    MetFree l (⟨"java/lang/String", "<init>", "([CIILjava/lang/Void;)V"⟩ : MethodName) (head1 (Jvm.Cond.code (⟨"java/lang/String", "<init>", "([CIILjava/lang/Void;)V"⟩ : MethodName) jdk_42_method_149_code 6 none :: ws) ({ frames := 2, cells := 1, slots := 2, locals := 35 } : Room)) (fun a_ U_ => a_ = #[(.ref a), (.ref ac), (.int (0 : Int32)), (.int (2 : Int32)), .null] ∧ Z.Warmed39 U_.vm ∧ U_.heap = h0) (fun _ _ _ _ _ => True) (fun _ U_ o_ V_ => ∃ v_ L_, o_ = .returned v_ ∧ own_Q3_2 Z a ac u u2 cs c0 c1 h0 n0 v_ V_.heap L_ ∧ FrameEnd U_ o_ V_ L_ ({ frames := 2, cells := 1, slots := 2, locals := 35 } : Room).cells ({ frames := 2, cells := 1, slots := 2, locals := 35 } : Room).slots) := by
  refine MetFree.of_bodySF (plainFor_of_name own_pn_java_lang_String) hisR ?_
  intro p e s m args below meth c s₁ Bd hml0 hP hK
  obtain ⟨rfl, hZ, hh⟩ := hP
  have hx := Bd.exec
  have hby := Bd.bytes
  have hml : c.maxLocals = 6 := hml0
  have hown : s.vm.findClass "java/lang/String" = some m.cls := findClass_of_methodNamed Bd.named
  have hnm := (name_of_methodNamed Bd.named Bd.method).1
  have X0 : Stand p l e ({ frames := 2, cells := 1, slots := 2, locals := 35 } : Room) s m #[(.ref a), (.ref ac), (.int (0 : Int32)), (.int (2 : Int32)), .null] below meth c s₁ [] 0 0 := Stand.of_body Bd
  have e0 : s₁.heap = h0 := by rw [← hh, Bd.state]; rfl
  have N0 := Fr.nil n0
  show own_G p e below s (own_Q3_2 Z a ac u u2 cs c0 c1 h0 n0) ({ frames := 2, cells := 1, slots := 2, locals := 35 } : Room).cells ({ frames := 2, cells := 1, slots := 2, locals := 35 } : Room).slots s₁ (entryFrame m #[(.ref a), (.ref ac), (.int (0 : Int32)), (.int (2 : Int32)), .null] 6)
  rw [own_rm3_2_ef]
  refine own_w (T' := s₁) (g' := (mkF m 1 #[.val (.ref a), .val (.ref ac), .val (.int (0 : Int32)), .val (.int (2 : Int32)), .val .null, .unset] [(.ref a)])) (fun _ k_ => XS.aloadN X0.here hx rfl (hb hby own_d3_0) rfl rfl k_) ?_
  obtain ⟨T1, X1, e1, st1⟩ := initO X0 hx hZ hown (hw _ (List.mem_of_getElem? (i := 15) rfl)) (hw _ (List.mem_of_getElem? (i := 16) rfl)) (hw _ (List.mem_of_getElem? (i := 17) rfl)) e0 (g := (mkF m 1 #[.val (.ref a), .val (.ref ac), .val (.int (0 : Int32)), .val (.int (2 : Int32)), .val .null, .unset] [(.ref a)])) rfl (by rw [hml]; rfl) rfl (hb hby own_d3_1) (by decide) (W := 0) (by show 2 * 0 + _ ≤ _; exact Nat.le_of_eq rfl) (by decide)
  refine own_w (T' := T1) (g' := (mkF m 4 #[.val (.ref a), .val (.ref ac), .val (.int (0 : Int32)), .val (.int (2 : Int32)), .val .null, .unset] [])) st1 ?_
  refine own_w (T' := T1) (g' := (mkF m 5 #[.val (.ref a), .val (.ref ac), .val (.int (0 : Int32)), .val (.int (2 : Int32)), .val .null, .unset] [(.int (2 : Int32))])) (fun _ k_ => XS.iloadN X1.here hx rfl (hb hby own_d3_4) rfl k_) ?_
  refine own_w (T' := T1) (g' := (mkF m 27 #[.val (.ref a), .val (.ref ac), .val (.int (0 : Int32)), .val (.int (2 : Int32)), .val .null, .unset] [])) (fun _ k_ => XS.ifYes X1.here hx rfl (pc0 := 5) (pc' := 27) rfl (hb hby own_d3_5) rfl ((if0 _ _).trans (feq (by decide)).2) (by decide) (by decide) k_) ?_
  obtain ⟨T2, X2, e2, st2⟩ := getS2 X1 hx hZ hown (host := "") (Or.inl (hw _ (List.mem_of_getElem? (i := 48) rfl))) Via.refl e1 S (g := (mkF m 27 #[.val (.ref a), .val (.ref ac), .val (.int (0 : Int32)), .val (.int (2 : Int32)), .val .null, .unset] [])) rfl (hb hby own_d3_27)
  refine own_w (T' := T2) (g' := (mkF m 30 #[.val (.ref a), .val (.ref ac), .val (.int (0 : Int32)), .val (.int (2 : Int32)), .val .null, .unset] [(.int cs)])) st2 ?_
  refine own_w (T' := T2) (g' := (mkF m 33 #[.val (.ref a), .val (.ref ac), .val (.int (0 : Int32)), .val (.int (2 : Int32)), .val .null, .unset] [])) (fun _ k_ => XS.ifNo X2.here hx rfl (hb hby own_d3_30) rfl ((if0 _ _).trans (feq hcs).1) k_) ?_
  refine own_w (T' := T2) (g' := (mkF m 34 #[.val (.ref a), .val (.ref ac), .val (.int (0 : Int32)), .val (.int (2 : Int32)), .val .null, .unset] [(.ref ac)])) (fun _ k_ => XS.aloadN X2.here hx rfl (hb hby own_d3_33) rfl rfl k_) ?_
  refine own_w (T' := T2) (g' := (mkF m 35 #[.val (.ref a), .val (.ref ac), .val (.int (0 : Int32)), .val (.int (2 : Int32)), .val .null, .unset] [(.int (0 : Int32)), (.ref ac)])) (fun _ k_ => XS.iloadN X2.here hx rfl (hb hby own_d3_34) rfl k_) ?_
  refine own_w (T' := T2) (g' := (mkF m 36 #[.val (.ref a), .val (.ref ac), .val (.int (0 : Int32)), .val (.int (2 : Int32)), .val .null, .unset] [(.int (2 : Int32)), (.int (0 : Int32)), (.ref ac)])) (fun _ k_ => XS.iloadN X2.here hx rfl (hb hby own_d3_35) rfl k_) ?_
  obtain ⟨_, _, ⟨T3, L3, k3, n3⟩, -, X3, ⟨Lc3, hQ3, l3, y3, z3⟩, st3⟩ := Jvm.LawKit.callS X2 hx (y := (⟨"java/lang/StringUTF16", "compress", "([CII)[B"⟩ : MethodName)) hown (mvT hZ (hw _ (List.mem_of_getElem? (i := 53) rfl))) (mvT hZ (hw _ (List.mem_of_getElem? (i := 54) rfl))) (mvT hZ (hw _ (List.mem_of_getElem? (i := 55) rfl))) (mvT hZ (hw _ (List.mem_of_getElem? (i := 56) rfl))) (by decide) (backOf (W := 0) (own_rm9_2 l Z a0 hw [] ac c0 c1 h0 n0 Z0 Va hc0 hc1) hZ (hw _ (List.mem_of_getElem? (i := 56) rfl)) (hw _ (List.mem_of_getElem? (i := 55) rfl)) (by decide) (by decide)) (g := (mkF m 36 #[.val (.ref a), .val (.ref ac), .val (.int (0 : Int32)), .val (.int (2 : Int32)), .val .null, .unset] [(.int (2 : Int32)), (.int (0 : Int32)), (.ref ac)])) rfl (by rw [hml]; rfl) (argsL := [(.ref ac), (.int (0 : Int32)), (.int (2 : Int32))]) (rest := []) (lenOf own_pd1 rfl) rfl (by show 2 * 0 + _ ≤ _; exact Nat.le_of_eq rfl) (hb hby own_d3_36) (fun _ _ => ⟨rfl, e2, (by decide : 0 + 1 ≤ _), (by decide : 0 + 2 ≤ _)⟩)
  dsimp only [Pt.U, Pt.locs, Pt.cells, Pt.slots] at X3 l3 y3 z3 st3 hQ3
  subst l3 y3 z3
  obtain ⟨h3, e3⟩ : ∃ h, T3.heap = h := ⟨_, rfl⟩
  rw [e3] at hQ3
  obtain ⟨rfl, N3q, K3, V3⟩ := hQ3
  have N3 := Fr.app N0 N3q
  refine own_w (T' := T3) (g' := (mkF m 39 #[.val (.ref a), .val (.ref ac), .val (.int (0 : Int32)), .val (.int (2 : Int32)), .val .null, .unset] [(.ref h0.size)])) st3 ?_
  have Z3 : n0 ≤ h3.size := Nat.le_trans Z0 K3.1
  refine own_w (T' := T3) (g' := (mkF m 41 #[.val (.ref a), .val (.ref ac), .val (.int (0 : Int32)), .val (.int (2 : Int32)), .val .null, .val (.ref h0.size)] [])) (fun _ k_ => XS.astore X3.here hx rfl (hb hby own_d3_39) rfl rfl (l' := #[.val (.ref a), .val (.ref ac), .val (.int (0 : Int32)), .val (.int (2 : Int32)), .val .null, .val (.ref h0.size)]) rfl k_) ?_
  refine own_w (T' := T3) (g' := (mkF m 42 #[.val (.ref a), .val (.ref ac), .val (.int (0 : Int32)), .val (.int (2 : Int32)), .val .null, .val (.ref h0.size)] [(.ref a)])) (fun _ k_ => XS.aloadN X3.here hx rfl (hb hby own_d3_41) rfl rfl k_) ?_
  refine own_w (T' := T3) (g' := (mkF m 44 #[.val (.ref a), .val (.ref ac), .val (.int (0 : Int32)), .val (.int (2 : Int32)), .val .null, .val (.ref h0.size)] [(.ref h0.size), (.ref a)])) (fun _ k_ => XS.aload X3.here hx rfl (hb hby own_d3_42) rfl rfl k_) ?_
  refine own_w (T' := T3) (g' := (mkF m 45 #[.val (.ref a), .val (.ref ac), .val (.int (0 : Int32)), .val (.int (2 : Int32)), .val .null, .val (.ref h0.size)] [(.int (2 : Int32)), (.ref h0.size), (.ref a)])) (fun _ k_ => XS.iloadN X3.here hx rfl (hb hby own_d3_44) rfl k_) ?_
  obtain ⟨_, _, ⟨T4, L4, k4, n4⟩, -, X4, ⟨Lc4, hQ4, l4, y4, z4⟩, st4⟩ := Jvm.LawKit.callS X3 hx (y := (⟨"java/lang/StringUTF16", "coderFromArrayLen", "([BI)B"⟩ : MethodName)) hown (mvT hZ (hw _ (List.mem_of_getElem? (i := 60) rfl))) (mvT hZ (hw _ (List.mem_of_getElem? (i := 61) rfl))) (mvT hZ (hw _ (List.mem_of_getElem? (i := 55) rfl))) (mvT hZ (hw _ (List.mem_of_getElem? (i := 62) rfl))) (by decide) (backOf (W := 1) (own_rm11_2 l Z a0 hw [] h0.size _ h3 n0 Z3 V3 rfl) hZ (hw _ (List.mem_of_getElem? (i := 62) rfl)) (hw _ (List.mem_of_getElem? (i := 55) rfl)) (by decide) (by decide)) (g := (mkF m 45 #[.val (.ref a), .val (.ref ac), .val (.int (0 : Int32)), .val (.int (2 : Int32)), .val .null, .val (.ref h0.size)] [(.int (2 : Int32)), (.ref h0.size), (.ref a)])) rfl (by rw [hml]; rfl) (argsL := [(.ref h0.size), (.int (2 : Int32))]) (rest := [(.ref a)]) (lenOf own_pd2 rfl) rfl (by show 2 * 0 + _ ≤ _; exact Nat.le_of_eq rfl) (hb hby own_d3_45) (fun _ _ => ⟨rfl, e3, (by decide : 1 + 0 ≤ _), (by decide : 2 + 0 ≤ _)⟩)
  dsimp only [Pt.U, Pt.locs, Pt.cells, Pt.slots] at X4 l4 y4 z4 st4 hQ4
  subst l4 y4 z4
  obtain ⟨rfl, N4q, e4⟩ := hQ4
  have N4 := Fr.app N3 N4q
  refine own_w (T' := T4) (g' := (mkF m 48 #[.val (.ref a), .val (.ref ac), .val (.int (0 : Int32)), .val (.int (2 : Int32)), .val .null, .val (.ref h0.size)] [(.int (0 : Int32)), (.ref a)])) st4 ?_
  have ne : h0.size ≠ a := Nat.ne_of_gt E.lt
  obtain ⟨T5, h5, X5, e5, W5, st5⟩ := putFN X4 hx hZ hown (hw _ (List.mem_of_getElem? (i := 25) rfl)) Via.refl e4 (G.keep K3 (by simp)) (E.keep K3) (Or.inr ⟨(hw _ (List.mem_of_getElem? (i := 21) rfl)), rfl, hnm⟩) (hw _ (List.mem_of_getElem? (i := 6) rfl)) (ty := .byte) (v' := (.int (0 : Int32))) (by decide) rfl rfl (g := (mkF m 48 #[.val (.ref a), .val (.ref ac), .val (.int (0 : Int32)), .val (.int (2 : Int32)), .val .null, .val (.ref h0.size)] [(.int (0 : Int32)), (.ref a)])) rfl rfl (hb hby own_d3_48)
  have N5 := Fr.snoc X5 N4 g_a
  refine own_w (T' := T5) (g' := (mkF m 51 #[.val (.ref a), .val (.ref ac), .val (.int (0 : Int32)), .val (.int (2 : Int32)), .val .null, .val (.ref h0.size)] [])) st5 ?_
  refine own_w (T' := T5) (g' := (mkF m 52 #[.val (.ref a), .val (.ref ac), .val (.int (0 : Int32)), .val (.int (2 : Int32)), .val .null, .val (.ref h0.size)] [(.ref a)])) (fun _ k_ => XS.aloadN X5.here hx rfl (hb hby own_d3_51) rfl rfl k_) ?_
  refine own_w (T' := T5) (g' := (mkF m 54 #[.val (.ref a), .val (.ref ac), .val (.int (0 : Int32)), .val (.int (2 : Int32)), .val .null, .val (.ref h0.size)] [(.ref h0.size), (.ref a)])) (fun _ k_ => XS.aload X5.here hx rfl (hb hby own_d3_52) rfl rfl k_) ?_
  have F5 := (F.keep K3 (by simp)).other W5 (Or.inr (slot_ne (Or.inr (hw _ (List.mem_of_getElem? (i := 20) rfl))) (Or.inr (hw _ (List.mem_of_getElem? (i := 21) rfl))) (by decide) (t := (.array .byte)) (t' := .byte) (by decide) (by decide)))
  have G5 := (G.keep K3 (by simp)).same W5
  obtain ⟨T6, h6, X6, e6, W6, st6⟩ := putF X5 hx hZ hown (host := "") (Or.inl (hw _ (List.mem_of_getElem? (i := 24) rfl))) Via.refl e5 F5 ((E.keep K3).wr W5) (Or.inr ⟨(hw _ (List.mem_of_getElem? (i := 20) rfl)), rfl, hnm⟩) (hw _ (List.mem_of_getElem? (i := 6) rfl)) (ty := (.array .byte)) (by decide) rfl rfl (g := (mkF m 54 #[.val (.ref a), .val (.ref ac), .val (.int (0 : Int32)), .val (.int (2 : Int32)), .val .null, .val (.ref h0.size)] [(.ref h0.size), (.ref a)])) rfl rfl (hb hby own_d3_54)
  have N6 := Fr.snoc X6 N5 g_a
  refine own_w (T' := T6) (g' := (mkF m 57 #[.val (.ref a), .val (.ref ac), .val (.int (0 : Int32)), .val (.int (2 : Int32)), .val .null, .val (.ref h0.size)] [])) st6 ?_
  obtain ⟨fs, hr, hrun, hended, hW, hsame⟩ := X6.leave (v := none) (fun _ => rfl)
  exact ⟨_, _, X6.returnOut hx Bd.returns (hb hby own_d3_57) hr, hrun, hended, _, _, rfl, (by show own_Q3_2 Z a ac u u2 cs c0 c1 h0 n0 _ T6.heap _; rw [e6]; exact ⟨rfl, N6, ((Keep.trans (ws := [a]) (Keep.refl h0 [a]) K3 (fun x hx => by cases hx)).wr W5 (Or.inl (List.mem_singleton.mpr rfl))).wr W6 (Or.inl (List.mem_singleton.mpr rfl)), ⟨((E.keep K3).wr W5).wr W6, G5.other W6 (Or.inr (slot_ne (Or.inr (hw _ (List.mem_of_getElem? (i := 21) rfl))) (Or.inr (hw _ (List.mem_of_getElem? (i := 20) rfl))) (by decide) (t := .byte) (t' := (.array .byte)) (by decide) (by decide))), _, F5.same W6, own_Ar_other (own_Ar_other V3 W5 ne) W6 ne⟩⟩), ⟨_, rfl⟩, hW, hsame.mono (by decide) (by decide)⟩
theorem own_rm2_2_ef (m : MethodId) (a : Addr) (ac : Addr) : entryFrame m #[(.ref a), (.ref ac)] 2 = mkF m 0 #[.val (.ref a), .val (.ref ac)] [] := by first | (simp [entryFrame, mkF, argsToLocals, Value.category]; done) | rfl
def own_Q2_2 (Z : State) (a : Addr) (ac : Addr) (u : Value) (u2 : Value) (cs : Int32) (c0 : Int32) (c1 : Int32) (h0 : Heap) (n0 : Nat) (v_ : Option Value) (h : Heap) (L_ : List Loc) : Prop := v_ = none ∧ Fr n0 L_ ∧ (Keep h0 h [a]) ∧ (own_Str Z h a [c0.toInt8.toInt32, c1.toInt8.toInt32])
set_option maxRecDepth 65536 in
set_option maxHeartbeats 40000000 in
theorem own_rm2_2 (l : Launch) (Z : State) (a0 : Array Value) (hw : ∀ d ∈ tables_1, d.before a0 Z = true) (ws : List Jvm.Cond) (a : Addr) (ac : Addr) (u : Value) (u2 : Value) (cs : Int32) (c0 : Int32) (c1 : Int32) (h0 : Heap) (n0 : Nat) (Z0 : n0 ≤ h0.size) (F : Fld Z h0 a "java/lang/String" "value" "[B" u) (G : Fld Z h0 a "java/lang/String" "coder" "B" u2) (E : Exa Z h0 a "java/lang/String") (g_a : n0 ≤ a) (Va : own_Ar Z h0 ac .char [c0, c1]) (hcs : ¬ cs = (0 : Int32)) (S : Sta Z h0 "java/lang/String" "COMPACT_STRINGS" "Z" (.int cs)) (hc0 : ¬ (255 : Int32) < c0) (hc1 : ¬ (255 : Int32) < c1) :
    MetFree l (⟨"java/lang/String", "<init>", "([C)V"⟩ : MethodName) (head1 (Jvm.Cond.code (⟨"java/lang/String", "<init>", "([C)V"⟩ : MethodName) jdk_42_method_3_code 2 none :: ws) ({ frames := 3, cells := 1, slots := 2, locals := 52 } : Room)) (fun a_ U_ => a_ = #[(.ref a), (.ref ac)] ∧ Z.Warmed39 U_.vm ∧ U_.heap = h0) (fun _ _ _ _ _ => True) (fun _ U_ o_ V_ => ∃ v_ L_, o_ = .returned v_ ∧ own_Q2_2 Z a ac u u2 cs c0 c1 h0 n0 v_ V_.heap L_ ∧ FrameEnd U_ o_ V_ L_ ({ frames := 3, cells := 1, slots := 2, locals := 52 } : Room).cells ({ frames := 3, cells := 1, slots := 2, locals := 52 } : Room).slots) := by
  refine MetFree.of_bodySF (plainFor_of_name own_pn_java_lang_String) hisR ?_
  intro p e s m args below meth c s₁ Bd hml0 hP hK
  obtain ⟨rfl, hZ, hh⟩ := hP
  have hx := Bd.exec
  have hby := Bd.bytes
  have hml : c.maxLocals = 2 := hml0
  have hown : s.vm.findClass "java/lang/String" = some m.cls := findClass_of_methodNamed Bd.named
  have hnm := (name_of_methodNamed Bd.named Bd.method).1
  have X0 : Stand p l e ({ frames := 3, cells := 1, slots := 2, locals := 52 } : Room) s m #[(.ref a), (.ref ac)] below meth c s₁ [] 0 0 := Stand.of_body Bd
  have e0 : s₁.heap = h0 := by rw [← hh, Bd.state]; rfl
  have N0 := Fr.nil n0
  show own_G p e below s (own_Q2_2 Z a ac u u2 cs c0 c1 h0 n0) ({ frames := 3, cells := 1, slots := 2, locals := 52 } : Room).cells ({ frames := 3, cells := 1, slots := 2, locals := 52 } : Room).slots s₁ (entryFrame m #[(.ref a), (.ref ac)] 2)
  rw [own_rm2_2_ef]
  refine own_w (T' := s₁) (g' := (mkF m 1 #[.val (.ref a), .val (.ref ac)] [(.ref a)])) (fun _ k_ => XS.aloadN X0.here hx rfl (hb hby own_d2_0) rfl rfl k_) ?_
  refine own_w (T' := s₁) (g' := (mkF m 2 #[.val (.ref a), .val (.ref ac)] [(.ref ac), (.ref a)])) (fun _ k_ => XS.aloadN X0.here hx rfl (hb hby own_d2_1) rfl rfl k_) ?_
  refine own_w (T' := s₁) (g' := (mkF m 3 #[.val (.ref a), .val (.ref ac)] [(.int (0 : Int32)), (.ref ac), (.ref a)])) (fun _ k_ => XS.iconst X0.here hx rfl (hb hby own_d2_2) k_) ?_
  refine own_w (T' := s₁) (g' := (mkF m 4 #[.val (.ref a), .val (.ref ac)] [(.ref ac), (.int (0 : Int32)), (.ref ac), (.ref a)])) (fun _ k_ => XS.aloadN X0.here hx rfl (hb hby own_d2_3) rfl rfl k_) ?_
  obtain ⟨cl1, Ar1, hs1⟩ := id Va
  have hl1 : cl1.slots.size.toInt32 = (2 : Int32) := by rw [hs1]; rfl
  refine own_w (T' := s₁) (g' := (mkF m 5 #[.val (.ref a), .val (.ref ac)] [(.int (2 : Int32)), (.int (0 : Int32)), (.ref ac), (.ref a)])) (fun t_ k_ => X0.arraylength hx (by rw [e0]; exact Ar1.1) (State.isArrayOf_alike hZ.alike Ar1.2.1) (g := (mkF m 4 #[.val (.ref a), .val (.ref ac)] [(.ref ac), (.int (0 : Int32)), (.ref ac), (.ref a)])) rfl rfl (hb hby own_d2_4) t_ (by rw [hl1]; exact k_)) ?_
  refine own_w (T' := s₁) (g' := (mkF m 6 #[.val (.ref a), .val (.ref ac)] [.null, (.int (2 : Int32)), (.int (0 : Int32)), (.ref ac), (.ref a)])) (fun _ k_ => XS.aconstNull X0.here hx rfl (hb hby own_d2_5) k_) ?_
  obtain ⟨_, _, ⟨T2, L2, k2, n2⟩, -, X2, ⟨Lc2, hQ2, l2, y2, z2⟩, st2⟩ := X0.specialBack hx (y := (⟨"java/lang/String", "<init>", "([CIILjava/lang/Void;)V"⟩ : MethodName)) rfl hown (mvT hZ (hw _ (List.mem_of_getElem? (i := 11) rfl))) (mvT hZ (hw _ (List.mem_of_getElem? (i := 12) rfl))) (mvT hZ (hw _ (List.mem_of_getElem? (i := 14) rfl))) (by decide) (backOf (W := 0) (own_rm3_2 l Z a0 hw [] a ac _ _ cs c0 c1 h0 n0 Z0 F G E g_a Va hcs S hc0 hc1) hZ (hw _ (List.mem_of_getElem? (i := 14) rfl)) (hw _ (List.mem_of_getElem? (i := 7) rfl)) (by decide) (by decide)) (g := (mkF m 6 #[.val (.ref a), .val (.ref ac)] [.null, (.int (2 : Int32)), (.int (0 : Int32)), (.ref ac), (.ref a)])) rfl (by rw [hml]; rfl) (Steps.refl _) (a := a) (argsL := [(.ref ac), (.int (0 : Int32)), (.int (2 : Int32)), .null]) (rest := []) (lenOf own_pd3 rfl) rfl (by show 2 * 0 + _ ≤ _; exact Nat.le_of_eq rfl) (hb hby own_d2_6) (fun _ _ => ⟨rfl, e0, (by decide : 0 + 1 ≤ _), (by decide : 0 + 2 ≤ _)⟩)
  dsimp only [Pt.U, Pt.locs, Pt.cells, Pt.slots] at X2 l2 y2 z2 st2 hQ2
  subst l2 y2 z2
  obtain ⟨h2, e2⟩ : ∃ h, T2.heap = h := ⟨_, rfl⟩
  rw [e2] at hQ2
  obtain ⟨rfl, N2q, K2, Q2⟩ := hQ2
  have N2 := Fr.app N0 N2q
  refine own_t (T' := T2) (g' := (mkF m 9 #[.val (.ref a), .val (.ref ac)] [])) st2 ?_
  obtain ⟨fs, hr, hrun, hended, hW, hsame⟩ := X2.leave (v := none) (fun _ => rfl)
  exact ⟨_, _, X2.returnOut hx Bd.returns (hb hby own_d2_9) hr, hrun, hended, _, _, rfl, (by show own_Q2_2 Z a ac u u2 cs c0 c1 h0 n0 _ T2.heap _; rw [e2]; exact ⟨rfl, N2, K2, Q2⟩), ⟨_, rfl⟩, hW, hsame.mono (by decide) (by decide)⟩
theorem own_d3_8 : decode jdk_42_method_149_code 8 = .ok (.aload_n 0, 1) := by decide +kernel
theorem own_d3_9 : decode jdk_42_method_149_code 9 = .ok (.ldc 7, 2) := by decide +kernel
theorem own_d3_11 : decode jdk_42_method_149_code 11 = .ok (.getfield 9, 3) := by decide +kernel
theorem own_d3_14 : decode jdk_42_method_149_code 14 = .ok (.putfield 9, 3) := by decide +kernel
theorem own_d3_17 : decode jdk_42_method_149_code 17 = .ok (.aload_n 0, 1) := by decide +kernel
theorem own_d3_18 : decode jdk_42_method_149_code 18 = .ok (.ldc 7, 2) := by decide +kernel
theorem own_d3_20 : decode jdk_42_method_149_code 20 = .ok (.getfield 15, 3) := by decide +kernel
theorem own_d3_23 : decode jdk_42_method_149_code 23 = .ok (.putfield 15, 3) := by decide +kernel
theorem own_d3_26 : decode jdk_42_method_149_code 26 = .ok (.return_, 1) := by decide +kernel
theorem own_rm3_0_ef (m : MethodId) (a : Addr) (ac : Addr) : entryFrame m #[(.ref a), (.ref ac), (.int (0 : Int32)), (.int (0 : Int32)), .null] 6 = mkF m 0 #[.val (.ref a), .val (.ref ac), .val (.int (0 : Int32)), .val (.int (0 : Int32)), .val .null, .unset] [] := by first | (simp [entryFrame, mkF, argsToLocals, Value.category]; done) | rfl
def own_Q3_0 (Z : State) (a : Addr) (ac : Addr) (u2 : Value) (h0 : Heap) (n0 : Nat) (v_ : Option Value) (h : Heap) (L_ : List Loc) : Prop := v_ = none ∧ Fr n0 L_ ∧ (Keep h0 h [a]) ∧ (own_Str Z h a [])
set_option maxRecDepth 65536 in
set_option maxHeartbeats 40000000 in
theorem own_rm3_0 (l : Launch) (Z : State) (a0 : Array Value) (hw : ∀ d ∈ tables_1, d.before a0 Z = true) (ws : List Jvm.Cond) (a : Addr) (ac : Addr) (u2 : Value) (h0 : Heap) (n0 : Nat) (Z0 : n0 ≤ h0.size) (F : Fld Z h0 a "java/lang/String" "value" "[B" .null) (G : Fld Z h0 a "java/lang/String" "coder" "B" u2) (E : Exa Z h0 a "java/lang/String") (g_a : n0 ≤ a) :
    MetFree l (⟨"java/lang/String", "<init>", "([CIILjava/lang/Void;)V"⟩ : MethodName) (head1 (Jvm.Cond.code (⟨"java/lang/String", "<init>", "([CIILjava/lang/Void;)V"⟩ : MethodName) jdk_42_method_149_code 6 none :: ws) ({ frames := 1, cells := 4, slots := 8, locals := 12 } : Room)) (fun a_ U_ => a_ = #[(.ref a), (.ref ac), (.int (0 : Int32)), (.int (0 : Int32)), .null] ∧ Z.Warmed39 U_.vm ∧ U_.heap = h0 ∧ CHv Z own_EL U_.vm h0) (fun _ _ _ _ _ => True) (fun _ U_ o_ V_ => ∃ v_ L_, o_ = .returned v_ ∧ own_Q3_0 Z a ac u2 h0 n0 v_ V_.heap L_ ∧ CHr Z own_EL U_.vm U_.heap V_.vm V_.heap ∧ ReturnedEndW U_ o_ V_ L_ ({ frames := 1, cells := 4, slots := 8, locals := 12 } : Room).cells ({ frames := 1, cells := 4, slots := 8, locals := 12 } : Room).slots) := by
  refine MetFree.of_bodySF (plainFor_of_name own_pn_java_lang_String) hisR ?_
  intro p e s m args below meth c s₁ Bd hml0 hP hK
  obtain ⟨rfl, hZ, hh, hCH⟩ := hP
  have hx := Bd.exec
  have hby := Bd.bytes
  have hml : c.maxLocals = 6 := hml0
  have hown : s.vm.findClass "java/lang/String" = some m.cls := findClass_of_methodNamed Bd.named
  have hnm := (name_of_methodNamed Bd.named Bd.method).1
  have X0 : Stand p l e ({ frames := 1, cells := 4, slots := 8, locals := 12 } : Room) s m #[(.ref a), (.ref ac), (.int (0 : Int32)), (.int (0 : Int32)), .null] below meth c s₁ [] 0 0 := Stand.of_body Bd
  have e0 : s₁.heap = h0 := by rw [← hh, Bd.state]; rfl
  have N0 := Fr.nil n0
  show own_GW Z own_EL p e below s (own_Q3_0 Z a ac u2 h0 n0) ({ frames := 1, cells := 4, slots := 8, locals := 12 } : Room).cells ({ frames := 1, cells := 4, slots := 8, locals := 12 } : Room).slots s₁ (entryFrame m #[(.ref a), (.ref ac), (.int (0 : Int32)), (.int (0 : Int32)), .null] 6)
  rw [own_rm3_0_ef]
  have hS0 : s.Since s.vm h0.size := (State.WarmedH.refl s).since _
  have CB0 : CHr Z own_EL s.vm h0 s.vm h0 := CHr.refl hCH
  refine own_ww (T' := s₁) (g' := (mkF m 1 #[.val (.ref a), .val (.ref ac), .val (.int (0 : Int32)), .val (.int (0 : Int32)), .val .null, .unset] [(.ref a)])) (fun _ k_ => XS.aloadN X0.here hx rfl (hb hby own_d3_0) rfl rfl k_) ?_
  obtain ⟨T1, X1, e1, st1⟩ := initO X0 hx hZ hown (hw _ (List.mem_of_getElem? (i := 15) rfl)) (hw _ (List.mem_of_getElem? (i := 16) rfl)) (hw _ (List.mem_of_getElem? (i := 17) rfl)) e0 (g := (mkF m 1 #[.val (.ref a), .val (.ref ac), .val (.int (0 : Int32)), .val (.int (0 : Int32)), .val .null, .unset] [(.ref a)])) rfl (by rw [hml]; rfl) rfl (hb hby own_d3_1) (by decide) (W := 0) (by show 2 * 0 + _ ≤ _; exact Nat.le_of_eq rfl) (by decide)
  refine own_ww (T' := T1) (g' := (mkF m 4 #[.val (.ref a), .val (.ref ac), .val (.int (0 : Int32)), .val (.int (0 : Int32)), .val .null, .unset] [])) st1 ?_
  refine own_ww (T' := T1) (g' := (mkF m 5 #[.val (.ref a), .val (.ref ac), .val (.int (0 : Int32)), .val (.int (0 : Int32)), .val .null, .unset] [(.int (0 : Int32))])) (fun _ k_ => XS.iloadN X1.here hx rfl (hb hby own_d3_4) rfl k_) ?_
  refine own_ww (T' := T1) (g' := (mkF m 8 #[.val (.ref a), .val (.ref ac), .val (.int (0 : Int32)), .val (.int (0 : Int32)), .val .null, .unset] [])) (fun _ k_ => XS.ifNo X1.here hx rfl (hb hby own_d3_5) rfl ((if0 _ _).trans (teq rfl).2) k_) ?_
  refine own_ww (T' := T1) (g' := (mkF m 9 #[.val (.ref a), .val (.ref ac), .val (.int (0 : Int32)), .val (.int (0 : Int32)), .val .null, .unset] [(.ref a)])) (fun _ k_ => XS.aloadN X1.here hx rfl (hb hby own_d3_8) rfl rfl k_) ?_
  obtain ⟨a2, T2, h2, k12, b2, kc2, X2, e2, E2, hs2, hk2, hZ2, ho2, Es2, Fc2, Fv2, Av2, la2, lb2, cr2, Li2, sn2, st2⟩ := ldcCH X1 hx hZ hown (hw _ (List.mem_of_getElem? (i := 18) rfl)) (own_wS hw) e1 hS0 CB0.2.1 (own_EW hw) (by decide) CB0.1 (vs := []) (z := (0 : Int32)) ⟨by decide, rfl⟩ (by decide) (by decide) (g := (mkF m 9 #[.val (.ref a), .val (.ref ac), .val (.int (0 : Int32)), .val (.int (0 : Int32)), .val .null, .unset] [(.ref a)])) rfl (hb hby own_d3_9) (n := 0) (by decide) (by decide) (by decide) (by decide)
  have hS2 := own_since hs2 hk2
  have CB2 : CHr Z own_EL s.vm h0 T2.vm h2 := CB0.trans cr2
  have CS2 : CHr Z own_EL T2.vm h2 T2.vm h2 := CHr.refl CB2.1
  have Z2 : n0 ≤ h2.size := Nat.le_trans Z0 E2.1
  refine own_ww (T' := T2) (g' := (mkF m 11 #[.val (.ref a), .val (.ref ac), .val (.int (0 : Int32)), .val (.int (0 : Int32)), .val .null, .unset] [(.ref a2), (.ref a)])) st2 ?_
  have sfa : Safe Z own_EL T2.vm h2 a := own_safe_null hZ2.alike (E.ext E2) (F.ext E2)
  have nn := sn2 a sfa
  obtain ⟨T3, X3, e3, st3⟩ := getF X2 hx hZ2 ho2 (host := "") (Or.inl (hw _ (List.mem_of_getElem? (i := 24) rfl))) Via.refl e2 Fv2 (g := (mkF m 11 #[.val (.ref a), .val (.ref ac), .val (.int (0 : Int32)), .val (.int (0 : Int32)), .val .null, .unset] [(.ref a2), (.ref a)])) rfl rfl (hb hby own_d3_11)
  refine own_ww (T' := T3) (g' := (mkF m 14 #[.val (.ref a), .val (.ref ac), .val (.int (0 : Int32)), .val (.int (0 : Int32)), .val .null, .unset] [(.ref b2), (.ref a)])) st3 ?_
  obtain ⟨T4, h4, X4, e4, W4, st4⟩ := putF X3 hx hZ2 ho2 (host := "") (Or.inl (hw _ (List.mem_of_getElem? (i := 24) rfl))) Via.refl e3 (F.ext E2) (E.ext E2) (Or.inr ⟨(hw _ (List.mem_of_getElem? (i := 20) rfl)), rfl, hnm⟩) (hw _ (List.mem_of_getElem? (i := 6) rfl)) (ty := (.array .byte)) (by decide) rfl rfl (g := (mkF m 14 #[.val (.ref a), .val (.ref ac), .val (.int (0 : Int32)), .val (.int (0 : Int32)), .val .null, .unset] [(.ref b2), (.ref a)])) rfl rfl (hb hby own_d3_14)
  have N4 := Fr.snoc X4 N0 g_a
  have CS4 : CHr Z own_EL T2.vm h2 T2.vm h4 := CS2.trans (CHr.wr W4 sfa CS2.1)
  have sf4_a := Safe.wr W4 sfa CS2.1 sfa
  refine own_ww (T' := T4) (g' := (mkF m 17 #[.val (.ref a), .val (.ref ac), .val (.int (0 : Int32)), .val (.int (0 : Int32)), .val .null, .unset] [])) st4 ?_
  have E4' := (E.ext E2).wr W4
  have V4 := own_Ar_other (own_arv0 Av2) W4 nn.2.symm
  have F4 := (F.ext E2).same W4
  have G4 := (G.ext E2).other W4 (Or.inr (slot_ne (Or.inr (hw _ (List.mem_of_getElem? (i := 21) rfl))) (Or.inr (hw _ (List.mem_of_getElem? (i := 20) rfl))) (by decide) (t := .byte) (t' := (.array .byte)) (by decide) (by decide)))
  have Z4 : n0 ≤ h4.size := Nat.le_trans Z2 (Keep.of_wr W4).1
  refine own_ww (T' := T4) (g' := (mkF m 18 #[.val (.ref a), .val (.ref ac), .val (.int (0 : Int32)), .val (.int (0 : Int32)), .val .null, .unset] [(.ref a)])) (fun _ k_ => XS.aloadN X4.here hx rfl (hb hby own_d3_17) rfl rfl k_) ?_
  obtain ⟨a5, T5, h5, k15, b5, kc5, X5, e5, E5, hs5, hk5, hZ5, ho5, Es5, Fc5, Fv5, Av5, la5, lb5, cr5, Li5, sn5, st5⟩ := ldcCH X4 hx hZ2 ho2 (hw _ (List.mem_of_getElem? (i := 18) rfl)) (own_wS hw) e4 hS2 CS4.2.1 (own_EW hw) (by decide) CS4.1 (vs := []) (z := (0 : Int32)) ⟨by decide, rfl⟩ (by decide) (by decide) (g := (mkF m 18 #[.val (.ref a), .val (.ref ac), .val (.int (0 : Int32)), .val (.int (0 : Int32)), .val .null, .unset] [(.ref a)])) rfl (hb hby own_d3_18) (n := 0) (by decide) (by decide) (by decide) (by decide)
  have hS5 := own_since hs5 hk5
  have sf5_a := cr5.safe E4'.lt sf4_a
  have CB5 : CHr Z own_EL s.vm h0 T5.vm h5 := (CB2.trans CS4).trans cr5
  have CS5 : CHr Z own_EL T5.vm h5 T5.vm h5 := CHr.refl CB5.1
  have Z5 : n0 ≤ h5.size := Nat.le_trans Z4 E5.1
  refine own_ww (T' := T5) (g' := (mkF m 20 #[.val (.ref a), .val (.ref ac), .val (.int (0 : Int32)), .val (.int (0 : Int32)), .val .null, .unset] [(.ref a5), (.ref a)])) st5 ?_
  obtain ⟨T6, X6, e6, st6⟩ := getF X5 hx hZ5 ho5 (host := "") (Or.inl (hw _ (List.mem_of_getElem? (i := 25) rfl))) Via.refl e5 Fc5 (g := (mkF m 20 #[.val (.ref a), .val (.ref ac), .val (.int (0 : Int32)), .val (.int (0 : Int32)), .val .null, .unset] [(.ref a5), (.ref a)])) rfl rfl (hb hby own_d3_20)
  refine own_ww (T' := T6) (g' := (mkF m 23 #[.val (.ref a), .val (.ref ac), .val (.int (0 : Int32)), .val (.int (0 : Int32)), .val .null, .unset] [(.int (0 : Int32)), (.ref a)])) st6 ?_
  obtain ⟨T7, h7, X7, e7, W7, st7⟩ := putFN X6 hx hZ5 ho5 (hw _ (List.mem_of_getElem? (i := 25) rfl)) Via.refl e6 (G4.ext E5) (E4'.ext E5) (Or.inr ⟨(hw _ (List.mem_of_getElem? (i := 21) rfl)), rfl, hnm⟩) (hw _ (List.mem_of_getElem? (i := 6) rfl)) (ty := .byte) (v' := (.int (0 : Int32))) (by decide) rfl rfl (g := (mkF m 23 #[.val (.ref a), .val (.ref ac), .val (.int (0 : Int32)), .val (.int (0 : Int32)), .val .null, .unset] [(.int (0 : Int32)), (.ref a)])) rfl rfl (hb hby own_d3_23)
  have N7 := Fr.snoc X7 N4 g_a
  have CS7 : CHr Z own_EL T5.vm h5 T5.vm h7 := CS5.trans (CHr.wr W7 sf5_a CS5.1)
  have sf7_a := Safe.wr W7 sf5_a CS5.1 sf5_a
  refine own_ww (T' := T7) (g' := (mkF m 26 #[.val (.ref a), .val (.ref ac), .val (.int (0 : Int32)), .val (.int (0 : Int32)), .val .null, .unset] [])) st7 ?_
  obtain ⟨fs, hr, hrun, hended, hRE⟩ := X7.leaveW (own_since hS5 CS7.2.1) (by rw [e7]; exact Nat.le_refl _) (v := none) (fun _ => rfl)
  exact ⟨_, _, X7.returnOut hx Bd.returns (hb hby own_d3_26) hr, hrun, hended, _, _, rfl, (by show own_Q3_0 Z a ac u2 h0 n0 _ T7.heap _; rw [e7]; exact ⟨rfl, N7, ((((Keep.refl h0 [a]).ext E2).wr W4 (Or.inl (List.mem_singleton.mpr rfl))).ext E5).wr W7 (Or.inl (List.mem_singleton.mpr rfl)), ⟨(E4'.ext E5).wr W7, (G4.ext E5).same W7, _, (F4.ext E5).other W7 (Or.inr (slot_ne (Or.inr (hw _ (List.mem_of_getElem? (i := 20) rfl))) (Or.inr (hw _ (List.mem_of_getElem? (i := 21) rfl))) (by decide) (t := (.array .byte)) (t' := .byte) (by decide) (by decide))), own_Ar_other (own_Ar_ext V4 E5) W7 nn.2.symm⟩⟩), (by show CHr Z own_EL s.vm s.heap T7.vm T7.heap; rw [e7, hh]; exact (CB5.trans CS7).trans (CHv.at X7 hZ5 (own_EW hw) CS7.1)), own_rmono hRE (by decide) (by decide)⟩
theorem own_rm2_0_ef (m : MethodId) (a : Addr) (ac : Addr) : entryFrame m #[(.ref a), (.ref ac)] 2 = mkF m 0 #[.val (.ref a), .val (.ref ac)] [] := by first | (simp [entryFrame, mkF, argsToLocals, Value.category]; done) | rfl
def own_Q2_0 (Z : State) (a : Addr) (ac : Addr) (u2 : Value) (h0 : Heap) (n0 : Nat) (v_ : Option Value) (h : Heap) (L_ : List Loc) : Prop := v_ = none ∧ Fr n0 L_ ∧ (Keep h0 h [a]) ∧ (own_Str Z h a [])
set_option maxRecDepth 65536 in
set_option maxHeartbeats 40000000 in
theorem own_rm2_0 (l : Launch) (Z : State) (a0 : Array Value) (hw : ∀ d ∈ tables_1, d.before a0 Z = true) (ws : List Jvm.Cond) (a : Addr) (ac : Addr) (u2 : Value) (h0 : Heap) (n0 : Nat) (Z0 : n0 ≤ h0.size) (F : Fld Z h0 a "java/lang/String" "value" "[B" .null) (G : Fld Z h0 a "java/lang/String" "coder" "B" u2) (E : Exa Z h0 a "java/lang/String") (g_a : n0 ≤ a) (Va : own_Ar Z h0 ac .char []) :
    MetFree l (⟨"java/lang/String", "<init>", "([C)V"⟩ : MethodName) (head1 (Jvm.Cond.code (⟨"java/lang/String", "<init>", "([C)V"⟩ : MethodName) jdk_42_method_3_code 2 none :: ws) ({ frames := 2, cells := 4, slots := 8, locals := 29 } : Room)) (fun a_ U_ => a_ = #[(.ref a), (.ref ac)] ∧ Z.Warmed39 U_.vm ∧ U_.heap = h0 ∧ CHv Z own_EL U_.vm h0) (fun _ _ _ _ _ => True) (fun _ U_ o_ V_ => ∃ v_ L_, o_ = .returned v_ ∧ own_Q2_0 Z a ac u2 h0 n0 v_ V_.heap L_ ∧ CHr Z own_EL U_.vm U_.heap V_.vm V_.heap ∧ ReturnedEndW U_ o_ V_ L_ ({ frames := 2, cells := 4, slots := 8, locals := 29 } : Room).cells ({ frames := 2, cells := 4, slots := 8, locals := 29 } : Room).slots) := by
  refine MetFree.of_bodySF (plainFor_of_name own_pn_java_lang_String) hisR ?_
  intro p e s m args below meth c s₁ Bd hml0 hP hK
  obtain ⟨rfl, hZ, hh, hCH⟩ := hP
  have hx := Bd.exec
  have hby := Bd.bytes
  have hml : c.maxLocals = 2 := hml0
  have hown : s.vm.findClass "java/lang/String" = some m.cls := findClass_of_methodNamed Bd.named
  have hnm := (name_of_methodNamed Bd.named Bd.method).1
  have X0 : Stand p l e ({ frames := 2, cells := 4, slots := 8, locals := 29 } : Room) s m #[(.ref a), (.ref ac)] below meth c s₁ [] 0 0 := Stand.of_body Bd
  have e0 : s₁.heap = h0 := by rw [← hh, Bd.state]; rfl
  have N0 := Fr.nil n0
  show own_GW Z own_EL p e below s (own_Q2_0 Z a ac u2 h0 n0) ({ frames := 2, cells := 4, slots := 8, locals := 29 } : Room).cells ({ frames := 2, cells := 4, slots := 8, locals := 29 } : Room).slots s₁ (entryFrame m #[(.ref a), (.ref ac)] 2)
  rw [own_rm2_0_ef]
  have hS0 : s.Since s.vm h0.size := (State.WarmedH.refl s).since _
  have CB0 : CHr Z own_EL s.vm h0 s.vm h0 := CHr.refl hCH
  refine own_ww (T' := s₁) (g' := (mkF m 1 #[.val (.ref a), .val (.ref ac)] [(.ref a)])) (fun _ k_ => XS.aloadN X0.here hx rfl (hb hby own_d2_0) rfl rfl k_) ?_
  refine own_ww (T' := s₁) (g' := (mkF m 2 #[.val (.ref a), .val (.ref ac)] [(.ref ac), (.ref a)])) (fun _ k_ => XS.aloadN X0.here hx rfl (hb hby own_d2_1) rfl rfl k_) ?_
  refine own_ww (T' := s₁) (g' := (mkF m 3 #[.val (.ref a), .val (.ref ac)] [(.int (0 : Int32)), (.ref ac), (.ref a)])) (fun _ k_ => XS.iconst X0.here hx rfl (hb hby own_d2_2) k_) ?_
  refine own_ww (T' := s₁) (g' := (mkF m 4 #[.val (.ref a), .val (.ref ac)] [(.ref ac), (.int (0 : Int32)), (.ref ac), (.ref a)])) (fun _ k_ => XS.aloadN X0.here hx rfl (hb hby own_d2_3) rfl rfl k_) ?_
  obtain ⟨cl1, Ar1, hs1⟩ := id Va
  have hl1 : cl1.slots.size.toInt32 = (0 : Int32) := by rw [hs1]; rfl
  refine own_ww (T' := s₁) (g' := (mkF m 5 #[.val (.ref a), .val (.ref ac)] [(.int (0 : Int32)), (.int (0 : Int32)), (.ref ac), (.ref a)])) (fun t_ k_ => X0.arraylength hx (by rw [e0]; exact Ar1.1) (State.isArrayOf_alike hZ.alike Ar1.2.1) (g := (mkF m 4 #[.val (.ref a), .val (.ref ac)] [(.ref ac), (.int (0 : Int32)), (.ref ac), (.ref a)])) rfl rfl (hb hby own_d2_4) t_ (by rw [hl1]; exact k_)) ?_
  refine own_ww (T' := s₁) (g' := (mkF m 6 #[.val (.ref a), .val (.ref ac)] [.null, (.int (0 : Int32)), (.int (0 : Int32)), (.ref ac), (.ref a)])) (fun _ k_ => XS.aconstNull X0.here hx rfl (hb hby own_d2_5) k_) ?_
  obtain ⟨_, _, ⟨T2, L2, k2, n2⟩, -, X2', hs22, hg2, ⟨Lc2, hQ2, l2, y2, z2, cr2⟩, st2⟩ := X0.specialBackS hx (y := (⟨"java/lang/String", "<init>", "([CIILjava/lang/Void;)V"⟩ : MethodName)) rfl hown (mvT hZ (hw _ (List.mem_of_getElem? (i := 11) rfl))) (mvT hZ (hw _ (List.mem_of_getElem? (i := 12) rfl))) (mvT hZ (hw _ (List.mem_of_getElem? (i := 14) rfl))) (by decide) (backOfSH (W := 0) (own_rm3_0 l Z a0 hw [] a ac _ h0 n0 Z0 F G E g_a) hZ (hw _ (List.mem_of_getElem? (i := 14) rfl)) (hw _ (List.mem_of_getElem? (i := 7) rfl)) (by decide) (by decide) (own_EW hw) CB0.1) (g := (mkF m 6 #[.val (.ref a), .val (.ref ac)] [.null, (.int (0 : Int32)), (.int (0 : Int32)), (.ref ac), (.ref a)])) rfl (by rw [hml]; rfl) (Steps.refl _) (a := a) (argsL := [(.ref ac), (.int (0 : Int32)), (.int (0 : Int32)), .null]) (rest := []) (lenOf own_pd3 rfl) rfl (by show 2 * 0 + _ ≤ _; exact Nat.le_of_eq rfl) (hb hby own_d2_6) (fun _ _ => ⟨rfl, e0, (by decide : 0 + 4 ≤ _), (by decide : 0 + 8 ≤ _)⟩)
  dsimp only [Pt.U, Pt.locs, Pt.cells, Pt.slots] at X2' hs22 hg2 l2 y2 z2 st2 hQ2 cr2
  subst l2 y2 z2
  obtain ⟨X2, hS2, hZ2, ho2⟩ := rebS hS0 (by rw [e0]; exact CB0.2.1) X2' hs22 hg2 hZ hown
  obtain ⟨h2, e2⟩ : ∃ h, T2.heap = h := ⟨_, rfl⟩
  rw [e2] at hQ2 hS2 cr2
  obtain ⟨rfl, N2q, K2, Q2⟩ := hQ2
  have N2 := Fr.app N0 N2q
  have CB2 : CHr Z own_EL s.vm h0 T2.vm h2 := CB0.trans cr2
  have CS2 : CHr Z own_EL T2.vm h2 T2.vm h2 := CHr.refl CB2.1
  have Z2 : n0 ≤ h2.size := Nat.le_trans Z0 cr2.2.1
  refine own_wt (T' := T2) (g' := (mkF m 9 #[.val (.ref a), .val (.ref ac)] [])) st2 ?_
  obtain ⟨fs, hr, hrun, hended, hRE⟩ := X2.leaveW (own_since hS2 CS2.2.1) (by rw [e2]; exact Nat.le_refl _) (v := none) (fun _ => rfl)
  exact ⟨_, _, X2.returnOut hx Bd.returns (hb hby own_d2_9) hr, hrun, hended, _, _, rfl, (by show own_Q2_0 Z a ac u2 h0 n0 _ T2.heap _; rw [e2]; exact ⟨rfl, N2, K2, Q2⟩), (by show CHr Z own_EL s.vm s.heap T2.vm T2.heap; rw [e2, hh]; exact (CB2.trans CS2).trans (CHv.at X2 hZ2 (own_EW hw) CS2.1)), own_rmono hRE (by decide) (by decide)⟩
theorem own_d1_0 : decode method_3_code 0 = .ok (.iload_n 0, 1) := by decide +kernel
theorem own_d1_1 : decode method_3_code 1 = .ok (.newarray .char, 2) := by decide +kernel
theorem own_d1_3 : decode method_3_code 3 = .ok (.astore_n 3, 1) := by decide +kernel
theorem own_d1_4 : decode method_3_code 4 = .ok (.iload_n 0, 1) := by decide +kernel
theorem own_d1_5 : decode method_3_code 5 = .ok (.iconst 1, 1) := by decide +kernel
theorem own_d1_6 : decode method_3_code 6 = .ok (.if_icmp .lt 7, 3) := by decide +kernel
theorem own_d1_13 : decode method_3_code 13 = .ok (.iload_n 0, 1) := by decide +kernel
theorem own_d1_14 : decode method_3_code 14 = .ok (.iconst 2, 1) := by decide +kernel
theorem own_d1_15 : decode method_3_code 15 = .ok (.if_icmp .lt 7, 3) := by decide +kernel
theorem own_d1_22 : decode method_3_code 22 = .ok (.new 22, 3) := by decide +kernel
theorem own_d1_25 : decode method_3_code 25 = .ok (.dup, 1) := by decide +kernel
theorem own_d1_26 : decode method_3_code 26 = .ok (.aload_n 3, 1) := by decide +kernel
theorem own_d1_27 : decode method_3_code 27 = .ok (.invokespecial 24, 3) := by decide +kernel
theorem own_pd4 : parseMethodDescriptor "([C)V" = some ⟨[(.array .char)], none⟩ := by decide +kernel
theorem own_d1_30 : decode method_3_code 30 = .ok (.areturn, 1) := by decide +kernel
theorem own_d1_9 : decode method_3_code 9 = .ok (.aload_n 3, 1) := by decide +kernel
theorem own_d1_10 : decode method_3_code 10 = .ok (.iconst 0, 1) := by decide +kernel
theorem own_d1_11 : decode method_3_code 11 = .ok (.iload_n 1, 1) := by decide +kernel
theorem own_d1_12 : decode method_3_code 12 = .ok (.castore, 1) := by decide +kernel
theorem own_d1_18 : decode method_3_code 18 = .ok (.aload_n 3, 1) := by decide +kernel
theorem own_d1_19 : decode method_3_code 19 = .ok (.iconst 1, 1) := by decide +kernel
theorem own_d1_20 : decode method_3_code 20 = .ok (.iload_n 2, 1) := by decide +kernel
theorem own_d1_21 : decode method_3_code 21 = .ok (.castore, 1) := by decide +kernel
theorem own_pn_com_example_marshal_trust_marshaltrust_FunctionGroupEqualsPinLaw : plainName "com/example/marshal_trust/marshaltrust/FunctionGroupEqualsPinLaw" = true := by first | (simp [plainName, overriddenIn]; done) | decide +kernel
theorem own_rm1_ef (m : MethodId) (ln : Int32) (cx : Int32) (cy : Int32) : entryFrame m #[(.int ln), (.int cx), (.int cy)] 4 = mkF m 0 #[.val (.int ln), .val (.int cx), .val (.int cy), .unset] [] := by first | (simp [entryFrame, mkF, argsToLocals, Value.category]; done) | rfl
def own_Q1 (Z : State) (ln : Int32) (cx : Int32) (cy : Int32) (cs : Int32) (h0 : Heap) (n0 : Nat) (v_ : Option Value) (h : Heap) (L_ : List Loc) : Prop := ∃ r : Addr, v_ = some (.ref r) ∧ Fr n0 L_ ∧ (Keep h0 h []) ∧ (own_Str Z h r (own_mk ln cx cy))
set_option maxRecDepth 65536 in
set_option maxHeartbeats 40000000 in
theorem own_rm1 (l : Launch) (Z : State) (a0 : Array Value) (hw : ∀ d ∈ tables_1, d.before a0 Z = true) (ws : List Jvm.Cond) (ln : Int32) (cx : Int32) (cy : Int32) (cs : Int32) (h0 : Heap) (n0 : Nat) (Z0 : n0 ≤ h0.size) (hl : ln = 0 ∨ ln = 1 ∨ ln = 2) (hx1 : ¬ (255 : Int32) < cx) (hx2 : nar .char cx = cx) (hy1 : ¬ (255 : Int32) < cy) (hy2 : nar .char cy = cy) (hcs : ¬ cs = (0 : Int32)) (S : Sta Z h0 "java/lang/String" "COMPACT_STRINGS" "Z" (.int cs)) :
    MetFree l (⟨"com/example/marshal_trust/marshaltrust/FunctionGroupEqualsPinLaw", "make", "(ICC)Ljava/lang/String;"⟩ : MethodName) (head1 (Jvm.Cond.code (⟨"com/example/marshal_trust/marshaltrust/FunctionGroupEqualsPinLaw", "make", "(ICC)Ljava/lang/String;"⟩ : MethodName) method_3_code 4 (some (.object "java/lang/String")) :: ws) ({ frames := 4, cells := 6, slots := 12, locals := 66 } : Room)) (fun a_ U_ => a_ = #[(.int ln), (.int cx), (.int cy)] ∧ Z.Warmed39 U_.vm ∧ U_.heap = h0 ∧ CHv Z own_EL U_.vm h0) (fun _ _ _ _ _ => True) (fun _ U_ o_ V_ => ∃ v_ L_, o_ = .returned v_ ∧ own_Q1 Z ln cx cy cs h0 n0 v_ V_.heap L_ ∧ CHr Z own_EL U_.vm U_.heap V_.vm V_.heap ∧ ReturnedEndW U_ o_ V_ L_ ({ frames := 4, cells := 6, slots := 12, locals := 66 } : Room).cells ({ frames := 4, cells := 6, slots := 12, locals := 66 } : Room).slots) := by
  refine MetFree.of_bodySF (plainFor_of_name own_pn_com_example_marshal_trust_marshaltrust_FunctionGroupEqualsPinLaw) hisR ?_
  intro p e s m args below meth c s₁ Bd hml0 hP hK
  obtain ⟨rfl, hZ, hh, hCH⟩ := hP
  have hx := Bd.exec
  have hby := Bd.bytes
  have hml : c.maxLocals = 4 := hml0
  have hown : s.vm.findClass "com/example/marshal_trust/marshaltrust/FunctionGroupEqualsPinLaw" = some m.cls := findClass_of_methodNamed Bd.named
  have hnm := (name_of_methodNamed Bd.named Bd.method).1
  have X0 : Stand p l e ({ frames := 4, cells := 6, slots := 12, locals := 66 } : Room) s m #[(.int ln), (.int cx), (.int cy)] below meth c s₁ [] 0 0 := Stand.of_body Bd
  have e0 : s₁.heap = h0 := by rw [← hh, Bd.state]; rfl
  have N0 := Fr.nil n0
  show own_GW Z own_EL p e below s (own_Q1 Z ln cx cy cs h0 n0) ({ frames := 4, cells := 6, slots := 12, locals := 66 } : Room).cells ({ frames := 4, cells := 6, slots := 12, locals := 66 } : Room).slots s₁ (entryFrame m #[(.int ln), (.int cx), (.int cy)] 4)
  rw [own_rm1_ef]
  have hS0 : s.Since s.vm h0.size := (State.WarmedH.refl s).since _
  have CB0 : CHr Z own_EL s.vm h0 s.vm h0 := CHr.refl hCH
  rcases hl with rfl | rfl | rfl
  · refine own_ww (T' := s₁) (g' := (mkF m 1 #[.val (.int (0 : Int32)), .val (.int cx), .val (.int cy), .unset] [(.int (0 : Int32))])) (fun _ k_ => XS.iloadN X0.here hx rfl (hb hby own_d1_0) rfl k_) ?_
    obtain ⟨T1, h1, k1, X1, e1, E1, A1, st1⟩ := newP X0 hx hZ (hw _ (List.mem_of_getElem? (i := 4) rfl)) e0 (g := (mkF m 1 #[.val (.int (0 : Int32)), .val (.int cx), .val (.int cy), .unset] [(.int (0 : Int32))])) rfl (hb hby own_d1_1) rfl (by decide) (cap := 0) (by decide) (by decide) (by decide) (by decide)
    obtain ⟨b1, gq1⟩ : ∃ z, z = h0.size := ⟨_, rfl⟩
    rw [← gq1] at A1 st1
    have V_b1 := own_Ar_new A1 rfl (k := 0) rfl
    have g_b1 : n0 ≤ b1 := Nat.le_trans Z0 (Nat.le_of_eq gq1.symm)
    have Z1 : n0 ≤ h1.size := Nat.le_trans Z0 E1.1
    have CS1 : CHr Z own_EL s.vm h0 s.vm h1 := CB0.trans (CHr.ext E1 CB0.1)
    have sf1_b1 : Safe Z own_EL s.vm h1 b1 := Safe.ext E1 CB0.1 (Safe.new (Nat.le_of_eq gq1.symm))
    refine own_ww (T' := T1) (g' := (mkF m 3 #[.val (.int (0 : Int32)), .val (.int cx), .val (.int cy), .unset] [(.ref b1)])) st1 ?_
    have szb : h0.size ≤ b1 := Nat.le_of_eq gq1.symm
    refine own_ww (T' := T1) (g' := (mkF m 4 #[.val (.int (0 : Int32)), .val (.int cx), .val (.int cy), .val (.ref b1)] [])) (fun _ k_ => XS.astoreN X1.here hx rfl (hb hby own_d1_3) rfl rfl (l' := #[.val (.int (0 : Int32)), .val (.int cx), .val (.int cy), .val (.ref b1)]) rfl k_) ?_
    refine own_ww (T' := T1) (g' := (mkF m 5 #[.val (.int (0 : Int32)), .val (.int cx), .val (.int cy), .val (.ref b1)] [(.int (0 : Int32))])) (fun _ k_ => XS.iloadN X1.here hx rfl (hb hby own_d1_4) rfl k_) ?_
    refine own_ww (T' := T1) (g' := (mkF m 6 #[.val (.int (0 : Int32)), .val (.int cx), .val (.int cy), .val (.ref b1)] [(.int (1 : Int32)), (.int (0 : Int32))])) (fun _ k_ => XS.iconst X1.here hx rfl (hb hby own_d1_5) k_) ?_
    refine own_ww (T' := T1) (g' := (mkF m 13 #[.val (.int (0 : Int32)), .val (.int cx), .val (.int cy), .val (.ref b1)] [])) (fun _ k_ => XS.icmpYes X1.here hx rfl (pc0 := 6) (pc' := 13) rfl (hb hby own_d1_6) rfl (tlt (by decide)).1 (by decide) (by decide) k_) ?_
    refine own_ww (T' := T1) (g' := (mkF m 14 #[.val (.int (0 : Int32)), .val (.int cx), .val (.int cy), .val (.ref b1)] [(.int (0 : Int32))])) (fun _ k_ => XS.iloadN X1.here hx rfl (hb hby own_d1_13) rfl k_) ?_
    refine own_ww (T' := T1) (g' := (mkF m 15 #[.val (.int (0 : Int32)), .val (.int cx), .val (.int cy), .val (.ref b1)] [(.int (2 : Int32)), (.int (0 : Int32))])) (fun _ k_ => XS.iconst X1.here hx rfl (hb hby own_d1_14) k_) ?_
    refine own_ww (T' := T1) (g' := (mkF m 22 #[.val (.int (0 : Int32)), .val (.int cx), .val (.int cy), .val (.ref b1)] [])) (fun _ k_ => XS.icmpYes X1.here hx rfl (pc0 := 15) (pc' := 22) rfl (hb hby own_d1_15) rfl (tlt (by decide)).1 (by decide) (by decide) k_) ?_
    obtain ⟨T2, h2, X2, e2, E2, A2, D2, -, st2⟩ := newO X1 hx hZ hown (hw _ (List.mem_of_getElem? (i := 5) rfl)) (hw _ (List.mem_of_getElem? (i := 6) rfl)) (hw _ (List.mem_of_getElem? (i := 7) rfl)) e1 (g := (mkF m 22 #[.val (.int (0 : Int32)), .val (.int cx), .val (.int cy), .val (.ref b1)] [])) rfl (hb hby own_d1_22) (by decide) (by decide)
    obtain ⟨b2, gq2⟩ : ∃ z, z = h1.size := ⟨_, rfl⟩
    rw [← gq2] at A2 D2 st2
    have g_b2 : n0 ≤ b2 := Nat.le_trans Z1 (Nat.le_of_eq gq2.symm)
    have Z2 : n0 ≤ h2.size := Nat.le_trans Z1 E2.1
    have CS2 : CHr Z own_EL s.vm h0 s.vm h2 := CS1.trans (CHr.ext E2 CS1.1)
    have sf2_b1 := Safe.ext E2 CS1.1 sf1_b1
    have sf2_b2 : Safe Z own_EL s.vm h2 b2 := Safe.ext E2 CS1.1 (Safe.new (Nat.le_of_eq gq2.symm))
    refine own_ww (T' := T2) (g' := (mkF m 25 #[.val (.int (0 : Int32)), .val (.int cx), .val (.int cy), .val (.ref b1)] [(.ref b2)])) st2 ?_
    refine own_ww (T' := T2) (g' := (mkF m 26 #[.val (.int (0 : Int32)), .val (.int cx), .val (.int cy), .val (.ref b1)] [(.ref b2), (.ref b2)])) (fun _ k_ => XS.dup X2.here hx rfl (hb hby own_d1_25) rfl rfl k_) ?_
    refine own_ww (T' := T2) (g' := (mkF m 27 #[.val (.int (0 : Int32)), .val (.int cx), .val (.int cy), .val (.ref b1)] [(.ref b1), (.ref b2), (.ref b2)])) (fun _ k_ => XS.aloadN X2.here hx rfl (hb hby own_d1_26) rfl rfl k_) ?_
    have KA := ((Keep.refl h0 []).ext E1).ext E2
    have szb2 : h0.size ≤ b2 := Nat.le_trans ((Keep.refl h0 []).ext E1).1 (Nat.le_of_eq gq2.symm)
    obtain ⟨_, _, ⟨T3, L3, k3, n3⟩, -, X3', hs23, hg3, ⟨Lc3, hQ3, l3, y3, z3, cr3⟩, st3⟩ := X2.specialBackS hx (y := (⟨"java/lang/String", "<init>", "([C)V"⟩ : MethodName)) rfl hown (mvT hZ (hw _ (List.mem_of_getElem? (i := 8) rfl))) (mvT hZ (hw _ (List.mem_of_getElem? (i := 9) rfl))) (mvT hZ (hw _ (List.mem_of_getElem? (i := 10) rfl))) (by decide) (backOfSH (W := 1) (own_rm2_0 l Z a0 hw [] b2 b1 _ h2 n0 Z2 (D2 (Or.inr (hw _ (List.mem_of_getElem? (i := 20) rfl))) (ty := (.array .byte)) (by decide)) (D2 (Or.inr (hw _ (List.mem_of_getElem? (i := 21) rfl))) (ty := .byte) (by decide)) A2 g_b2 (own_Ar_ext V_b1 E2)) hZ (hw _ (List.mem_of_getElem? (i := 10) rfl)) (hw _ (List.mem_of_getElem? (i := 7) rfl)) (by decide) (by decide) (own_EW hw) CS2.1) (g := (mkF m 27 #[.val (.int (0 : Int32)), .val (.int cx), .val (.int cy), .val (.ref b1)] [(.ref b1), (.ref b2), (.ref b2)])) rfl (by rw [hml]; rfl) (Steps.refl _) (a := b2) (argsL := [(.ref b1)]) (rest := [(.ref b2)]) (lenOf own_pd4 rfl) rfl (by show 2 * 0 + _ ≤ _; exact Nat.le_of_eq rfl) (hb hby own_d1_27) (fun _ _ => ⟨rfl, e2, (by decide : 2 + 4 ≤ _), (by decide : 4 + 8 ≤ _)⟩)
    dsimp only [Pt.U, Pt.locs, Pt.cells, Pt.slots] at X3' hs23 hg3 l3 y3 z3 st3 hQ3 cr3
    subst l3 y3 z3
    obtain ⟨X3, hS3, hZ3, ho3⟩ := rebS hS0 (by rw [e2]; exact CS2.2.1) X3' hs23 hg3 hZ hown
    obtain ⟨h3, e3⟩ : ∃ h, T3.heap = h := ⟨_, rfl⟩
    rw [e3] at hQ3 hS3 cr3
    obtain ⟨rfl, N3q, K3, Q3⟩ := hQ3
    have N3 := Fr.app N0 N3q
    have CB3 : CHr Z own_EL s.vm h0 T3.vm h3 := (CB0.trans CS2).trans cr3
    have CS3 : CHr Z own_EL T3.vm h3 T3.vm h3 := CHr.refl CB3.1
    have Z3 : n0 ≤ h3.size := Nat.le_trans Z2 cr3.2.1
    refine own_wt (T' := T3) (g' := (mkF m 30 #[.val (.int (0 : Int32)), .val (.int cx), .val (.int cy), .val (.ref b1)] [(.ref b2)])) st3 ?_
    obtain ⟨fs, hr, hrun, hended, hRE⟩ := X3.leaveW (own_since hS3 CS3.2.1) (by rw [e3]; exact Nat.le_refl _) (v := some (.ref b2)) (fun h => by rw [Bd.returns] at h; cases h)
    exact ⟨_, _, retOut X3 hx Bd.returns rfl (Or.inr (Or.inr (Or.inr (Or.inr ⟨rfl, rfl, rfl⟩)))) (hb hby own_d1_30) hr, hrun, hended, _, _, rfl, (by show own_Q1 Z (0 : Int32) cx cy cs h0 n0 _ T3.heap _; rw [e3]; exact ⟨_, rfl, N3, KA.trans K3 (fun x hx => Or.inr (by rw [List.mem_singleton.mp hx]; exact szb2)), (by simpa [own_mk] using Q3)⟩), (by show CHr Z own_EL s.vm s.heap T3.vm T3.heap; rw [e3, hh]; exact (CB3.trans CS3).trans (CHv.at X3 hZ3 (own_EW hw) CS3.1)), own_rmono hRE (by decide) (by decide)⟩
  · refine own_ww (T' := s₁) (g' := (mkF m 1 #[.val (.int (1 : Int32)), .val (.int cx), .val (.int cy), .unset] [(.int (1 : Int32))])) (fun _ k_ => XS.iloadN X0.here hx rfl (hb hby own_d1_0) rfl k_) ?_
    obtain ⟨T4, h4, k4, X4, e4, E4, A4, st4⟩ := newP X0 hx hZ (hw _ (List.mem_of_getElem? (i := 4) rfl)) e0 (g := (mkF m 1 #[.val (.int (1 : Int32)), .val (.int cx), .val (.int cy), .unset] [(.int (1 : Int32))])) rfl (hb hby own_d1_1) rfl (by decide) (cap := 1) (by decide) (by decide) (by decide) (by decide)
    obtain ⟨b4, gq4⟩ : ∃ z, z = h0.size := ⟨_, rfl⟩
    rw [← gq4] at A4 st4
    have V_b4 := own_Ar_new A4 rfl (k := 1) rfl
    have g_b4 : n0 ≤ b4 := Nat.le_trans Z0 (Nat.le_of_eq gq4.symm)
    have Z4 : n0 ≤ h4.size := Nat.le_trans Z0 E4.1
    have CS4 : CHr Z own_EL s.vm h0 s.vm h4 := CB0.trans (CHr.ext E4 CB0.1)
    have sf4_b4 : Safe Z own_EL s.vm h4 b4 := Safe.ext E4 CB0.1 (Safe.new (Nat.le_of_eq gq4.symm))
    refine own_ww (T' := T4) (g' := (mkF m 3 #[.val (.int (1 : Int32)), .val (.int cx), .val (.int cy), .unset] [(.ref b4)])) st4 ?_
    have szb : h0.size ≤ b4 := Nat.le_of_eq gq4.symm
    refine own_ww (T' := T4) (g' := (mkF m 4 #[.val (.int (1 : Int32)), .val (.int cx), .val (.int cy), .val (.ref b4)] [])) (fun _ k_ => XS.astoreN X4.here hx rfl (hb hby own_d1_3) rfl rfl (l' := #[.val (.int (1 : Int32)), .val (.int cx), .val (.int cy), .val (.ref b4)]) rfl k_) ?_
    refine own_ww (T' := T4) (g' := (mkF m 5 #[.val (.int (1 : Int32)), .val (.int cx), .val (.int cy), .val (.ref b4)] [(.int (1 : Int32))])) (fun _ k_ => XS.iloadN X4.here hx rfl (hb hby own_d1_4) rfl k_) ?_
    refine own_ww (T' := T4) (g' := (mkF m 6 #[.val (.int (1 : Int32)), .val (.int cx), .val (.int cy), .val (.ref b4)] [(.int (1 : Int32)), (.int (1 : Int32))])) (fun _ k_ => XS.iconst X4.here hx rfl (hb hby own_d1_5) k_) ?_
    refine own_ww (T' := T4) (g' := (mkF m 9 #[.val (.int (1 : Int32)), .val (.int cx), .val (.int cy), .val (.ref b4)] [])) (fun _ k_ => XS.icmpNo X4.here hx rfl (hb hby own_d1_6) rfl (flt (by decide)).1 k_) ?_
    refine own_ww (T' := T4) (g' := (mkF m 10 #[.val (.int (1 : Int32)), .val (.int cx), .val (.int cy), .val (.ref b4)] [(.ref b4)])) (fun _ k_ => XS.aloadN X4.here hx rfl (hb hby own_d1_9) rfl rfl k_) ?_
    refine own_ww (T' := T4) (g' := (mkF m 11 #[.val (.int (1 : Int32)), .val (.int cx), .val (.int cy), .val (.ref b4)] [(.int (0 : Int32)), (.ref b4)])) (fun _ k_ => XS.iconst X4.here hx rfl (hb hby own_d1_10) k_) ?_
    refine own_ww (T' := T4) (g' := (mkF m 12 #[.val (.int (1 : Int32)), .val (.int cx), .val (.int cy), .val (.ref b4)] [(.int cx), (.int (0 : Int32)), (.ref b4)])) (fun _ k_ => XS.iloadN X4.here hx rfl (hb hby own_d1_11) rfl k_) ?_
    obtain ⟨cl5, Ar5, hs5⟩ := id V_b4
    obtain ⟨T5, h5, X5, e5, W5, st5⟩ := stC X4 hx hZ e4 Ar5 (j := (0 : Int32)) (own_Ar_in (i := 0) hs5 (by decide) (by simp)) (g := (mkF m 12 #[.val (.int (1 : Int32)), .val (.int cx), .val (.int cy), .val (.ref b4)] [(.int cx), (.int (0 : Int32)), (.ref b4)])) rfl rfl (hb hby own_d1_12)
    have V5 := own_Ar_set (i := 0) V_b4 W5 (by decide) hx2
    have N5 := Fr.snoc X5 N0 g_b4
    have Z5 : n0 ≤ h5.size := Nat.le_trans Z4 (Keep.of_wr W5).1
    have CS5 : CHr Z own_EL s.vm h0 s.vm h5 := CS4.trans (CHr.wr W5 sf4_b4 CS4.1)
    have sf5_b4 := Safe.wr W5 sf4_b4 CS4.1 sf4_b4
    refine own_ww (T' := T5) (g' := (mkF m 13 #[.val (.int (1 : Int32)), .val (.int cx), .val (.int cy), .val (.ref b4)] [])) st5 ?_
    have KK5 := ((Keep.refl h0 []).ext E4).wr W5 (Or.inr szb)
    have S5 := Sta.wr W5 (S.ext E4)
    refine own_ww (T' := T5) (g' := (mkF m 14 #[.val (.int (1 : Int32)), .val (.int cx), .val (.int cy), .val (.ref b4)] [(.int (1 : Int32))])) (fun _ k_ => XS.iloadN X5.here hx rfl (hb hby own_d1_13) rfl k_) ?_
    refine own_ww (T' := T5) (g' := (mkF m 15 #[.val (.int (1 : Int32)), .val (.int cx), .val (.int cy), .val (.ref b4)] [(.int (2 : Int32)), (.int (1 : Int32))])) (fun _ k_ => XS.iconst X5.here hx rfl (hb hby own_d1_14) k_) ?_
    refine own_ww (T' := T5) (g' := (mkF m 22 #[.val (.int (1 : Int32)), .val (.int cx), .val (.int cy), .val (.ref b4)] [])) (fun _ k_ => XS.icmpYes X5.here hx rfl (pc0 := 15) (pc' := 22) rfl (hb hby own_d1_15) rfl (tlt (by decide)).1 (by decide) (by decide) k_) ?_
    obtain ⟨T6, h6, X6, e6, E6, A6, D6, -, st6⟩ := newO X5 hx hZ hown (hw _ (List.mem_of_getElem? (i := 5) rfl)) (hw _ (List.mem_of_getElem? (i := 6) rfl)) (hw _ (List.mem_of_getElem? (i := 7) rfl)) e5 (g := (mkF m 22 #[.val (.int (1 : Int32)), .val (.int cx), .val (.int cy), .val (.ref b4)] [])) rfl (hb hby own_d1_22) (by decide) (by decide)
    obtain ⟨b6, gq6⟩ : ∃ z, z = h5.size := ⟨_, rfl⟩
    rw [← gq6] at A6 D6 st6
    have g_b6 : n0 ≤ b6 := Nat.le_trans Z5 (Nat.le_of_eq gq6.symm)
    have Z6 : n0 ≤ h6.size := Nat.le_trans Z5 E6.1
    have CS6 : CHr Z own_EL s.vm h0 s.vm h6 := CS5.trans (CHr.ext E6 CS5.1)
    have sf6_b4 := Safe.ext E6 CS5.1 sf5_b4
    have sf6_b6 : Safe Z own_EL s.vm h6 b6 := Safe.ext E6 CS5.1 (Safe.new (Nat.le_of_eq gq6.symm))
    refine own_ww (T' := T6) (g' := (mkF m 25 #[.val (.int (1 : Int32)), .val (.int cx), .val (.int cy), .val (.ref b4)] [(.ref b6)])) st6 ?_
    refine own_ww (T' := T6) (g' := (mkF m 26 #[.val (.int (1 : Int32)), .val (.int cx), .val (.int cy), .val (.ref b4)] [(.ref b6), (.ref b6)])) (fun _ k_ => XS.dup X6.here hx rfl (hb hby own_d1_25) rfl rfl k_) ?_
    refine own_ww (T' := T6) (g' := (mkF m 27 #[.val (.int (1 : Int32)), .val (.int cx), .val (.int cy), .val (.ref b4)] [(.ref b4), (.ref b6), (.ref b6)])) (fun _ k_ => XS.aloadN X6.here hx rfl (hb hby own_d1_26) rfl rfl k_) ?_
    have KA := KK5.ext E6
    have szb2 : h0.size ≤ b6 := Nat.le_trans KK5.1 (Nat.le_of_eq gq6.symm)
    obtain ⟨_, _, ⟨T7, L7, k7, n7⟩, -, X7, ⟨Lc7, hQ7, l7, y7, z7⟩, st7⟩ := X6.specialBack hx (y := (⟨"java/lang/String", "<init>", "([C)V"⟩ : MethodName)) rfl hown (mvT hZ (hw _ (List.mem_of_getElem? (i := 8) rfl))) (mvT hZ (hw _ (List.mem_of_getElem? (i := 9) rfl))) (mvT hZ (hw _ (List.mem_of_getElem? (i := 10) rfl))) (by decide) (backOf (W := 1) (own_rm2_1 l Z a0 hw [] b6 b4 _ _ cs cx h6 n0 Z6 (D6 (Or.inr (hw _ (List.mem_of_getElem? (i := 20) rfl))) (ty := (.array .byte)) (by decide)) (D6 (Or.inr (hw _ (List.mem_of_getElem? (i := 21) rfl))) (ty := .byte) (by decide)) A6 g_b6 (own_Ar_ext V5 E6) hcs (Sta.ext E6 S5) hx1) hZ (hw _ (List.mem_of_getElem? (i := 10) rfl)) (hw _ (List.mem_of_getElem? (i := 7) rfl)) (by decide) (by decide)) (g := (mkF m 27 #[.val (.int (1 : Int32)), .val (.int cx), .val (.int cy), .val (.ref b4)] [(.ref b4), (.ref b6), (.ref b6)])) rfl (by rw [hml]; rfl) (Steps.refl _) (a := b6) (argsL := [(.ref b4)]) (rest := [(.ref b6)]) (lenOf own_pd4 rfl) rfl (by show 2 * 0 + _ ≤ _; exact Nat.le_of_eq rfl) (hb hby own_d1_27) (fun _ _ => ⟨rfl, e6, (by decide : 2 + 1 ≤ _), (by decide : 5 + 1 ≤ _)⟩)
    dsimp only [Pt.U, Pt.locs, Pt.cells, Pt.slots] at X7 l7 y7 z7 st7 hQ7
    subst l7 y7 z7
    obtain ⟨h7, e7⟩ : ∃ h, T7.heap = h := ⟨_, rfl⟩
    rw [e7] at hQ7
    obtain ⟨rfl, N7q, K7, Q7⟩ := hQ7
    have CS7 : CHr Z own_EL s.vm h0 s.vm h7 := CS6.trans (CHr.keep K7 (sfS sf6_b6 sf0) CS6.1)
    have sf7_b4 := Safe.keep K7 (sfS sf6_b6 sf0) CS6.1 sf6_b4
    have sf7_b6 := Safe.keep K7 (sfS sf6_b6 sf0) CS6.1 sf6_b6
    have N7 := Fr.app N5 N7q
    refine own_wt (T' := T7) (g' := (mkF m 30 #[.val (.int (1 : Int32)), .val (.int cx), .val (.int cy), .val (.ref b4)] [(.ref b6)])) st7 ?_
    have Z7 : n0 ≤ h7.size := Nat.le_trans Z6 K7.1
    obtain ⟨fs, hr, hrun, hended, hRE⟩ := X7.leaveW (own_since hS0 CS7.2.1) (by rw [e7]; exact Nat.le_refl _) (v := some (.ref b6)) (fun h => by rw [Bd.returns] at h; cases h)
    exact ⟨_, _, retOut X7 hx Bd.returns rfl (Or.inr (Or.inr (Or.inr (Or.inr ⟨rfl, rfl, rfl⟩)))) (hb hby own_d1_30) hr, hrun, hended, _, _, rfl, (by show own_Q1 Z (1 : Int32) cx cy cs h0 n0 _ T7.heap _; rw [e7]; exact ⟨_, rfl, N7, KA.trans K7 (fun x hx => Or.inr (by rw [List.mem_singleton.mp hx]; exact szb2)), (by simpa [own_mk] using Q7)⟩), (by show CHr Z own_EL s.vm s.heap T7.vm T7.heap; rw [e7, hh]; exact (CB0.trans CS7).trans (CHv.at X7 hZ (own_EW hw) CS7.1)), own_rmono hRE (by decide) (by decide)⟩
  · refine own_ww (T' := s₁) (g' := (mkF m 1 #[.val (.int (2 : Int32)), .val (.int cx), .val (.int cy), .unset] [(.int (2 : Int32))])) (fun _ k_ => XS.iloadN X0.here hx rfl (hb hby own_d1_0) rfl k_) ?_
    obtain ⟨T8, h8, k8, X8, e8, E8, A8, st8⟩ := newP X0 hx hZ (hw _ (List.mem_of_getElem? (i := 4) rfl)) e0 (g := (mkF m 1 #[.val (.int (2 : Int32)), .val (.int cx), .val (.int cy), .unset] [(.int (2 : Int32))])) rfl (hb hby own_d1_1) rfl (by decide) (cap := 2) (by decide) (by decide) (by decide) (by decide)
    obtain ⟨b8, gq8⟩ : ∃ z, z = h0.size := ⟨_, rfl⟩
    rw [← gq8] at A8 st8
    have V_b8 := own_Ar_new A8 rfl (k := 2) rfl
    have g_b8 : n0 ≤ b8 := Nat.le_trans Z0 (Nat.le_of_eq gq8.symm)
    have Z8 : n0 ≤ h8.size := Nat.le_trans Z0 E8.1
    have CS8 : CHr Z own_EL s.vm h0 s.vm h8 := CB0.trans (CHr.ext E8 CB0.1)
    have sf8_b8 : Safe Z own_EL s.vm h8 b8 := Safe.ext E8 CB0.1 (Safe.new (Nat.le_of_eq gq8.symm))
    refine own_ww (T' := T8) (g' := (mkF m 3 #[.val (.int (2 : Int32)), .val (.int cx), .val (.int cy), .unset] [(.ref b8)])) st8 ?_
    have szb : h0.size ≤ b8 := Nat.le_of_eq gq8.symm
    refine own_ww (T' := T8) (g' := (mkF m 4 #[.val (.int (2 : Int32)), .val (.int cx), .val (.int cy), .val (.ref b8)] [])) (fun _ k_ => XS.astoreN X8.here hx rfl (hb hby own_d1_3) rfl rfl (l' := #[.val (.int (2 : Int32)), .val (.int cx), .val (.int cy), .val (.ref b8)]) rfl k_) ?_
    refine own_ww (T' := T8) (g' := (mkF m 5 #[.val (.int (2 : Int32)), .val (.int cx), .val (.int cy), .val (.ref b8)] [(.int (2 : Int32))])) (fun _ k_ => XS.iloadN X8.here hx rfl (hb hby own_d1_4) rfl k_) ?_
    refine own_ww (T' := T8) (g' := (mkF m 6 #[.val (.int (2 : Int32)), .val (.int cx), .val (.int cy), .val (.ref b8)] [(.int (1 : Int32)), (.int (2 : Int32))])) (fun _ k_ => XS.iconst X8.here hx rfl (hb hby own_d1_5) k_) ?_
    refine own_ww (T' := T8) (g' := (mkF m 9 #[.val (.int (2 : Int32)), .val (.int cx), .val (.int cy), .val (.ref b8)] [])) (fun _ k_ => XS.icmpNo X8.here hx rfl (hb hby own_d1_6) rfl (flt (by decide)).1 k_) ?_
    refine own_ww (T' := T8) (g' := (mkF m 10 #[.val (.int (2 : Int32)), .val (.int cx), .val (.int cy), .val (.ref b8)] [(.ref b8)])) (fun _ k_ => XS.aloadN X8.here hx rfl (hb hby own_d1_9) rfl rfl k_) ?_
    refine own_ww (T' := T8) (g' := (mkF m 11 #[.val (.int (2 : Int32)), .val (.int cx), .val (.int cy), .val (.ref b8)] [(.int (0 : Int32)), (.ref b8)])) (fun _ k_ => XS.iconst X8.here hx rfl (hb hby own_d1_10) k_) ?_
    refine own_ww (T' := T8) (g' := (mkF m 12 #[.val (.int (2 : Int32)), .val (.int cx), .val (.int cy), .val (.ref b8)] [(.int cx), (.int (0 : Int32)), (.ref b8)])) (fun _ k_ => XS.iloadN X8.here hx rfl (hb hby own_d1_11) rfl k_) ?_
    obtain ⟨cl9, Ar9, hs9⟩ := id V_b8
    obtain ⟨T9, h9, X9, e9, W9, st9⟩ := stC X8 hx hZ e8 Ar9 (j := (0 : Int32)) (own_Ar_in (i := 0) hs9 (by decide) (by simp)) (g := (mkF m 12 #[.val (.int (2 : Int32)), .val (.int cx), .val (.int cy), .val (.ref b8)] [(.int cx), (.int (0 : Int32)), (.ref b8)])) rfl rfl (hb hby own_d1_12)
    have V9 := own_Ar_set (i := 0) V_b8 W9 (by decide) hx2
    have N9 := Fr.snoc X9 N0 g_b8
    have Z9 : n0 ≤ h9.size := Nat.le_trans Z8 (Keep.of_wr W9).1
    have CS9 : CHr Z own_EL s.vm h0 s.vm h9 := CS8.trans (CHr.wr W9 sf8_b8 CS8.1)
    have sf9_b8 := Safe.wr W9 sf8_b8 CS8.1 sf8_b8
    refine own_ww (T' := T9) (g' := (mkF m 13 #[.val (.int (2 : Int32)), .val (.int cx), .val (.int cy), .val (.ref b8)] [])) st9 ?_
    have KK9 := ((Keep.refl h0 []).ext E8).wr W9 (Or.inr szb)
    have S9 := Sta.wr W9 (S.ext E8)
    refine own_ww (T' := T9) (g' := (mkF m 14 #[.val (.int (2 : Int32)), .val (.int cx), .val (.int cy), .val (.ref b8)] [(.int (2 : Int32))])) (fun _ k_ => XS.iloadN X9.here hx rfl (hb hby own_d1_13) rfl k_) ?_
    refine own_ww (T' := T9) (g' := (mkF m 15 #[.val (.int (2 : Int32)), .val (.int cx), .val (.int cy), .val (.ref b8)] [(.int (2 : Int32)), (.int (2 : Int32))])) (fun _ k_ => XS.iconst X9.here hx rfl (hb hby own_d1_14) k_) ?_
    refine own_ww (T' := T9) (g' := (mkF m 18 #[.val (.int (2 : Int32)), .val (.int cx), .val (.int cy), .val (.ref b8)] [])) (fun _ k_ => XS.icmpNo X9.here hx rfl (hb hby own_d1_15) rfl (flt (by decide)).1 k_) ?_
    refine own_ww (T' := T9) (g' := (mkF m 19 #[.val (.int (2 : Int32)), .val (.int cx), .val (.int cy), .val (.ref b8)] [(.ref b8)])) (fun _ k_ => XS.aloadN X9.here hx rfl (hb hby own_d1_18) rfl rfl k_) ?_
    refine own_ww (T' := T9) (g' := (mkF m 20 #[.val (.int (2 : Int32)), .val (.int cx), .val (.int cy), .val (.ref b8)] [(.int (1 : Int32)), (.ref b8)])) (fun _ k_ => XS.iconst X9.here hx rfl (hb hby own_d1_19) k_) ?_
    refine own_ww (T' := T9) (g' := (mkF m 21 #[.val (.int (2 : Int32)), .val (.int cx), .val (.int cy), .val (.ref b8)] [(.int cy), (.int (1 : Int32)), (.ref b8)])) (fun _ k_ => XS.iloadN X9.here hx rfl (hb hby own_d1_20) rfl k_) ?_
    obtain ⟨cl10, Ar10, hs10⟩ := id V9
    obtain ⟨T10, h10, X10, e10, W10, st10⟩ := stC X9 hx hZ e9 Ar10 (j := (1 : Int32)) (own_Ar_in (i := 1) hs10 (by decide) (by simp)) (g := (mkF m 21 #[.val (.int (2 : Int32)), .val (.int cx), .val (.int cy), .val (.ref b8)] [(.int cy), (.int (1 : Int32)), (.ref b8)])) rfl rfl (hb hby own_d1_21)
    have V10 := own_Ar_set (i := 1) V9 W10 (by decide) hy2
    have N10 := Fr.snoc X10 N9 g_b8
    have Z10 : n0 ≤ h10.size := Nat.le_trans Z9 (Keep.of_wr W10).1
    have CS10 : CHr Z own_EL s.vm h0 s.vm h10 := CS9.trans (CHr.wr W10 sf9_b8 CS9.1)
    have sf10_b8 := Safe.wr W10 sf9_b8 CS9.1 sf9_b8
    refine own_ww (T' := T10) (g' := (mkF m 22 #[.val (.int (2 : Int32)), .val (.int cx), .val (.int cy), .val (.ref b8)] [])) st10 ?_
    have KK10 := KK9.wr W10 (Or.inr szb)
    have S10 := Sta.wr W10 S9
    obtain ⟨T11, h11, X11, e11, E11, A11, D11, -, st11⟩ := newO X10 hx hZ hown (hw _ (List.mem_of_getElem? (i := 5) rfl)) (hw _ (List.mem_of_getElem? (i := 6) rfl)) (hw _ (List.mem_of_getElem? (i := 7) rfl)) e10 (g := (mkF m 22 #[.val (.int (2 : Int32)), .val (.int cx), .val (.int cy), .val (.ref b8)] [])) rfl (hb hby own_d1_22) (by decide) (by decide)
    obtain ⟨b11, gq11⟩ : ∃ z, z = h10.size := ⟨_, rfl⟩
    rw [← gq11] at A11 D11 st11
    have g_b11 : n0 ≤ b11 := Nat.le_trans Z10 (Nat.le_of_eq gq11.symm)
    have Z11 : n0 ≤ h11.size := Nat.le_trans Z10 E11.1
    have CS11 : CHr Z own_EL s.vm h0 s.vm h11 := CS10.trans (CHr.ext E11 CS10.1)
    have sf11_b8 := Safe.ext E11 CS10.1 sf10_b8
    have sf11_b11 : Safe Z own_EL s.vm h11 b11 := Safe.ext E11 CS10.1 (Safe.new (Nat.le_of_eq gq11.symm))
    refine own_ww (T' := T11) (g' := (mkF m 25 #[.val (.int (2 : Int32)), .val (.int cx), .val (.int cy), .val (.ref b8)] [(.ref b11)])) st11 ?_
    refine own_ww (T' := T11) (g' := (mkF m 26 #[.val (.int (2 : Int32)), .val (.int cx), .val (.int cy), .val (.ref b8)] [(.ref b11), (.ref b11)])) (fun _ k_ => XS.dup X11.here hx rfl (hb hby own_d1_25) rfl rfl k_) ?_
    refine own_ww (T' := T11) (g' := (mkF m 27 #[.val (.int (2 : Int32)), .val (.int cx), .val (.int cy), .val (.ref b8)] [(.ref b8), (.ref b11), (.ref b11)])) (fun _ k_ => XS.aloadN X11.here hx rfl (hb hby own_d1_26) rfl rfl k_) ?_
    have KA := KK10.ext E11
    have szb2 : h0.size ≤ b11 := Nat.le_trans KK10.1 (Nat.le_of_eq gq11.symm)
    obtain ⟨_, _, ⟨T12, L12, k12, n12⟩, -, X12, ⟨Lc12, hQ12, l12, y12, z12⟩, st12⟩ := X11.specialBack hx (y := (⟨"java/lang/String", "<init>", "([C)V"⟩ : MethodName)) rfl hown (mvT hZ (hw _ (List.mem_of_getElem? (i := 8) rfl))) (mvT hZ (hw _ (List.mem_of_getElem? (i := 9) rfl))) (mvT hZ (hw _ (List.mem_of_getElem? (i := 10) rfl))) (by decide) (backOf (W := 1) (own_rm2_2 l Z a0 hw [] b11 b8 _ _ cs cx cy h11 n0 Z11 (D11 (Or.inr (hw _ (List.mem_of_getElem? (i := 20) rfl))) (ty := (.array .byte)) (by decide)) (D11 (Or.inr (hw _ (List.mem_of_getElem? (i := 21) rfl))) (ty := .byte) (by decide)) A11 g_b11 (own_Ar_ext V10 E11) hcs (Sta.ext E11 S10) hx1 hy1) hZ (hw _ (List.mem_of_getElem? (i := 10) rfl)) (hw _ (List.mem_of_getElem? (i := 7) rfl)) (by decide) (by decide)) (g := (mkF m 27 #[.val (.int (2 : Int32)), .val (.int cx), .val (.int cy), .val (.ref b8)] [(.ref b8), (.ref b11), (.ref b11)])) rfl (by rw [hml]; rfl) (Steps.refl _) (a := b11) (argsL := [(.ref b8)]) (rest := [(.ref b11)]) (lenOf own_pd4 rfl) rfl (by show 2 * 0 + _ ≤ _; exact Nat.le_of_eq rfl) (hb hby own_d1_27) (fun _ _ => ⟨rfl, e11, (by decide : 2 + 1 ≤ _), (by decide : 6 + 2 ≤ _)⟩)
    dsimp only [Pt.U, Pt.locs, Pt.cells, Pt.slots] at X12 l12 y12 z12 st12 hQ12
    subst l12 y12 z12
    obtain ⟨h12, e12⟩ : ∃ h, T12.heap = h := ⟨_, rfl⟩
    rw [e12] at hQ12
    obtain ⟨rfl, N12q, K12, Q12⟩ := hQ12
    have CS12 : CHr Z own_EL s.vm h0 s.vm h12 := CS11.trans (CHr.keep K12 (sfS sf11_b11 sf0) CS11.1)
    have sf12_b8 := Safe.keep K12 (sfS sf11_b11 sf0) CS11.1 sf11_b8
    have sf12_b11 := Safe.keep K12 (sfS sf11_b11 sf0) CS11.1 sf11_b11
    have N12 := Fr.app N10 N12q
    refine own_wt (T' := T12) (g' := (mkF m 30 #[.val (.int (2 : Int32)), .val (.int cx), .val (.int cy), .val (.ref b8)] [(.ref b11)])) st12 ?_
    have Z12 : n0 ≤ h12.size := Nat.le_trans Z11 K12.1
    obtain ⟨fs, hr, hrun, hended, hRE⟩ := X12.leaveW (own_since hS0 CS12.2.1) (by rw [e12]; exact Nat.le_refl _) (v := some (.ref b11)) (fun h => by rw [Bd.returns] at h; cases h)
    exact ⟨_, _, retOut X12 hx Bd.returns rfl (Or.inr (Or.inr (Or.inr (Or.inr ⟨rfl, rfl, rfl⟩)))) (hb hby own_d1_30) hr, hrun, hended, _, _, rfl, (by show own_Q1 Z (2 : Int32) cx cy cs h0 n0 _ T12.heap _; rw [e12]; exact ⟨_, rfl, N12, KA.trans K12 (fun x hx => Or.inr (by rw [List.mem_singleton.mp hx]; exact szb2)), (by simpa [own_mk] using Q12)⟩), (by show CHr Z own_EL s.vm s.heap T12.vm T12.heap; rw [e12, hh]; exact (CB0.trans CS12).trans (CHv.at X12 hZ (own_EW hw) CS12.1)), own_rmono hRE (by decide) (by decide)⟩
theorem own_len {c : Cell} {xs : List Int32} (hs : c.slots = (xs.map Value.int).toArray) : c.slots.size.toInt32 = xs.length.toInt32 := by rw [hs]; simp
theorem own_i32 {n : Nat} (h : n < 1000) : (n.toInt32).toInt = (n : Int) := Int32.toInt_ofNat_of_lt (by omega)
theorem own_n1 {n : Int32} {a : Nat} (h : n.toInt = (a : Int)) (ha : a < 1000) : (n + 1).toInt = ((a + 1 : Nat) : Int) := by
  have := c_iadd n 1
  have e : (1 : Int32).toInt = 1 := by decide
  have l1 := (n + 1).toInt_lt; have l2 := (n + 1).le_toInt
  omega
theorem own_stepj {xs ys : List Int32} {i : Nat} {x y : Int32} (hj : ∀ j, j < i → xs[j]? = ys[j]?) (hx : xs[i]? = some x) (hy : ys[i]? = some y) (e : x = y) : ∀ j, j < i + 1 → xs[j]? = ys[j]? := fun j q => by
  by_cases h : j = i
  · rw [h, hx, hy, e]
  · exact hj j (by omega)
theorem own_nej {xs ys : List Int32} {i : Nat} {x y : Int32} (hx : xs[i]? = some x) (hy : ys[i]? = some y) (ne : ¬ x = y) : ¬ xs = ys := fun q => by
  subst q
  exact ne (Option.some.inj (hx.symm.trans hy))
theorem own_ext {xs ys : List Int32} {i : Nat} (hl : xs.length = ys.length) (h : ∀ j, j < i → xs[j]? = ys[j]?) (hi : xs.length ≤ i) : xs = ys := by
  apply List.ext_getElem?
  intro j
  by_cases q : j < i
  · exact h j q
  · rw [List.getElem?_eq_none (by omega), List.getElem?_eq_none (by omega)]
theorem own_d8_0 : decode jdk_43_method_13_code 0 = .ok (.aload_n 0, 1) := by decide +kernel
theorem own_d8_1 : decode jdk_43_method_13_code 1 = .ok (.arraylength, 1) := by decide +kernel
theorem own_d8_2 : decode jdk_43_method_13_code 2 = .ok (.aload_n 1, 1) := by decide +kernel
theorem own_d8_3 : decode jdk_43_method_13_code 3 = .ok (.arraylength, 1) := by decide +kernel
theorem own_d8_4 : decode jdk_43_method_13_code 4 = .ok (.if_icmp .ne 30, 3) := by decide +kernel
theorem own_d8_7 : decode jdk_43_method_13_code 7 = .ok (.iconst 0, 1) := by decide +kernel
theorem own_d8_8 : decode jdk_43_method_13_code 8 = .ok (.istore_n 2, 1) := by decide +kernel
theorem own_d8_9 : decode jdk_43_method_13_code 9 = .ok (.iload_n 2, 1) := by decide +kernel
theorem own_d8_10 : decode jdk_43_method_13_code 10 = .ok (.aload_n 0, 1) := by decide +kernel
theorem own_d8_11 : decode jdk_43_method_13_code 11 = .ok (.arraylength, 1) := by decide +kernel
theorem own_d8_12 : decode jdk_43_method_13_code 12 = .ok (.if_icmp .ge 20, 3) := by decide +kernel
theorem own_d8_32 : decode jdk_43_method_13_code 32 = .ok (.iconst 1, 1) := by decide +kernel
theorem own_d8_33 : decode jdk_43_method_13_code 33 = .ok (.ireturn, 1) := by decide +kernel
theorem own_d8_15 : decode jdk_43_method_13_code 15 = .ok (.aload_n 0, 1) := by decide +kernel
theorem own_d8_16 : decode jdk_43_method_13_code 16 = .ok (.iload_n 2, 1) := by decide +kernel
theorem own_d8_17 : decode jdk_43_method_13_code 17 = .ok (.baload, 1) := by decide +kernel
theorem own_d8_18 : decode jdk_43_method_13_code 18 = .ok (.aload_n 1, 1) := by decide +kernel
theorem own_d8_19 : decode jdk_43_method_13_code 19 = .ok (.iload_n 2, 1) := by decide +kernel
theorem own_d8_20 : decode jdk_43_method_13_code 20 = .ok (.baload, 1) := by decide +kernel
theorem own_d8_21 : decode jdk_43_method_13_code 21 = .ok (.if_icmp .eq 5, 3) := by decide +kernel
theorem own_d8_26 : decode jdk_43_method_13_code 26 = .ok (.iinc 2 1, 3) := by decide +kernel
theorem own_d8_29 : decode jdk_43_method_13_code 29 = .ok (.goto (-20), 3) := by decide +kernel
theorem own_d8_24 : decode jdk_43_method_13_code 24 = .ok (.iconst 0, 1) := by decide +kernel
theorem own_d8_25 : decode jdk_43_method_13_code 25 = .ok (.ireturn, 1) := by decide +kernel
theorem own_d8_34 : decode jdk_43_method_13_code 34 = .ok (.iconst 0, 1) := by decide +kernel
theorem own_d8_35 : decode jdk_43_method_13_code 35 = .ok (.ireturn, 1) := by decide +kernel
theorem own_pn_java_lang_StringLatin1 : plainName "java/lang/StringLatin1" = true := by first | (simp [plainName, overriddenIn]; done) | decide +kernel
theorem own_rm8_ef (m : MethodId) (xa : Addr) (ya : Addr) : entryFrame m #[(.ref xa), (.ref ya)] 3 = mkF m 0 #[.val (.ref xa), .val (.ref ya), .unset] [] := by first | (simp [entryFrame, mkF, argsToLocals, Value.category]; done) | rfl
def own_Q8 (Z : State) (xa : Addr) (ya : Addr) (xs : List Int32) (ys : List Int32) (h0 : Heap) (n0 : Nat) (v_ : Option Value) (h : Heap) (L_ : List Loc) : Prop := v_ = some (.int (if (xs = ys) then (1 : Int32) else 0)) ∧ Fr n0 L_ ∧ (h = h0)
set_option maxRecDepth 65536 in
set_option maxHeartbeats 40000000 in
theorem own_rm8 (l : Launch) (Z : State) (a0 : Array Value) (hw : ∀ d ∈ tables_1, d.before a0 Z = true) (ws : List Jvm.Cond) (xa : Addr) (ya : Addr) (xs : List Int32) (ys : List Int32) (h0 : Heap) (n0 : Nat) (Z0 : n0 ≤ h0.size) (Vx : own_Ar Z h0 xa .byte xs) (Vy : own_Ar Z h0 ya .byte ys) (lx : xs.length < 1000) (ly : ys.length < 1000) :
    MetFree l (⟨"java/lang/StringLatin1", "equals", "([B[B)Z"⟩ : MethodName) (head1 (Jvm.Cond.code (⟨"java/lang/StringLatin1", "equals", "([B[B)Z"⟩ : MethodName) jdk_43_method_13_code 3 (some .boolean) :: ws) ({ frames := 0, cells := 0, slots := 0, locals := 0 } : Room)) (fun a_ U_ => a_ = #[(.ref xa), (.ref ya)] ∧ Z.Warmed39 U_.vm ∧ U_.heap = h0) (fun _ _ _ _ _ => True) (fun _ U_ o_ V_ => ∃ v_ L_, o_ = .returned v_ ∧ own_Q8 Z xa ya xs ys h0 n0 v_ V_.heap L_ ∧ FrameEnd U_ o_ V_ L_ ({ frames := 0, cells := 0, slots := 0, locals := 0 } : Room).cells ({ frames := 0, cells := 0, slots := 0, locals := 0 } : Room).slots) := by
  refine MetFree.of_bodySF (plainFor_of_name own_pn_java_lang_StringLatin1) hisR ?_
  intro p e s m args below meth c s₁ Bd hml0 hP hK
  obtain ⟨rfl, hZ, hh⟩ := hP
  have hx := Bd.exec
  have hby := Bd.bytes
  have hml : c.maxLocals = 3 := hml0
  have hown : s.vm.findClass "java/lang/StringLatin1" = some m.cls := findClass_of_methodNamed Bd.named
  have hnm := (name_of_methodNamed Bd.named Bd.method).1
  have X0 : Stand p l e ({ frames := 0, cells := 0, slots := 0, locals := 0 } : Room) s m #[(.ref xa), (.ref ya)] below meth c s₁ [] 0 0 := Stand.of_body Bd
  have e0 : s₁.heap = h0 := by rw [← hh, Bd.state]; rfl
  have N0 := Fr.nil n0
  show own_G p e below s (own_Q8 Z xa ya xs ys h0 n0) ({ frames := 0, cells := 0, slots := 0, locals := 0 } : Room).cells ({ frames := 0, cells := 0, slots := 0, locals := 0 } : Room).slots s₁ (entryFrame m #[(.ref xa), (.ref ya)] 3)
  rw [own_rm8_ef]
  refine own_w (T' := s₁) (g' := (mkF m 1 #[.val (.ref xa), .val (.ref ya), .unset] [(.ref xa)])) (fun _ k_ => XS.aloadN X0.here hx rfl (hb hby own_d8_0) rfl rfl k_) ?_
  obtain ⟨cl1, Ar1, hs1⟩ := id Vx
  have hl1 : cl1.slots.size.toInt32 = xs.length.toInt32 := by rw [hs1]; simp
  refine own_w (T' := s₁) (g' := (mkF m 2 #[.val (.ref xa), .val (.ref ya), .unset] [(.int xs.length.toInt32)])) (fun t_ k_ => X0.arraylength hx (by rw [e0]; exact Ar1.1) (State.isArrayOf_alike hZ.alike Ar1.2.1) (g := (mkF m 1 #[.val (.ref xa), .val (.ref ya), .unset] [(.ref xa)])) rfl rfl (hb hby own_d8_1) t_ (by rw [hl1]; exact k_)) ?_
  refine own_w (T' := s₁) (g' := (mkF m 3 #[.val (.ref xa), .val (.ref ya), .unset] [(.ref ya), (.int xs.length.toInt32)])) (fun _ k_ => XS.aloadN X0.here hx rfl (hb hby own_d8_2) rfl rfl k_) ?_
  obtain ⟨cl2, Ar2, hs2⟩ := id Vy
  have hl2 : cl2.slots.size.toInt32 = ys.length.toInt32 := by rw [hs2]; simp
  refine own_w (T' := s₁) (g' := (mkF m 4 #[.val (.ref xa), .val (.ref ya), .unset] [(.int ys.length.toInt32), (.int xs.length.toInt32)])) (fun t_ k_ => X0.arraylength hx (by rw [e0]; exact Ar2.1) (State.isArrayOf_alike hZ.alike Ar2.2.1) (g := (mkF m 3 #[.val (.ref xa), .val (.ref ya), .unset] [(.ref ya), (.int xs.length.toInt32)])) rfl rfl (hb hby own_d8_3) t_ (by rw [hl2]; exact k_)) ?_
  by_cases hc4 : xs.length.toInt32 = ys.length.toInt32
  · refine own_w (T' := s₁) (g' := (mkF m 7 #[.val (.ref xa), .val (.ref ya), .unset] [])) (fun _ k_ => XS.icmpNo X0.here hx rfl (hb hby own_d8_4) rfl (teq hc4).2 k_) ?_
    have hl : xs.length = ys.length := by have q := congrArg Int32.toInt hc4; rw [own_i32 lx, own_i32 ly] at q; omega
    refine own_w (T' := s₁) (g' := (mkF m 8 #[.val (.ref xa), .val (.ref ya), .unset] [(.int (0 : Int32))])) (fun _ k_ => XS.iconst X0.here hx rfl (hb hby own_d8_7) k_) ?_
    refine own_w (T' := s₁) (g' := (mkF m 9 #[.val (.ref xa), .val (.ref ya), .val (.int (0 : Int32))] [])) (fun _ k_ => XS.istoreN X0.here hx rfl (hb hby own_d8_8) rfl (l' := #[.val (.ref xa), .val (.ref ya), .val (.int (0 : Int32))]) rfl k_) ?_
    have loop : ∀ (fu : Nat) (TJ : State) (LJ : List Loc) (XJ : Stand p l e ({ frames := 0, cells := 0, slots := 0, locals := 0 } : Room) s m #[(.ref xa), (.ref ya)] below meth c TJ LJ 0 0) (eJ : TJ.heap = h0) (NJ : Fr n0 LJ) (i' : Int32) (i : Nat) (hi : i'.toInt = (i : Int)) (hf : xs.length = i + fu) (hj : ∀ j, j < i → xs[j]? = ys[j]?), own_G p e below s (own_Q8 Z xa ya xs ys h0 n0) ({ frames := 0, cells := 0, slots := 0, locals := 0 } : Room).cells ({ frames := 0, cells := 0, slots := 0, locals := 0 } : Room).slots TJ (mkF m 9 #[.val (.ref xa), .val (.ref ya), .val (.int i')] []) := by
      intro fu
      induction fu with
      | zero =>
        intro TJ LJ XJ eJ NJ i' i hi hf hj
        refine own_w (T' := TJ) (g' := (mkF m 10 #[.val (.ref xa), .val (.ref ya), .val (.int i')] [(.int i')])) (fun _ k_ => XS.iloadN XJ.here hx rfl (hb hby own_d8_9) rfl k_) ?_
        refine own_w (T' := TJ) (g' := (mkF m 11 #[.val (.ref xa), .val (.ref ya), .val (.int i')] [(.ref xa), (.int i')])) (fun _ k_ => XS.aloadN XJ.here hx rfl (hb hby own_d8_10) rfl rfl k_) ?_
        obtain ⟨cl3, Ar3, hs3⟩ := id Vx
        have hl3 : cl3.slots.size.toInt32 = xs.length.toInt32 := by rw [hs3]; simp
        refine own_w (T' := TJ) (g' := (mkF m 12 #[.val (.ref xa), .val (.ref ya), .val (.int i')] [(.int xs.length.toInt32), (.int i')])) (fun t_ k_ => XJ.arraylength hx (by rw [eJ]; exact Ar3.1) (State.isArrayOf_alike hZ.alike Ar3.2.1) (g := (mkF m 11 #[.val (.ref xa), .val (.ref ya), .val (.int i')] [(.ref xa), (.int i')])) rfl rfl (hb hby own_d8_11) t_ (by rw [hl3]; exact k_)) ?_
        refine own_w (T' := TJ) (g' := (mkF m 32 #[.val (.ref xa), .val (.ref ya), .val (.int i')] [])) (fun _ k_ => XS.icmpYes XJ.here hx rfl (pc0 := 12) (pc' := 32) rfl (hb hby own_d8_12) rfl (flt (by rw [Int32.lt_iff_toInt_lt, hi, own_i32 lx]; omega)).2.1 (by decide) (by decide) k_) ?_
        refine own_w (T' := TJ) (g' := (mkF m 33 #[.val (.ref xa), .val (.ref ya), .val (.int i')] [(.int (1 : Int32))])) (fun _ k_ => XS.iconst XJ.here hx rfl (hb hby own_d8_32) k_) ?_
        obtain ⟨fs, hr, hrun, hended, hW, hsame⟩ := XJ.leave (v := some (.int (1 : Int32))) (fun h => by rw [Bd.returns] at h; cases h)
        exact ⟨_, _, retOut XJ hx Bd.returns rfl (Or.inl ⟨rfl, Or.inr (Or.inl rfl), _, rfl⟩) (hb hby own_d8_33) hr, hrun, hended, _, _, rfl, (by show own_Q8 Z xa ya xs ys h0 n0 _ TJ.heap _; rw [eJ]; exact ⟨(by rw [if_pos (own_ext hl hj (by omega))]), NJ, rfl⟩), ⟨_, rfl⟩, hW, hsame.mono (by decide) (by decide)⟩
      | succ fu ih =>
        intro TJ LJ XJ eJ NJ i' i hi hf hj
        refine own_w (T' := TJ) (g' := (mkF m 10 #[.val (.ref xa), .val (.ref ya), .val (.int i')] [(.int i')])) (fun _ k_ => XS.iloadN XJ.here hx rfl (hb hby own_d8_9) rfl k_) ?_
        refine own_w (T' := TJ) (g' := (mkF m 11 #[.val (.ref xa), .val (.ref ya), .val (.int i')] [(.ref xa), (.int i')])) (fun _ k_ => XS.aloadN XJ.here hx rfl (hb hby own_d8_10) rfl rfl k_) ?_
        obtain ⟨cl4, Ar4, hs4⟩ := id Vx
        have hl4 : cl4.slots.size.toInt32 = xs.length.toInt32 := by rw [hs4]; simp
        refine own_w (T' := TJ) (g' := (mkF m 12 #[.val (.ref xa), .val (.ref ya), .val (.int i')] [(.int xs.length.toInt32), (.int i')])) (fun t_ k_ => XJ.arraylength hx (by rw [eJ]; exact Ar4.1) (State.isArrayOf_alike hZ.alike Ar4.2.1) (g := (mkF m 11 #[.val (.ref xa), .val (.ref ya), .val (.int i')] [(.ref xa), (.int i')])) rfl rfl (hb hby own_d8_11) t_ (by rw [hl4]; exact k_)) ?_
        refine own_w (T' := TJ) (g' := (mkF m 15 #[.val (.ref xa), .val (.ref ya), .val (.int i')] [])) (fun _ k_ => XS.icmpNo XJ.here hx rfl (hb hby own_d8_12) rfl (tlt (by rw [Int32.lt_iff_toInt_lt, hi, own_i32 lx]; omega)).2.1 k_) ?_
        have hxi : xs[i]? = some xs[i] := List.getElem?_eq_getElem (by omega)
        have hyi : ys[i]? = some ys[i] := List.getElem?_eq_getElem (by omega)
        generalize xs[i] = x at *
        generalize ys[i] = y at *
        refine own_w (T' := TJ) (g' := (mkF m 16 #[.val (.ref xa), .val (.ref ya), .val (.int i')] [(.ref xa)])) (fun _ k_ => XS.aloadN XJ.here hx rfl (hb hby own_d8_15) rfl rfl k_) ?_
        refine own_w (T' := TJ) (g' := (mkF m 17 #[.val (.ref xa), .val (.ref ya), .val (.int i')] [(.int i'), (.ref xa)])) (fun _ k_ => XS.iloadN XJ.here hx rfl (hb hby own_d8_16) rfl k_) ?_
        obtain ⟨cl5, Ar5, hs5⟩ := id Vx
        refine own_w (T' := TJ) (g' := (mkF m 18 #[.val (.ref xa), .val (.ref ya), .val (.int i')] [(.int x)])) (fun t_ k_ => XJ.baloadBytes hx (j := i') (v := .int x) (by rw [eJ]; exact Ar5.1) (State.isArrayOf_alike hZ.alike Ar5.2.1) Ar5.2.2 (own_Ar_in hs5 hi (own_get_lt (show _ = some x from hxi))) (own_Ar_at hs5 hi (show _ = some x from hxi)) (g := (mkF m 17 #[.val (.ref xa), .val (.ref ya), .val (.int i')] [(.int i'), (.ref xa)])) rfl rfl (hb hby own_d8_17) t_ k_) ?_
        refine own_w (T' := TJ) (g' := (mkF m 19 #[.val (.ref xa), .val (.ref ya), .val (.int i')] [(.ref ya), (.int x)])) (fun _ k_ => XS.aloadN XJ.here hx rfl (hb hby own_d8_18) rfl rfl k_) ?_
        refine own_w (T' := TJ) (g' := (mkF m 20 #[.val (.ref xa), .val (.ref ya), .val (.int i')] [(.int i'), (.ref ya), (.int x)])) (fun _ k_ => XS.iloadN XJ.here hx rfl (hb hby own_d8_19) rfl k_) ?_
        obtain ⟨cl6, Ar6, hs6⟩ := id Vy
        refine own_w (T' := TJ) (g' := (mkF m 21 #[.val (.ref xa), .val (.ref ya), .val (.int i')] [(.int y), (.int x)])) (fun t_ k_ => XJ.baloadBytes hx (j := i') (v := .int y) (by rw [eJ]; exact Ar6.1) (State.isArrayOf_alike hZ.alike Ar6.2.1) Ar6.2.2 (own_Ar_in hs6 hi (own_get_lt (show _ = some y from hyi))) (own_Ar_at hs6 hi (show _ = some y from hyi)) (g := (mkF m 20 #[.val (.ref xa), .val (.ref ya), .val (.int i')] [(.int i'), (.ref ya), (.int x)])) rfl rfl (hb hby own_d8_20) t_ k_) ?_
        by_cases hc21 : x = y
        · refine own_w (T' := TJ) (g' := (mkF m 26 #[.val (.ref xa), .val (.ref ya), .val (.int i')] [])) (fun _ k_ => XS.icmpYes XJ.here hx rfl (pc0 := 21) (pc' := 26) rfl (hb hby own_d8_21) rfl (teq hc21).1 (by decide) (by decide) k_) ?_
          refine own_w (T' := TJ) (g' := (mkF m 29 #[.val (.ref xa), .val (.ref ya), .val (.int (i' + (1 : Int32)))] [])) (fun _ k_ => XS.iinc XJ.here hx rfl (hb hby own_d8_26) rfl (l' := #[.val (.ref xa), .val (.ref ya), .val (.int (i' + (1 : Int32)))]) rfl k_) ?_
          refine own_w (T' := TJ) (g' := (mkF m 9 #[.val (.ref xa), .val (.ref ya), .val (.int (i' + (1 : Int32)))] [])) (fun _ k_ => XS.goto XJ.here hx rfl (pc0 := 29) (pc' := 9) rfl (hb hby own_d8_29) (by decide) (by decide) k_) ?_
          exact ih _ _ XJ eJ NJ _ (i + 1) (own_n1 hi (by omega)) (by omega) (own_stepj hj hxi hyi hc21)
        · refine own_w (T' := TJ) (g' := (mkF m 24 #[.val (.ref xa), .val (.ref ya), .val (.int i')] [])) (fun _ k_ => XS.icmpNo XJ.here hx rfl (hb hby own_d8_21) rfl (feq hc21).1 k_) ?_
          refine own_w (T' := TJ) (g' := (mkF m 25 #[.val (.ref xa), .val (.ref ya), .val (.int i')] [(.int (0 : Int32))])) (fun _ k_ => XS.iconst XJ.here hx rfl (hb hby own_d8_24) k_) ?_
          obtain ⟨fs, hr, hrun, hended, hW, hsame⟩ := XJ.leave (v := some (.int (0 : Int32))) (fun h => by rw [Bd.returns] at h; cases h)
          exact ⟨_, _, retOut XJ hx Bd.returns rfl (Or.inl ⟨rfl, Or.inr (Or.inl rfl), _, rfl⟩) (hb hby own_d8_25) hr, hrun, hended, _, _, rfl, (by show own_Q8 Z xa ya xs ys h0 n0 _ TJ.heap _; rw [eJ]; exact ⟨(by rw [if_neg (own_nej hxi hyi hc21)]), NJ, rfl⟩), ⟨_, rfl⟩, hW, hsame.mono (by decide) (by decide)⟩
    exact loop xs.length _ _ X0 e0 N0 _ 0 (by decide) (by omega) (fun j q => absurd q (Nat.not_lt_zero _))
  · refine own_w (T' := s₁) (g' := (mkF m 34 #[.val (.ref xa), .val (.ref ya), .unset] [])) (fun _ k_ => XS.icmpYes X0.here hx rfl (pc0 := 4) (pc' := 34) rfl (hb hby own_d8_4) rfl (feq hc4).2 (by decide) (by decide) k_) ?_
    have hne : ¬ xs = ys := fun q => hc4 (by rw [q])
    refine own_w (T' := s₁) (g' := (mkF m 35 #[.val (.ref xa), .val (.ref ya), .unset] [(.int (0 : Int32))])) (fun _ k_ => XS.iconst X0.here hx rfl (hb hby own_d8_34) k_) ?_
    obtain ⟨fs, hr, hrun, hended, hW, hsame⟩ := X0.leave (v := some (.int (0 : Int32))) (fun h => by rw [Bd.returns] at h; cases h)
    exact ⟨_, _, retOut X0 hx Bd.returns rfl (Or.inl ⟨rfl, Or.inr (Or.inl rfl), _, rfl⟩) (hb hby own_d8_35) hr, hrun, hended, _, _, rfl, (by show own_Q8 Z xa ya xs ys h0 n0 _ s₁.heap _; rw [e0]; exact ⟨(by rw [if_neg hne]), N0, rfl⟩), ⟨_, rfl⟩, hW, hsame.mono (by decide) (by decide)⟩
theorem own_Fld_inj {Z : State} {h : Heap} {a : Addr} {C n d : String} {v w : Value} (F : Fld Z h a C n d v) (G : Fld Z h a C n d w) : v = w := by
  obtain ⟨c1, cf1, k1, i1, f1, a1, a2, -, -, -, -, a7⟩ := F
  obtain ⟨c2, cf2, k2, i2, f2, b1, b2, -, -, -, -, b7⟩ := G
  cases a1.symm.trans b1
  have e := a2.symm.trans b2
  simp only [Option.some.injEq, Prod.mk.injEq] at e
  rw [e.2.2.2] at a7
  exact Option.some.inj (a7.symm.trans b7)
theorem own_Ar_inj {Z : State} {h : Heap} {a : Addr} {ty : FieldType} {xs ys : List Int32} (F : own_Ar Z h a ty xs) (G : own_Ar Z h a ty ys) : xs = ys := by
  obtain ⟨c1, A1, e1⟩ := F
  obtain ⟨c2, A2, e2⟩ := G
  cases A1.1.symm.trans A2.1
  have e := e1.symm.trans e2
  have e' : xs.map Value.int = ys.map Value.int := by simpa using e
  exact List.map_inj_right (fun x y q => Value.int.inj q) |>.mp e'
theorem own_Str_inj {Z : State} {h : Heap} {a : Addr} {xs ys : List Int32} (F : own_Str Z h a xs) (G : own_Str Z h a ys) : xs = ys := by
  obtain ⟨-, -, b, v, A⟩ := F
  obtain ⟨-, -, b', v', A'⟩ := G
  cases own_Fld_inj v v'
  exact own_Ar_inj A A'
theorem own_d7_0 : decode jdk_42_method_66_code 0 = .ok (.aload_n 0, 1) := by decide +kernel
theorem own_d7_1 : decode jdk_42_method_66_code 1 = .ok (.aload_n 1, 1) := by decide +kernel
theorem own_d7_2 : decode jdk_42_method_66_code 2 = .ok (.if_acmp .ne 5, 3) := by decide +kernel
theorem own_d7_5 : decode jdk_42_method_66_code 5 = .ok (.iconst 1, 1) := by decide +kernel
theorem own_d7_6 : decode jdk_42_method_66_code 6 = .ok (.ireturn, 1) := by decide +kernel
theorem own_d7_7 : decode jdk_42_method_66_code 7 = .ok (.aload_n 1, 1) := by decide +kernel
theorem own_d7_8 : decode jdk_42_method_66_code 8 = .ok (.instanceof 10, 3) := by decide +kernel
theorem own_d7_11 : decode jdk_42_method_66_code 11 = .ok (.ifCond .eq 43, 3) := by decide +kernel
theorem own_d7_14 : decode jdk_42_method_66_code 14 = .ok (.aload_n 1, 1) := by decide +kernel
theorem own_d7_15 : decode jdk_42_method_66_code 15 = .ok (.checkcast 10, 3) := by decide +kernel
theorem own_d7_18 : decode jdk_42_method_66_code 18 = .ok (.astore_n 2, 1) := by decide +kernel
theorem own_d7_19 : decode jdk_42_method_66_code 19 = .ok (.getstatic 38, 3) := by decide +kernel
theorem own_d7_22 : decode jdk_42_method_66_code 22 = .ok (.ifCond .eq 14, 3) := by decide +kernel
theorem own_d7_25 : decode jdk_42_method_66_code 25 = .ok (.aload_n 0, 1) := by decide +kernel
theorem own_d7_26 : decode jdk_42_method_66_code 26 = .ok (.getfield 15, 3) := by decide +kernel
theorem own_d7_29 : decode jdk_42_method_66_code 29 = .ok (.aload_n 2, 1) := by decide +kernel
theorem own_d7_30 : decode jdk_42_method_66_code 30 = .ok (.getfield 15, 3) := by decide +kernel
theorem own_d7_33 : decode jdk_42_method_66_code 33 = .ok (.if_icmp .ne 21, 3) := by decide +kernel
theorem own_d7_36 : decode jdk_42_method_66_code 36 = .ok (.aload_n 0, 1) := by decide +kernel
theorem own_d7_37 : decode jdk_42_method_66_code 37 = .ok (.getfield 9, 3) := by decide +kernel
theorem own_d7_40 : decode jdk_42_method_66_code 40 = .ok (.aload_n 2, 1) := by decide +kernel
theorem own_d7_41 : decode jdk_42_method_66_code 41 = .ok (.getfield 9, 3) := by decide +kernel
theorem own_d7_44 : decode jdk_42_method_66_code 44 = .ok (.invokestatic 541, 3) := by decide +kernel
theorem own_pd5 : parseMethodDescriptor "([B[B)Z" = some ⟨[(.array .byte), (.array .byte)], some .boolean⟩ := by decide +kernel
theorem own_d7_47 : decode jdk_42_method_66_code 47 = .ok (.ifCond .eq 7, 3) := by decide +kernel
theorem own_d7_50 : decode jdk_42_method_66_code 50 = .ok (.iconst 1, 1) := by decide +kernel
theorem own_d7_51 : decode jdk_42_method_66_code 51 = .ok (.goto 4, 3) := by decide +kernel
theorem own_d7_55 : decode jdk_42_method_66_code 55 = .ok (.ireturn, 1) := by decide +kernel
theorem own_d7_54 : decode jdk_42_method_66_code 54 = .ok (.iconst 0, 1) := by decide +kernel
theorem own_rm7_ef (m : MethodId) (a : Addr) (b : Addr) : entryFrame m #[(.ref a), (.ref b)] 3 = mkF m 0 #[.val (.ref a), .val (.ref b), .unset] [] := by first | (simp [entryFrame, mkF, argsToLocals, Value.category]; done) | rfl
def own_Q7 (Z : State) (a : Addr) (b : Addr) (xs : List Int32) (ys : List Int32) (cs : Int32) (h0 : Heap) (n0 : Nat) (v_ : Option Value) (h : Heap) (L_ : List Loc) : Prop := v_ = some (.int (if (xs = ys) then (1 : Int32) else 0)) ∧ Fr n0 L_ ∧ (h = h0)
set_option maxRecDepth 65536 in
set_option maxHeartbeats 40000000 in
theorem own_rm7 (l : Launch) (Z : State) (a0 : Array Value) (hw : ∀ d ∈ tables_1, d.before a0 Z = true) (ws : List Jvm.Cond) (a : Addr) (b : Addr) (xs : List Int32) (ys : List Int32) (cs : Int32) (h0 : Heap) (n0 : Nat) (Z0 : n0 ≤ h0.size) (Sa : own_Str Z h0 a xs) (Sb : own_Str Z h0 b ys) (lx : xs.length < 1000) (ly : ys.length < 1000) (hcs : ¬ cs = (0 : Int32)) (S : Sta Z h0 "java/lang/String" "COMPACT_STRINGS" "Z" (.int cs)) :
    MetFree l (⟨"java/lang/String", "equals", "(Ljava/lang/Object;)Z"⟩ : MethodName) (head1 (Jvm.Cond.code (⟨"java/lang/String", "equals", "(Ljava/lang/Object;)Z"⟩ : MethodName) jdk_42_method_66_code 3 (some .boolean) :: ws) ({ frames := 1, cells := 0, slots := 0, locals := 14 } : Room)) (fun a_ U_ => a_ = #[(.ref a), (.ref b)] ∧ Z.Warmed39 U_.vm ∧ U_.heap = h0) (fun _ _ _ _ _ => True) (fun _ U_ o_ V_ => ∃ v_ L_, o_ = .returned v_ ∧ own_Q7 Z a b xs ys cs h0 n0 v_ V_.heap L_ ∧ FrameEnd U_ o_ V_ L_ ({ frames := 1, cells := 0, slots := 0, locals := 14 } : Room).cells ({ frames := 1, cells := 0, slots := 0, locals := 14 } : Room).slots) := by
  refine MetFree.of_bodySF (plainFor_of_name own_pn_java_lang_String) hisR ?_
  intro p e s m args below meth c s₁ Bd hml0 hP hK
  obtain ⟨rfl, hZ, hh⟩ := hP
  have hx := Bd.exec
  have hby := Bd.bytes
  have hml : c.maxLocals = 3 := hml0
  have hown : s.vm.findClass "java/lang/String" = some m.cls := findClass_of_methodNamed Bd.named
  have hnm := (name_of_methodNamed Bd.named Bd.method).1
  have X0 : Stand p l e ({ frames := 1, cells := 0, slots := 0, locals := 14 } : Room) s m #[(.ref a), (.ref b)] below meth c s₁ [] 0 0 := Stand.of_body Bd
  have e0 : s₁.heap = h0 := by rw [← hh, Bd.state]; rfl
  have N0 := Fr.nil n0
  show own_G p e below s (own_Q7 Z a b xs ys cs h0 n0) ({ frames := 1, cells := 0, slots := 0, locals := 14 } : Room).cells ({ frames := 1, cells := 0, slots := 0, locals := 14 } : Room).slots s₁ (entryFrame m #[(.ref a), (.ref b)] 3)
  rw [own_rm7_ef]
  refine own_w (T' := s₁) (g' := (mkF m 1 #[.val (.ref a), .val (.ref b), .unset] [(.ref a)])) (fun _ k_ => XS.aloadN X0.here hx rfl (hb hby own_d7_0) rfl rfl k_) ?_
  refine own_w (T' := s₁) (g' := (mkF m 2 #[.val (.ref a), .val (.ref b), .unset] [(.ref b), (.ref a)])) (fun _ k_ => XS.aloadN X0.here hx rfl (hb hby own_d7_1) rfl rfl k_) ?_
  by_cases hc2 : a = b
  · refine own_w (T' := s₁) (g' := (mkF m 5 #[.val (.ref a), .val (.ref b), .unset] [])) (fun _ k_ => Jvm.RoadKit.acmp (g := (mkF m 2 #[.val (.ref a), .val (.ref b), .unset] [(.ref b), (.ref a)])) X0 hx rfl rfl rfl (pc0 := 2) (pc' := 5) (same := true) rfl (hb hby own_d7_2) rfl (decide_eq_true (congrArg Value.ref hc2)) (by decide) (by decide) k_) ?_
    refine own_w (T' := s₁) (g' := (mkF m 6 #[.val (.ref a), .val (.ref b), .unset] [(.int (1 : Int32))])) (fun _ k_ => XS.iconst X0.here hx rfl (hb hby own_d7_5) k_) ?_
    obtain ⟨fs, hr, hrun, hended, hW, hsame⟩ := X0.leave (v := some (.int (1 : Int32))) (fun h => by rw [Bd.returns] at h; cases h)
    exact ⟨_, _, retOut X0 hx Bd.returns rfl (Or.inl ⟨rfl, Or.inr (Or.inl rfl), _, rfl⟩) (hb hby own_d7_6) hr, hrun, hended, _, _, rfl, (by show own_Q7 Z a b xs ys cs h0 n0 _ s₁.heap _; rw [e0]; exact ⟨(by subst hc2; rw [if_pos (own_Str_inj Sa Sb)]), N0, rfl⟩), ⟨_, rfl⟩, hW, hsame.mono (by decide) (by decide)⟩
  · refine own_w (T' := s₁) (g' := (mkF m 7 #[.val (.ref a), .val (.ref b), .unset] [])) (fun _ k_ => Jvm.RoadKit.acmp (g := (mkF m 2 #[.val (.ref a), .val (.ref b), .unset] [(.ref b), (.ref a)])) X0 hx rfl rfl rfl (pc0 := 2) (pc' := 7) (same := false) rfl (hb hby own_d7_2) rfl (decide_eq_false fun q => hc2 (Value.ref.inj q)) (by decide) (by decide) k_) ?_
    obtain ⟨Ea, Ca, xa, Fa, Aa⟩ := Sa
    obtain ⟨Eb, Cb, ya, Fb, Ab⟩ := Sb
    refine own_w (T' := s₁) (g' := (mkF m 8 #[.val (.ref a), .val (.ref b), .unset] [(.ref b)])) (fun _ k_ => XS.aloadN X0.here hx rfl (hb hby own_d7_7) rfl rfl k_) ?_
    obtain ⟨T1, X1, e1, st1⟩ := instY X0 hx hZ hown (hw _ (List.mem_of_getElem? (i := 47) rfl)) e0 (Ins.self Eb) (g := (mkF m 8 #[.val (.ref a), .val (.ref b), .unset] [(.ref b)])) rfl rfl (hb hby own_d7_8)
    refine own_w (T' := T1) (g' := (mkF m 11 #[.val (.ref a), .val (.ref b), .unset] [(.int (1 : Int32))])) st1 ?_
    refine own_w (T' := T1) (g' := (mkF m 14 #[.val (.ref a), .val (.ref b), .unset] [])) (fun _ k_ => XS.ifNo X1.here hx rfl (hb hby own_d7_11) rfl ((if0 _ _).trans (feq (by decide)).1) k_) ?_
    refine own_w (T' := T1) (g' := (mkF m 15 #[.val (.ref a), .val (.ref b), .unset] [(.ref b)])) (fun _ k_ => XS.aloadN X1.here hx rfl (hb hby own_d7_14) rfl rfl k_) ?_
    obtain ⟨T2, X2, e2, st2⟩ := castY X1 hx hZ hown (hw _ (List.mem_of_getElem? (i := 47) rfl)) e1 (Ins.self Eb) (g := (mkF m 15 #[.val (.ref a), .val (.ref b), .unset] [(.ref b)])) rfl rfl (hb hby own_d7_15)
    refine own_w (T' := T2) (g' := (mkF m 18 #[.val (.ref a), .val (.ref b), .unset] [(.ref b)])) st2 ?_
    refine own_w (T' := T2) (g' := (mkF m 19 #[.val (.ref a), .val (.ref b), .val (.ref b)] [])) (fun _ k_ => XS.astoreN X2.here hx rfl (hb hby own_d7_18) rfl rfl (l' := #[.val (.ref a), .val (.ref b), .val (.ref b)]) rfl k_) ?_
    obtain ⟨T3, X3, e3, st3⟩ := getS2 X2 hx hZ hown (host := "") (Or.inl (hw _ (List.mem_of_getElem? (i := 48) rfl))) Via.refl e2 S (g := (mkF m 19 #[.val (.ref a), .val (.ref b), .val (.ref b)] [])) rfl (hb hby own_d7_19)
    refine own_w (T' := T3) (g' := (mkF m 22 #[.val (.ref a), .val (.ref b), .val (.ref b)] [(.int cs)])) st3 ?_
    refine own_w (T' := T3) (g' := (mkF m 25 #[.val (.ref a), .val (.ref b), .val (.ref b)] [])) (fun _ k_ => XS.ifNo X3.here hx rfl (hb hby own_d7_22) rfl ((if0 _ _).trans (feq hcs).1) k_) ?_
    refine own_w (T' := T3) (g' := (mkF m 26 #[.val (.ref a), .val (.ref b), .val (.ref b)] [(.ref a)])) (fun _ k_ => XS.aloadN X3.here hx rfl (hb hby own_d7_25) rfl rfl k_) ?_
    obtain ⟨T4, X4, e4, st4⟩ := getF X3 hx hZ hown (host := "") (Or.inl (hw _ (List.mem_of_getElem? (i := 25) rfl))) Via.refl e3 Ca (g := (mkF m 26 #[.val (.ref a), .val (.ref b), .val (.ref b)] [(.ref a)])) rfl rfl (hb hby own_d7_26)
    refine own_w (T' := T4) (g' := (mkF m 29 #[.val (.ref a), .val (.ref b), .val (.ref b)] [(.int (0 : Int32))])) st4 ?_
    refine own_w (T' := T4) (g' := (mkF m 30 #[.val (.ref a), .val (.ref b), .val (.ref b)] [(.ref b), (.int (0 : Int32))])) (fun _ k_ => XS.aloadN X4.here hx rfl (hb hby own_d7_29) rfl rfl k_) ?_
    obtain ⟨T5, X5, e5, st5⟩ := getF X4 hx hZ hown (host := "") (Or.inl (hw _ (List.mem_of_getElem? (i := 25) rfl))) Via.refl e4 Cb (g := (mkF m 30 #[.val (.ref a), .val (.ref b), .val (.ref b)] [(.ref b), (.int (0 : Int32))])) rfl rfl (hb hby own_d7_30)
    refine own_w (T' := T5) (g' := (mkF m 33 #[.val (.ref a), .val (.ref b), .val (.ref b)] [(.int (0 : Int32)), (.int (0 : Int32))])) st5 ?_
    refine own_w (T' := T5) (g' := (mkF m 36 #[.val (.ref a), .val (.ref b), .val (.ref b)] [])) (fun _ k_ => XS.icmpNo X5.here hx rfl (hb hby own_d7_33) rfl (teq rfl).2 k_) ?_
    refine own_w (T' := T5) (g' := (mkF m 37 #[.val (.ref a), .val (.ref b), .val (.ref b)] [(.ref a)])) (fun _ k_ => XS.aloadN X5.here hx rfl (hb hby own_d7_36) rfl rfl k_) ?_
    obtain ⟨T6, X6, e6, st6⟩ := getF X5 hx hZ hown (host := "") (Or.inl (hw _ (List.mem_of_getElem? (i := 24) rfl))) Via.refl e5 Fa (g := (mkF m 37 #[.val (.ref a), .val (.ref b), .val (.ref b)] [(.ref a)])) rfl rfl (hb hby own_d7_37)
    refine own_w (T' := T6) (g' := (mkF m 40 #[.val (.ref a), .val (.ref b), .val (.ref b)] [(.ref xa)])) st6 ?_
    refine own_w (T' := T6) (g' := (mkF m 41 #[.val (.ref a), .val (.ref b), .val (.ref b)] [(.ref b), (.ref xa)])) (fun _ k_ => XS.aloadN X6.here hx rfl (hb hby own_d7_40) rfl rfl k_) ?_
    obtain ⟨T7, X7, e7, st7⟩ := getF X6 hx hZ hown (host := "") (Or.inl (hw _ (List.mem_of_getElem? (i := 24) rfl))) Via.refl e6 Fb (g := (mkF m 41 #[.val (.ref a), .val (.ref b), .val (.ref b)] [(.ref b), (.ref xa)])) rfl rfl (hb hby own_d7_41)
    refine own_w (T' := T7) (g' := (mkF m 44 #[.val (.ref a), .val (.ref b), .val (.ref b)] [(.ref ya), (.ref xa)])) st7 ?_
    obtain ⟨_, _, ⟨T8, L8, k8, n8⟩, -, X8, ⟨Lc8, hQ8, l8, y8, z8⟩, st8⟩ := Jvm.LawKit.callS X7 hx (y := (⟨"java/lang/StringLatin1", "equals", "([B[B)Z"⟩ : MethodName)) hown (mvT hZ (hw _ (List.mem_of_getElem? (i := 49) rfl))) (mvT hZ (hw _ (List.mem_of_getElem? (i := 50) rfl))) (mvT hZ (hw _ (List.mem_of_getElem? (i := 51) rfl))) (mvT hZ (hw _ (List.mem_of_getElem? (i := 52) rfl))) (by decide) (backOf (W := 0) (own_rm8 l Z a0 hw [] xa ya xs ys h0 n0 Z0 Aa Ab lx ly) hZ (hw _ (List.mem_of_getElem? (i := 52) rfl)) (hw _ (List.mem_of_getElem? (i := 51) rfl)) (by decide) (by decide)) (g := (mkF m 44 #[.val (.ref a), .val (.ref b), .val (.ref b)] [(.ref ya), (.ref xa)])) rfl (by rw [hml]; rfl) (argsL := [(.ref xa), (.ref ya)]) (rest := []) (lenOf own_pd5 rfl) rfl (by show 2 * 0 + _ ≤ _; exact Nat.le_of_eq rfl) (hb hby own_d7_44) (fun _ _ => ⟨rfl, e7, (by decide : 0 + 0 ≤ _), (by decide : 0 + 0 ≤ _)⟩)
    dsimp only [Pt.U, Pt.locs, Pt.cells, Pt.slots] at X8 l8 y8 z8 st8 hQ8
    subst l8 y8 z8
    obtain ⟨rfl, N8q, e8⟩ := hQ8
    have N8 := Fr.app N0 N8q
    refine own_w (T' := T8) (g' := (mkF m 47 #[.val (.ref a), .val (.ref b), .val (.ref b)] [(.int (if (xs = ys) then (1 : Int32) else 0))])) st8 ?_
    by_cases hc47 : (xs = ys)
    · refine own_w (T' := T8) (g' := (mkF m 50 #[.val (.ref a), .val (.ref b), .val (.ref b)] [])) (fun _ k_ => XS.ifNo X8.here hx rfl (hb hby own_d7_47) rfl ((if0 _ _).trans (feq (fun q => (own_ite0.mp q) (show ((xs = ys)) from hc47))).1) k_) ?_
      refine own_w (T' := T8) (g' := (mkF m 51 #[.val (.ref a), .val (.ref b), .val (.ref b)] [(.int (1 : Int32))])) (fun _ k_ => XS.iconst X8.here hx rfl (hb hby own_d7_50) k_) ?_
      refine own_w (T' := T8) (g' := (mkF m 55 #[.val (.ref a), .val (.ref b), .val (.ref b)] [(.int (1 : Int32))])) (fun _ k_ => XS.goto X8.here hx rfl (pc0 := 51) (pc' := 55) rfl (hb hby own_d7_51) (by decide) (by decide) k_) ?_
      obtain ⟨fs, hr, hrun, hended, hW, hsame⟩ := X8.leave (v := some (.int (1 : Int32))) (fun h => by rw [Bd.returns] at h; cases h)
      exact ⟨_, _, retOut X8 hx Bd.returns rfl (Or.inl ⟨rfl, Or.inr (Or.inl rfl), _, rfl⟩) (hb hby own_d7_55) hr, hrun, hended, _, _, rfl, (by show own_Q7 Z a b xs ys cs h0 n0 _ T8.heap _; rw [e8]; exact ⟨(by rw [if_pos hc47]), N8, rfl⟩), ⟨_, rfl⟩, hW, hsame.mono (by decide) (by decide)⟩
    · refine own_w (T' := T8) (g' := (mkF m 54 #[.val (.ref a), .val (.ref b), .val (.ref b)] [])) (fun _ k_ => XS.ifYes X8.here hx rfl (pc0 := 47) (pc' := 54) rfl (hb hby own_d7_47) rfl ((if0 _ _).trans (teq (own_ite0.mpr (show ¬ ((xs = ys)) from hc47))).1) (by decide) (by decide) k_) ?_
      refine own_w (T' := T8) (g' := (mkF m 55 #[.val (.ref a), .val (.ref b), .val (.ref b)] [(.int (0 : Int32))])) (fun _ k_ => XS.iconst X8.here hx rfl (hb hby own_d7_54) k_) ?_
      obtain ⟨fs, hr, hrun, hended, hW, hsame⟩ := X8.leave (v := some (.int (0 : Int32))) (fun h => by rw [Bd.returns] at h; cases h)
      exact ⟨_, _, retOut X8 hx Bd.returns rfl (Or.inl ⟨rfl, Or.inr (Or.inl rfl), _, rfl⟩) (hb hby own_d7_55) hr, hrun, hended, _, _, rfl, (by show own_Q7 Z a b xs ys cs h0 n0 _ T8.heap _; rw [e8]; exact ⟨(by rw [if_neg hc47]), N8, rfl⟩), ⟨_, rfl⟩, hW, hsame.mono (by decide) (by decide)⟩
theorem own_d5_0 : decode prog_12_method_1_code 0 = .ok (.aload_n 0, 1) := by decide +kernel
theorem own_d5_1 : decode prog_12_method_1_code 1 = .ok (.invokespecial 1, 3) := by decide +kernel
theorem own_d5_4 : decode prog_12_method_1_code 4 = .ok (.aload_n 0, 1) := by decide +kernel
theorem own_d5_5 : decode prog_12_method_1_code 5 = .ok (.aload_n 1, 1) := by decide +kernel
theorem own_d5_6 : decode prog_12_method_1_code 6 = .ok (.putfield 7, 3) := by decide +kernel
theorem own_d5_9 : decode prog_12_method_1_code 9 = .ok (.return_, 1) := by decide +kernel
theorem own_pn_com_example_marshal_trust_marshaltrust_FunctionGroup : plainName "com/example/marshal_trust/marshaltrust/FunctionGroup" = true := by first | (simp [plainName, overriddenIn]; done) | decide +kernel
theorem own_rm5_ef (m : MethodId) (f : Addr) (sa : Addr) : entryFrame m #[(.ref f), (.ref sa)] 2 = mkF m 0 #[.val (.ref f), .val (.ref sa)] [] := by first | (simp [entryFrame, mkF, argsToLocals, Value.category]; done) | rfl
def own_Q5 (Z : State) (f : Addr) (sa : Addr) (u : Value) (h0 : Heap) (n0 : Nat) (v_ : Option Value) (h : Heap) (L_ : List Loc) : Prop := v_ = none ∧ Fr n0 L_ ∧ (Keep h0 h [f]) ∧ (Fld Z h f "com/example/marshal_trust/marshaltrust/FunctionGroup" "label" "Ljava/lang/String;" (.ref sa))
set_option maxRecDepth 65536 in
set_option maxHeartbeats 40000000 in
theorem own_rm5 (l : Launch) (Z : State) (a0 : Array Value) (hw : ∀ d ∈ tables_1, d.before a0 Z = true) (ws : List Jvm.Cond) (f : Addr) (sa : Addr) (u : Value) (h0 : Heap) (n0 : Nat) (Z0 : n0 ≤ h0.size) (F : Fld Z h0 f "com/example/marshal_trust/marshaltrust/FunctionGroup" "label" "Ljava/lang/String;" u) (E : Exa Z h0 f "com/example/marshal_trust/marshaltrust/FunctionGroup") (g_f : n0 ≤ f) :
    MetFree l (⟨"com/example/marshal_trust/marshaltrust/FunctionGroup", "<init>", "(Ljava/lang/String;)V"⟩ : MethodName) (head1 (Jvm.Cond.code (⟨"com/example/marshal_trust/marshaltrust/FunctionGroup", "<init>", "(Ljava/lang/String;)V"⟩ : MethodName) prog_12_method_1_code 2 none :: ws) ({ frames := 1, cells := 0, slots := 0, locals := 12 } : Room)) (fun a_ U_ => a_ = #[(.ref f), (.ref sa)] ∧ Z.Warmed39 U_.vm ∧ U_.heap = h0) (fun _ _ _ _ _ => True) (fun _ U_ o_ V_ => ∃ v_ L_, o_ = .returned v_ ∧ own_Q5 Z f sa u h0 n0 v_ V_.heap L_ ∧ FrameEnd U_ o_ V_ L_ ({ frames := 1, cells := 0, slots := 0, locals := 12 } : Room).cells ({ frames := 1, cells := 0, slots := 0, locals := 12 } : Room).slots) := by
  refine MetFree.of_bodySF (plainFor_of_name own_pn_com_example_marshal_trust_marshaltrust_FunctionGroup) hisR ?_
  intro p e s m args below meth c s₁ Bd hml0 hP hK
  obtain ⟨rfl, hZ, hh⟩ := hP
  have hx := Bd.exec
  have hby := Bd.bytes
  have hml : c.maxLocals = 2 := hml0
  have hown : s.vm.findClass "com/example/marshal_trust/marshaltrust/FunctionGroup" = some m.cls := findClass_of_methodNamed Bd.named
  have hnm := (name_of_methodNamed Bd.named Bd.method).1
  have X0 : Stand p l e ({ frames := 1, cells := 0, slots := 0, locals := 12 } : Room) s m #[(.ref f), (.ref sa)] below meth c s₁ [] 0 0 := Stand.of_body Bd
  have e0 : s₁.heap = h0 := by rw [← hh, Bd.state]; rfl
  have N0 := Fr.nil n0
  show own_G p e below s (own_Q5 Z f sa u h0 n0) ({ frames := 1, cells := 0, slots := 0, locals := 12 } : Room).cells ({ frames := 1, cells := 0, slots := 0, locals := 12 } : Room).slots s₁ (entryFrame m #[(.ref f), (.ref sa)] 2)
  rw [own_rm5_ef]
  refine own_w (T' := s₁) (g' := (mkF m 1 #[.val (.ref f), .val (.ref sa)] [(.ref f)])) (fun _ k_ => XS.aloadN X0.here hx rfl (hb hby own_d5_0) rfl rfl k_) ?_
  obtain ⟨T1, X1, e1, st1⟩ := initO X0 hx hZ hown (hw _ (List.mem_of_getElem? (i := 32) rfl)) (hw _ (List.mem_of_getElem? (i := 16) rfl)) (hw _ (List.mem_of_getElem? (i := 17) rfl)) e0 (g := (mkF m 1 #[.val (.ref f), .val (.ref sa)] [(.ref f)])) rfl (by rw [hml]; rfl) rfl (hb hby own_d5_1) (by decide) (W := 0) (by show 2 * 0 + _ ≤ _; exact Nat.le_of_eq rfl) (by decide)
  refine own_w (T' := T1) (g' := (mkF m 4 #[.val (.ref f), .val (.ref sa)] [])) st1 ?_
  refine own_w (T' := T1) (g' := (mkF m 5 #[.val (.ref f), .val (.ref sa)] [(.ref f)])) (fun _ k_ => XS.aloadN X1.here hx rfl (hb hby own_d5_4) rfl rfl k_) ?_
  refine own_w (T' := T1) (g' := (mkF m 6 #[.val (.ref f), .val (.ref sa)] [(.ref sa), (.ref f)])) (fun _ k_ => XS.aloadN X1.here hx rfl (hb hby own_d5_5) rfl rfl k_) ?_
  obtain ⟨T2, h2, X2, e2, W2, st2⟩ := putF X1 hx hZ hown (host := "") (Or.inl (hw _ (List.mem_of_getElem? (i := 33) rfl))) Via.refl e1 F E (Or.inr ⟨(hw _ (List.mem_of_getElem? (i := 34) rfl)), rfl, hnm⟩) (hw _ (List.mem_of_getElem? (i := 27) rfl)) (ty := (.object "java/lang/String")) (by decide) rfl rfl (g := (mkF m 6 #[.val (.ref f), .val (.ref sa)] [(.ref sa), (.ref f)])) rfl rfl (hb hby own_d5_6)
  have N2 := Fr.snoc X2 N0 g_f
  refine own_w (T' := T2) (g' := (mkF m 9 #[.val (.ref f), .val (.ref sa)] [])) st2 ?_
  obtain ⟨fs, hr, hrun, hended, hW, hsame⟩ := X2.leave (v := none) (fun _ => rfl)
  exact ⟨_, _, X2.returnOut hx Bd.returns (hb hby own_d5_9) hr, hrun, hended, _, _, rfl, (by show own_Q5 Z f sa u h0 n0 _ T2.heap _; rw [e2]; exact ⟨rfl, N2, Keep.of_wr W2, F.same W2⟩), ⟨_, rfl⟩, hW, hsame.mono (by decide) (by decide)⟩
theorem own_d6_0 : decode prog_12_method_3_code 0 = .ok (.aload_n 1, 1) := by decide +kernel
theorem own_d6_1 : decode prog_12_method_3_code 1 = .ok (.instanceof 8, 3) := by decide +kernel
theorem own_d6_4 : decode prog_12_method_3_code 4 = .ok (.ifCond .eq 24, 3) := by decide +kernel
theorem own_d6_7 : decode prog_12_method_3_code 7 = .ok (.aload_n 1, 1) := by decide +kernel
theorem own_d6_8 : decode prog_12_method_3_code 8 = .ok (.checkcast 8, 3) := by decide +kernel
theorem own_d6_11 : decode prog_12_method_3_code 11 = .ok (.getfield 7, 3) := by decide +kernel
theorem own_d6_14 : decode prog_12_method_3_code 14 = .ok (.aload_n 0, 1) := by decide +kernel
theorem own_d6_15 : decode prog_12_method_3_code 15 = .ok (.getfield 7, 3) := by decide +kernel
theorem own_d6_18 : decode prog_12_method_3_code 18 = .ok (.invokevirtual 13, 3) := by decide +kernel
theorem own_pd6 : parseMethodDescriptor "(Ljava/lang/Object;)Z" = some ⟨[(.object "java/lang/Object")], some .boolean⟩ := by decide +kernel
theorem own_d6_21 : decode prog_12_method_3_code 21 = .ok (.ifCond .eq 7, 3) := by decide +kernel
theorem own_d6_24 : decode prog_12_method_3_code 24 = .ok (.iconst 1, 1) := by decide +kernel
theorem own_d6_25 : decode prog_12_method_3_code 25 = .ok (.goto 4, 3) := by decide +kernel
theorem own_d6_29 : decode prog_12_method_3_code 29 = .ok (.ireturn, 1) := by decide +kernel
theorem own_d6_28 : decode prog_12_method_3_code 28 = .ok (.iconst 0, 1) := by decide +kernel
theorem own_rm6_g_ef (m : MethodId) (f : Addr) (g' : Addr) : entryFrame m #[(.ref f), (.ref g')] 2 = mkF m 0 #[.val (.ref f), .val (.ref g')] [] := by first | (simp [entryFrame, mkF, argsToLocals, Value.category]; done) | rfl
def own_Q6_g (Z : State) (f : Addr) (g' : Addr) (sa : Addr) (sb : Addr) (xs : List Int32) (ys : List Int32) (cs : Int32) (h0 : Heap) (n0 : Nat) (v_ : Option Value) (h : Heap) (L_ : List Loc) : Prop := v_ = some (.int (if ys = xs then (1 : Int32) else 0)) ∧ Fr n0 L_ ∧ (h = h0)
set_option maxRecDepth 65536 in
set_option maxHeartbeats 40000000 in
theorem own_rm6_g (l : Launch) (Z : State) (a0 : Array Value) (hw : ∀ d ∈ tables_1, d.before a0 Z = true) (ws : List Jvm.Cond) (f : Addr) (g' : Addr) (sa : Addr) (sb : Addr) (xs : List Int32) (ys : List Int32) (cs : Int32) (h0 : Heap) (n0 : Nat) (Z0 : n0 ≤ h0.size) (F : Fld Z h0 f "com/example/marshal_trust/marshaltrust/FunctionGroup" "label" "Ljava/lang/String;" (.ref sa)) (G : Fld Z h0 g' "com/example/marshal_trust/marshaltrust/FunctionGroup" "label" "Ljava/lang/String;" (.ref sb)) (E : Exa Z h0 g' "com/example/marshal_trust/marshaltrust/FunctionGroup") (Sa : own_Str Z h0 sa xs) (Sb : own_Str Z h0 sb ys) (lx : xs.length < 1000) (ly : ys.length < 1000) (hcs : ¬ cs = (0 : Int32)) (S : Sta Z h0 "java/lang/String" "COMPACT_STRINGS" "Z" (.int cs)) :
    MetFree l (⟨"com/example/marshal_trust/marshaltrust/FunctionGroup", "equals", "(Ljava/lang/Object;)Z"⟩ : MethodName) (head1 (Jvm.Cond.code (⟨"com/example/marshal_trust/marshaltrust/FunctionGroup", "equals", "(Ljava/lang/Object;)Z"⟩ : MethodName) prog_12_method_3_code 2 (some .boolean) :: ws) ({ frames := 2, cells := 0, slots := 0, locals := 28 } : Room)) (fun a_ U_ => a_ = #[(.ref f), (.ref g')] ∧ Z.Warmed39 U_.vm ∧ U_.heap = h0) (fun _ _ _ _ _ => True) (fun _ U_ o_ V_ => ∃ v_ L_, o_ = .returned v_ ∧ own_Q6_g Z f g' sa sb xs ys cs h0 n0 v_ V_.heap L_ ∧ FrameEnd U_ o_ V_ L_ ({ frames := 2, cells := 0, slots := 0, locals := 28 } : Room).cells ({ frames := 2, cells := 0, slots := 0, locals := 28 } : Room).slots) := by
  refine MetFree.of_bodySF (plainFor_of_name own_pn_com_example_marshal_trust_marshaltrust_FunctionGroup) hisR ?_
  intro p e s m args below meth c s₁ Bd hml0 hP hK
  obtain ⟨rfl, hZ, hh⟩ := hP
  have hx := Bd.exec
  have hby := Bd.bytes
  have hml : c.maxLocals = 2 := hml0
  have hown : s.vm.findClass "com/example/marshal_trust/marshaltrust/FunctionGroup" = some m.cls := findClass_of_methodNamed Bd.named
  have hnm := (name_of_methodNamed Bd.named Bd.method).1
  have X0 : Stand p l e ({ frames := 2, cells := 0, slots := 0, locals := 28 } : Room) s m #[(.ref f), (.ref g')] below meth c s₁ [] 0 0 := Stand.of_body Bd
  have e0 : s₁.heap = h0 := by rw [← hh, Bd.state]; rfl
  have N0 := Fr.nil n0
  show own_G p e below s (own_Q6_g Z f g' sa sb xs ys cs h0 n0) ({ frames := 2, cells := 0, slots := 0, locals := 28 } : Room).cells ({ frames := 2, cells := 0, slots := 0, locals := 28 } : Room).slots s₁ (entryFrame m #[(.ref f), (.ref g')] 2)
  rw [own_rm6_g_ef]
  refine own_w (T' := s₁) (g' := (mkF m 1 #[.val (.ref f), .val (.ref g')] [(.ref g')])) (fun _ k_ => XS.aloadN X0.here hx rfl (hb hby own_d6_0) rfl rfl k_) ?_
  obtain ⟨T1, X1, e1, st1⟩ := instY X0 hx hZ hown (hw _ (List.mem_of_getElem? (i := 40) rfl)) e0 (Ins.self E) (g := (mkF m 1 #[.val (.ref f), .val (.ref g')] [(.ref g')])) rfl rfl (hb hby own_d6_1)
  refine own_w (T' := T1) (g' := (mkF m 4 #[.val (.ref f), .val (.ref g')] [(.int (1 : Int32))])) st1 ?_
  refine own_w (T' := T1) (g' := (mkF m 7 #[.val (.ref f), .val (.ref g')] [])) (fun _ k_ => XS.ifNo X1.here hx rfl (hb hby own_d6_4) rfl ((if0 _ _).trans (feq (by decide)).1) k_) ?_
  refine own_w (T' := T1) (g' := (mkF m 8 #[.val (.ref f), .val (.ref g')] [(.ref g')])) (fun _ k_ => XS.aloadN X1.here hx rfl (hb hby own_d6_7) rfl rfl k_) ?_
  obtain ⟨T2, X2, e2, st2⟩ := castY X1 hx hZ hown (hw _ (List.mem_of_getElem? (i := 40) rfl)) e1 (Ins.self E) (g := (mkF m 8 #[.val (.ref f), .val (.ref g')] [(.ref g')])) rfl rfl (hb hby own_d6_8)
  refine own_w (T' := T2) (g' := (mkF m 11 #[.val (.ref f), .val (.ref g')] [(.ref g')])) st2 ?_
  obtain ⟨T3, X3, e3, st3⟩ := getF X2 hx hZ hown (host := "") (Or.inl (hw _ (List.mem_of_getElem? (i := 33) rfl))) Via.refl e2 G (g := (mkF m 11 #[.val (.ref f), .val (.ref g')] [(.ref g')])) rfl rfl (hb hby own_d6_11)
  refine own_w (T' := T3) (g' := (mkF m 14 #[.val (.ref f), .val (.ref g')] [(.ref sb)])) st3 ?_
  refine own_w (T' := T3) (g' := (mkF m 15 #[.val (.ref f), .val (.ref g')] [(.ref f), (.ref sb)])) (fun _ k_ => XS.aloadN X3.here hx rfl (hb hby own_d6_14) rfl rfl k_) ?_
  obtain ⟨T4, X4, e4, st4⟩ := getF X3 hx hZ hown (host := "") (Or.inl (hw _ (List.mem_of_getElem? (i := 33) rfl))) Via.refl e3 F (g := (mkF m 15 #[.val (.ref f), .val (.ref g')] [(.ref f), (.ref sb)])) rfl rfl (hb hby own_d6_15)
  refine own_w (T' := T4) (g' := (mkF m 18 #[.val (.ref f), .val (.ref g')] [(.ref sa), (.ref sb)])) st4 ?_
  obtain ⟨cq5, kq5, q5a, q5b, q5c⟩ := isOf hZ e4 Sb.1
  obtain ⟨_, _, ⟨T5, L5, k5, n5⟩, -, X5, ⟨Lc5, hQ5, l5, y5, z5⟩, st5⟩ := X4.virtualBack hx (y := (⟨"java/lang/String", "equals", "(Ljava/lang/Object;)Z"⟩ : MethodName)) (z := (⟨"java/lang/String", "equals", "(Ljava/lang/Object;)Z"⟩ : MethodName)) hown (mvT hZ (hw _ (List.mem_of_getElem? (i := 42) rfl))) (mvT hZ (hw _ (List.mem_of_getElem? (i := 43) rfl))) (notFace_of_selects (args := #[]) (mvT hZ (hw _ (List.mem_of_getElem? (i := 45) rfl)))) (mvT hZ (hw _ (List.mem_of_getElem? (i := 45) rfl))) (mvT hZ (hw _ (List.mem_of_getElem? (i := 44) rfl))) (by decide) (backOf (W := 0) (own_rm7 l Z a0 hw [] sb sa ys xs cs h0 n0 Z0 Sb Sa ly lx hcs S) hZ (hw _ (List.mem_of_getElem? (i := 46) rfl)) (hw _ (List.mem_of_getElem? (i := 7) rfl)) (by decide) (by decide)) q5a q5c (g := (mkF m 18 #[.val (.ref f), .val (.ref g')] [(.ref sa), (.ref sb)])) rfl (by rw [hml]; rfl) (Steps.refl _) (argsL := [(.ref sa)]) (rest := []) (lenOf own_pd6 rfl) rfl (by show 2 * 0 + _ ≤ _; exact Nat.le_of_eq rfl) (hb hby own_d6_18) (fun _ _ => ⟨rfl, e4, (by decide : 0 + 0 ≤ _), (by decide : 0 + 0 ≤ _)⟩)
  dsimp only [Pt.U, Pt.locs, Pt.cells, Pt.slots] at X5 l5 y5 z5 st5 hQ5
  subst l5 y5 z5
  obtain ⟨rfl, N5q, e5⟩ := hQ5
  have N5 := Fr.app N0 N5q
  refine own_t (T' := T5) (g' := (mkF m 21 #[.val (.ref f), .val (.ref g')] [(.int (if (ys = xs) then (1 : Int32) else 0))])) st5 ?_
  by_cases hc21 : (ys = xs)
  · refine own_w (T' := T5) (g' := (mkF m 24 #[.val (.ref f), .val (.ref g')] [])) (fun _ k_ => XS.ifNo X5.here hx rfl (hb hby own_d6_21) rfl ((if0 _ _).trans (feq (fun q => (own_ite0.mp q) (show ((ys = xs)) from hc21))).1) k_) ?_
    refine own_w (T' := T5) (g' := (mkF m 25 #[.val (.ref f), .val (.ref g')] [(.int (1 : Int32))])) (fun _ k_ => XS.iconst X5.here hx rfl (hb hby own_d6_24) k_) ?_
    refine own_w (T' := T5) (g' := (mkF m 29 #[.val (.ref f), .val (.ref g')] [(.int (1 : Int32))])) (fun _ k_ => XS.goto X5.here hx rfl (pc0 := 25) (pc' := 29) rfl (hb hby own_d6_25) (by decide) (by decide) k_) ?_
    obtain ⟨fs, hr, hrun, hended, hW, hsame⟩ := X5.leave (v := some (.int (1 : Int32))) (fun h => by rw [Bd.returns] at h; cases h)
    exact ⟨_, _, retOut X5 hx Bd.returns rfl (Or.inl ⟨rfl, Or.inr (Or.inl rfl), _, rfl⟩) (hb hby own_d6_29) hr, hrun, hended, _, _, rfl, (by show own_Q6_g Z f g' sa sb xs ys cs h0 n0 _ T5.heap _; rw [e5]; exact ⟨(by rw [if_pos hc21]), N5, rfl⟩), ⟨_, rfl⟩, hW, hsame.mono (by decide) (by decide)⟩
  · refine own_w (T' := T5) (g' := (mkF m 28 #[.val (.ref f), .val (.ref g')] [])) (fun _ k_ => XS.ifYes X5.here hx rfl (pc0 := 21) (pc' := 28) rfl (hb hby own_d6_21) rfl ((if0 _ _).trans (teq (own_ite0.mpr (show ¬ ((ys = xs)) from hc21))).1) (by decide) (by decide) k_) ?_
    refine own_w (T' := T5) (g' := (mkF m 29 #[.val (.ref f), .val (.ref g')] [(.int (0 : Int32))])) (fun _ k_ => XS.iconst X5.here hx rfl (hb hby own_d6_28) k_) ?_
    obtain ⟨fs, hr, hrun, hended, hW, hsame⟩ := X5.leave (v := some (.int (0 : Int32))) (fun h => by rw [Bd.returns] at h; cases h)
    exact ⟨_, _, retOut X5 hx Bd.returns rfl (Or.inl ⟨rfl, Or.inr (Or.inl rfl), _, rfl⟩) (hb hby own_d6_29) hr, hrun, hended, _, _, rfl, (by show own_Q6_g Z f g' sa sb xs ys cs h0 n0 _ T5.heap _; rw [e5]; exact ⟨(by rw [if_neg hc21]), N5, rfl⟩), ⟨_, rfl⟩, hW, hsame.mono (by decide) (by decide)⟩
theorem own_rm6_n_ef (m : MethodId) (f : Addr) : entryFrame m #[(.ref f), .null] 2 = mkF m 0 #[.val (.ref f), .val .null] [] := by first | (simp [entryFrame, mkF, argsToLocals, Value.category]; done) | rfl
def own_Q6_n (Z : State) (f : Addr) (h0 : Heap) (n0 : Nat) (v_ : Option Value) (h : Heap) (L_ : List Loc) : Prop := v_ = some (.int (0 : Int32)) ∧ Fr n0 L_ ∧ (h = h0)
set_option maxRecDepth 65536 in
set_option maxHeartbeats 40000000 in
theorem own_rm6_n (l : Launch) (Z : State) (a0 : Array Value) (hw : ∀ d ∈ tables_1, d.before a0 Z = true) (ws : List Jvm.Cond) (f : Addr) (h0 : Heap) (n0 : Nat) (Z0 : n0 ≤ h0.size)  :
    MetFree l (⟨"com/example/marshal_trust/marshaltrust/FunctionGroup", "equals", "(Ljava/lang/Object;)Z"⟩ : MethodName) (head1 (Jvm.Cond.code (⟨"com/example/marshal_trust/marshaltrust/FunctionGroup", "equals", "(Ljava/lang/Object;)Z"⟩ : MethodName) prog_12_method_3_code 2 (some .boolean) :: ws) ({ frames := 0, cells := 0, slots := 0, locals := 0 } : Room)) (fun a_ U_ => a_ = #[(.ref f), .null] ∧ Z.Warmed39 U_.vm ∧ U_.heap = h0) (fun _ _ _ _ _ => True) (fun _ U_ o_ V_ => ∃ v_ L_, o_ = .returned v_ ∧ own_Q6_n Z f h0 n0 v_ V_.heap L_ ∧ FrameEnd U_ o_ V_ L_ ({ frames := 0, cells := 0, slots := 0, locals := 0 } : Room).cells ({ frames := 0, cells := 0, slots := 0, locals := 0 } : Room).slots) := by
  refine MetFree.of_bodySF (plainFor_of_name own_pn_com_example_marshal_trust_marshaltrust_FunctionGroup) hisR ?_
  intro p e s m args below meth c s₁ Bd hml0 hP hK
  obtain ⟨rfl, hZ, hh⟩ := hP
  have hx := Bd.exec
  have hby := Bd.bytes
  have hml : c.maxLocals = 2 := hml0
  have hown : s.vm.findClass "com/example/marshal_trust/marshaltrust/FunctionGroup" = some m.cls := findClass_of_methodNamed Bd.named
  have hnm := (name_of_methodNamed Bd.named Bd.method).1
  have X0 : Stand p l e ({ frames := 0, cells := 0, slots := 0, locals := 0 } : Room) s m #[(.ref f), .null] below meth c s₁ [] 0 0 := Stand.of_body Bd
  have e0 : s₁.heap = h0 := by rw [← hh, Bd.state]; rfl
  have N0 := Fr.nil n0
  show own_G p e below s (own_Q6_n Z f h0 n0) ({ frames := 0, cells := 0, slots := 0, locals := 0 } : Room).cells ({ frames := 0, cells := 0, slots := 0, locals := 0 } : Room).slots s₁ (entryFrame m #[(.ref f), .null] 2)
  rw [own_rm6_n_ef]
  refine own_w (T' := s₁) (g' := (mkF m 1 #[.val (.ref f), .val .null] [.null])) (fun _ k_ => XS.aloadN X0.here hx rfl (hb hby own_d6_0) rfl rfl k_) ?_
  refine own_w (T' := s₁) (g' := (mkF m 4 #[.val (.ref f), .val .null] [(.int (0 : Int32))])) (X0.instanceofNull hx (g := (mkF m 1 #[.val (.ref f), .val .null] [.null])) rfl rfl (hb hby own_d6_1)) ?_
  refine own_w (T' := s₁) (g' := (mkF m 28 #[.val (.ref f), .val .null] [])) (fun _ k_ => XS.ifYes X0.here hx rfl (pc0 := 4) (pc' := 28) rfl (hb hby own_d6_4) rfl ((if0 _ _).trans (teq rfl).1) (by decide) (by decide) k_) ?_
  refine own_w (T' := s₁) (g' := (mkF m 29 #[.val (.ref f), .val .null] [(.int (0 : Int32))])) (fun _ k_ => XS.iconst X0.here hx rfl (hb hby own_d6_28) k_) ?_
  obtain ⟨fs, hr, hrun, hended, hW, hsame⟩ := X0.leave (v := some (.int (0 : Int32))) (fun h => by rw [Bd.returns] at h; cases h)
  exact ⟨_, _, retOut X0 hx Bd.returns rfl (Or.inl ⟨rfl, Or.inr (Or.inl rfl), _, rfl⟩) (hb hby own_d6_29) hr, hrun, hended, _, _, rfl, (by show own_Q6_n Z f h0 n0 _ s₁.heap _; rw [e0]; exact ⟨rfl, N0, rfl⟩), ⟨_, rfl⟩, hW, hsame.mono (by decide) (by decide)⟩
theorem own_noFG {Z : State} {a0 : Array Value} (hw : ∀ d ∈ tables_1, d.before a0 Z = true) : ∃ c t, Z.vm.findClass "java/lang/String" = some c ∧ Z.vm.findClass "com/example/marshal_trust/marshaltrust/FunctionGroup" = some t ∧ Z.vm.assignable c t = false := by
  obtain ⟨t, kt, g1, g2, g3, g4, -⟩ := Cond.instantiable_spec (hw _ (List.mem_of_getElem? (i := 27) rfl))
  obtain ⟨o, ko, q1, q2, q3, -, -⟩ := Cond.noSuperclass_spec (hw _ (List.mem_of_getElem? (i := 64) rfl))
  obtain ⟨c, h0⟩ := found_sup (hw _ (List.mem_of_getElem? (i := 63) rfl))
  obtain ⟨p, k, kp, h1, h2, h3, h4, h5, h6, h7⟩ := Cond.superclass_spec h0 (hw _ (List.mem_of_getElem? (i := 63) rfl))
  cases q1.symm.trans h1
  have ne1 := ids_ne h0 g1 (by decide)
  have ne2 := ids_ne h1 g1 (by decide)
  have sub : ∀ fuel, Z.vm.isSubclassAux fuel c t = false := by
    intro fuel
    cases fuel with
    | zero => rfl
    | succ f =>
      cases f with
      | zero => simp [Vm.isSubclassAux, ne1, h2, h4]
      | succ f => simp [Vm.isSubclassAux, ne1, ne2, h2, h4, q2, q3]
  refine ⟨c, t, h0, g1, ?_⟩
  have g5 : kt.isInterface = false := by revert g4; cases kt.isInterface <;> simp
  show Z.vm.assignableAux (255 + 1) c t = false
  simp [Vm.assignableAux, ne1, h2, g2, h5, g3, g5, Vm.isSubclass, sub]
theorem own_rm6_s_ef (m : MethodId) (f : Addr) (g' : Addr) : entryFrame m #[(.ref f), (.ref g')] 2 = mkF m 0 #[.val (.ref f), .val (.ref g')] [] := by first | (simp [entryFrame, mkF, argsToLocals, Value.category]; done) | rfl
def own_Q6_s (Z : State) (f : Addr) (g' : Addr) (h0 : Heap) (n0 : Nat) (v_ : Option Value) (h : Heap) (L_ : List Loc) : Prop := v_ = some (.int (0 : Int32)) ∧ Fr n0 L_ ∧ (h = h0)
set_option maxRecDepth 65536 in
set_option maxHeartbeats 40000000 in
theorem own_rm6_s (l : Launch) (Z : State) (a0 : Array Value) (hw : ∀ d ∈ tables_1, d.before a0 Z = true) (ws : List Jvm.Cond) (f : Addr) (g' : Addr) (h0 : Heap) (n0 : Nat) (Z0 : n0 ≤ h0.size) (E : Exa Z h0 g' "java/lang/String") :
    MetFree l (⟨"com/example/marshal_trust/marshaltrust/FunctionGroup", "equals", "(Ljava/lang/Object;)Z"⟩ : MethodName) (head1 (Jvm.Cond.code (⟨"com/example/marshal_trust/marshaltrust/FunctionGroup", "equals", "(Ljava/lang/Object;)Z"⟩ : MethodName) prog_12_method_3_code 2 (some .boolean) :: ws) ({ frames := 0, cells := 0, slots := 0, locals := 0 } : Room)) (fun a_ U_ => a_ = #[(.ref f), (.ref g')] ∧ Z.Warmed39 U_.vm ∧ U_.heap = h0) (fun _ _ _ _ _ => True) (fun _ U_ o_ V_ => ∃ v_ L_, o_ = .returned v_ ∧ own_Q6_s Z f g' h0 n0 v_ V_.heap L_ ∧ FrameEnd U_ o_ V_ L_ ({ frames := 0, cells := 0, slots := 0, locals := 0 } : Room).cells ({ frames := 0, cells := 0, slots := 0, locals := 0 } : Room).slots) := by
  refine MetFree.of_bodySF (plainFor_of_name own_pn_com_example_marshal_trust_marshaltrust_FunctionGroup) hisR ?_
  intro p e s m args below meth c s₁ Bd hml0 hP hK
  obtain ⟨rfl, hZ, hh⟩ := hP
  have hx := Bd.exec
  have hby := Bd.bytes
  have hml : c.maxLocals = 2 := hml0
  have hown : s.vm.findClass "com/example/marshal_trust/marshaltrust/FunctionGroup" = some m.cls := findClass_of_methodNamed Bd.named
  have hnm := (name_of_methodNamed Bd.named Bd.method).1
  have X0 : Stand p l e ({ frames := 0, cells := 0, slots := 0, locals := 0 } : Room) s m #[(.ref f), (.ref g')] below meth c s₁ [] 0 0 := Stand.of_body Bd
  have e0 : s₁.heap = h0 := by rw [← hh, Bd.state]; rfl
  have N0 := Fr.nil n0
  show own_G p e below s (own_Q6_s Z f g' h0 n0) ({ frames := 0, cells := 0, slots := 0, locals := 0 } : Room).cells ({ frames := 0, cells := 0, slots := 0, locals := 0 } : Room).slots s₁ (entryFrame m #[(.ref f), (.ref g')] 2)
  rw [own_rm6_s_ef]
  refine own_w (T' := s₁) (g' := (mkF m 1 #[.val (.ref f), .val (.ref g')] [(.ref g')])) (fun _ k_ => XS.aloadN X0.here hx rfl (hb hby own_d6_0) rfl rfl k_) ?_
  obtain ⟨T1, X1, e1, st1⟩ := instNo X0 hx hZ hown (hw _ (List.mem_of_getElem? (i := 40) rfl)) e0 E (own_noFG hw) (g := (mkF m 1 #[.val (.ref f), .val (.ref g')] [(.ref g')])) rfl rfl (hb hby own_d6_1)
  refine own_w (T' := T1) (g' := (mkF m 4 #[.val (.ref f), .val (.ref g')] [(.int (0 : Int32))])) st1 ?_
  refine own_w (T' := T1) (g' := (mkF m 28 #[.val (.ref f), .val (.ref g')] [])) (fun _ k_ => XS.ifYes X1.here hx rfl (pc0 := 4) (pc' := 28) rfl (hb hby own_d6_4) rfl ((if0 _ _).trans (teq rfl).1) (by decide) (by decide) k_) ?_
  refine own_w (T' := T1) (g' := (mkF m 29 #[.val (.ref f), .val (.ref g')] [(.int (0 : Int32))])) (fun _ k_ => XS.iconst X1.here hx rfl (hb hby own_d6_28) k_) ?_
  obtain ⟨fs, hr, hrun, hended, hW, hsame⟩ := X1.leave (v := some (.int (0 : Int32))) (fun h => by rw [Bd.returns] at h; cases h)
  exact ⟨_, _, retOut X1 hx Bd.returns rfl (Or.inl ⟨rfl, Or.inr (Or.inl rfl), _, rfl⟩) (hb hby own_d6_29) hr, hrun, hended, _, _, rfl, (by show own_Q6_s Z f g' h0 n0 _ T1.heap _; rw [e1]; exact ⟨rfl, N0, rfl⟩), ⟨_, rfl⟩, hW, hsame.mono (by decide) (by decide)⟩
def own_i2c (x : Int32) : Int32 := x.toUInt32.toUInt16.toUInt32.toInt32
theorem own_ch (x : Int32) : own_i2c (x &&& (255 : Int32)) = x &&& (255 : Int32) := by
  have h := c_i2c (x &&& (255 : Int32))
  have m := c_mask x 255 8 (by decide) (by decide)
  apply Int32.toInt_inj.mp
  show ((x &&& (255 : Int32)).toUInt32.toUInt16.toUInt32.toInt32).toInt = _
  omega
theorem own_ch1 (x : Int32) : ¬ (255 : Int32) < own_i2c (x &&& (255 : Int32)) := by
  have m := c_mask x 255 8 (by decide) (by decide)
  have e : (255 : Int32).toInt = 255 := by decide
  rw [own_ch, Int32.lt_iff_toInt_lt]; omega
theorem own_ch0 (x : Int32) : 0 ≤ (own_i2c (x &&& (255 : Int32))).toInt := by
  have m := c_mask x 255 8 (by decide) (by decide)
  rw [own_ch]; omega
theorem own_ch2 (x : Int32) : nar .char (own_i2c (x &&& (255 : Int32))) = own_i2c (x &&& (255 : Int32)) := by
  show own_i2c (own_i2c (x &&& (255 : Int32))) = _
  rw [own_ch, own_ch]
theorem own_bj {x y : Int32} (hx : ¬ (255 : Int32) < x) (hy : ¬ (255 : Int32) < y) (h0 : 0 ≤ x.toInt) (h1 : 0 ≤ y.toInt) : x.toInt8.toInt32 = y.toInt8.toInt32 ↔ x = y := by
  constructor
  · intro h
    have a := (c_i2b x).1; have b := (c_i2b y).1
    rw [h] at a
    have e : (255 : Int32).toInt = 255 := by decide
    rw [Int32.lt_iff_toInt_lt] at hx hy
    apply Int32.toInt_inj.mp
    omega
  · rintro rfl; rfl
theorem own_r3 {x : Int32} (y : Int32) (hx : x = y &&& (3 : Int32)) : x - x / (3 : Int32) * (3 : Int32) = 0 ∨ x - x / (3 : Int32) * (3 : Int32) = 1 ∨ x - x / (3 : Int32) * (3 : Int32) = 2 := by
  have h := own_rem (x := x) (y := (3 : Int32)) 3 (by decide) (by decide) (by subst hx; exact (c_and _ 3 (by decide)).1)
  simp only [← Int32.toInt_inj, h, show (0 : Int32).toInt = 0 by decide, show (1 : Int32).toInt = 1 by decide, show (2 : Int32).toInt = 2 by decide]
  omega
theorem own_mklen (n x y : Int32) : (own_mk n x y).length < 1000 := by
  unfold own_mk
  repeat' split
  all_goals simp
def own_exp (n m x y u v : Int32) : Prop := n = m ∧ (n < 1 ∨ x = u) ∧ (n < 2 ∨ y = v)
theorem own_mkeq {n m x y u v : Int32} (hn : n = 0 ∨ n = 1 ∨ n = 2) (hm : m = 0 ∨ m = 1 ∨ m = 2) (hx : x.toInt8.toInt32 = u.toInt8.toInt32 ↔ x = u) (hy : y.toInt8.toInt32 = v.toInt8.toInt32 ↔ y = v) : own_mk m u v = own_mk n x y ↔ own_exp n m x y u v := by
  have a1 : (0 : Int32) < 1 := by decide
  have a2 : (0 : Int32) < 2 := by decide
  have a3 : ¬ (1 : Int32) < 1 := by decide
  have a4 : (1 : Int32) < 2 := by decide
  have a5 : ¬ (2 : Int32) < 1 := by decide
  have a6 : ¬ (2 : Int32) < 2 := by decide
  have hx' : u.toInt8.toInt32 = x.toInt8.toInt32 ↔ x = u := ⟨fun q => hx.mp q.symm, fun q => (hx.mpr q).symm⟩
  have hy' : v.toInt8.toInt32 = y.toInt8.toInt32 ↔ y = v := ⟨fun q => hy.mp q.symm, fun q => (hy.mpr q).symm⟩
  rcases hn with rfl | rfl | rfl <;> rcases hm with rfl | rfl | rfl <;> simp [own_mk, own_exp, hx', hy', a1, a2, a3, a4, a5, a6]
theorem own_pd7 : parseMethodDescriptor "(ICC)Ljava/lang/String;" = some ⟨[.int, .char, .char], some (.object "java/lang/String")⟩ := by decide +kernel
theorem own_pd8 : parseMethodDescriptor "(Ljava/lang/String;)V" = some ⟨[(.object "java/lang/String")], none⟩ := by decide +kernel
theorem own_rm0_ef (m : MethodId) (pa : Int32) (pb : Int32) (pc' : Int32) (pd : Int32) (fl : Int32) : entryFrame m #[(.int pa), (.int pb), (.int pc'), (.int pd), (.int fl)] maxLocals = mkF m 0 #[.val (.int pa), .val (.int pb), .val (.int pc'), .val (.int pd), .val (.int fl), .unset, .unset, .unset, .unset, .unset, .unset, .unset, .unset, .unset, .unset, .unset, .unset, .unset] [] := by first | (simp [entryFrame, mkF, argsToLocals, Value.category, maxLocals]; done) | rfl
def own_Q0 (Z : State) (pa : Int32) (pb : Int32) (pc' : Int32) (pd : Int32) (fl : Int32) (cs : Int32) (h0 : Heap) (n0 : Nat) (v_ : Option Value) (h : Heap) (L_ : List Loc) : Prop := v_ = some (.int (1 : Int32)) ∧ Fr n0 L_
set_option maxRecDepth 65536 in
set_option maxHeartbeats 40000000 in
theorem own_rm0 (l : Launch) (Z : State) (a0 : Array Value) (hw : ∀ d ∈ tables_1, d.before a0 Z = true) (ws : List Jvm.Cond) (pa : Int32) (pb : Int32) (pc' : Int32) (pd : Int32) (fl : Int32) (cs : Int32) (h0 : Heap) (n0 : Nat) (Z0 : n0 ≤ h0.size) (hcs : ¬ cs = (0 : Int32)) (S : Sta Z h0 "java/lang/String" "COMPACT_STRINGS" "Z" (.int cs)) :
    MetFree l x (head1 (Jvm.Cond.code x code maxLocals ret :: ws) room_1) (fun a_ U_ => a_ = #[(.int pa), (.int pb), (.int pc'), (.int pd), (.int fl)] ∧ Z.Warmed39 U_.vm ∧ U_.heap = h0 ∧ CHv Z own_EL U_.vm h0) (fun _ _ _ _ _ => True) (fun _ U_ o_ V_ => ∃ v_ L_, o_ = .returned v_ ∧ own_Q0 Z pa pb pc' pd fl cs h0 n0 v_ V_.heap L_ ∧ CHr Z own_EL U_.vm U_.heap V_.vm V_.heap ∧ ReturnedEndW U_ o_ V_ L_ room_1.cells room_1.slots) := by
  refine MetFree.of_bodySF (plainFor_of_name own_pn_com_example_marshal_trust_marshaltrust_FunctionGroupEqualsPinLaw) hisR ?_
  intro p e s m args below meth c s₁ Bd hml0 hP hK
  obtain ⟨rfl, hZ, hh, hCH⟩ := hP
  have hx := Bd.exec
  have hby := Bd.bytes
  have hml : c.maxLocals = 18 := hml0
  have hown : s.vm.findClass "com/example/marshal_trust/marshaltrust/FunctionGroupEqualsPinLaw" = some m.cls := findClass_of_methodNamed Bd.named
  have hnm := (name_of_methodNamed Bd.named Bd.method).1
  have X0 : Stand p l e room_1 s m #[(.int pa), (.int pb), (.int pc'), (.int pd), (.int fl)] below meth c s₁ [] 0 0 := Stand.of_body Bd
  have e0 : s₁.heap = h0 := by rw [← hh, Bd.state]; rfl
  have N0 := Fr.nil n0
  show own_GW Z own_EL p e below s (own_Q0 Z pa pb pc' pd fl cs h0 n0) room_1.cells room_1.slots s₁ (entryFrame m #[(.int pa), (.int pb), (.int pc'), (.int pd), (.int fl)] maxLocals)
  rw [own_rm0_ef]
  have hS0 : s.Since s.vm h0.size := (State.WarmedH.refl s).since _
  have CB0 : CHr Z own_EL s.vm h0 s.vm h0 := CHr.refl hCH
  refine own_ww (T' := s₁) (g' := (mkF m 2 #[.val (.int pa), .val (.int pb), .val (.int pc'), .val (.int pd), .val (.int fl), .unset, .unset, .unset, .unset, .unset, .unset, .unset, .unset, .unset, .unset, .unset, .unset, .unset] [(.int fl)])) (fun _ k_ => XS.iload X0.here hx rfl (hb hby at_0) rfl k_) ?_
  refine own_ww (T' := s₁) (g' := (mkF m 3 #[.val (.int pa), .val (.int pb), .val (.int pc'), .val (.int pd), .val (.int fl), .unset, .unset, .unset, .unset, .unset, .unset, .unset, .unset, .unset, .unset, .unset, .unset, .unset] [(.int (3 : Int32)), (.int fl)])) (fun _ k_ => XS.iconst X0.here hx rfl (hb hby at_2) k_) ?_
  refine own_ww (T' := s₁) (g' := (mkF m 4 #[.val (.int pa), .val (.int pb), .val (.int pc'), .val (.int pd), .val (.int fl), .unset, .unset, .unset, .unset, .unset, .unset, .unset, .unset, .unset, .unset, .unset, .unset, .unset] [(.int (fl &&& (3 : Int32)))])) (fun _ k_ => XS.iand X0.here hx rfl (hb hby at_3) rfl k_) ?_
  refine own_ww (T' := s₁) (g' := (mkF m 5 #[.val (.int pa), .val (.int pb), .val (.int pc'), .val (.int pd), .val (.int fl), .unset, .unset, .unset, .unset, .unset, .unset, .unset, .unset, .unset, .unset, .unset, .unset, .unset] [(.int (3 : Int32)), (.int (fl &&& (3 : Int32)))])) (fun _ k_ => XS.iconst X0.here hx rfl (hb hby at_4) k_) ?_
  refine own_ww (T' := s₁) (g' := (mkF m 6 #[.val (.int pa), .val (.int pb), .val (.int pc'), .val (.int pd), .val (.int fl), .unset, .unset, .unset, .unset, .unset, .unset, .unset, .unset, .unset, .unset, .unset, .unset, .unset] [(.int ((fl &&& (3 : Int32)) - ((fl &&& (3 : Int32)) / (3 : Int32)) * (3 : Int32)))])) (fun _ k_ => XS.irem X0.here hx rfl (hb hby at_5) rfl (by decide) k_) ?_
  refine own_ww (T' := s₁) (g' := (mkF m 8 #[.val (.int pa), .val (.int pb), .val (.int pc'), .val (.int pd), .val (.int fl), .val (.int ((fl &&& (3 : Int32)) - ((fl &&& (3 : Int32)) / (3 : Int32)) * (3 : Int32))), .unset, .unset, .unset, .unset, .unset, .unset, .unset, .unset, .unset, .unset, .unset, .unset] [])) (fun _ k_ => XS.istore X0.here hx rfl (hb hby at_6) rfl (l' := #[.val (.int pa), .val (.int pb), .val (.int pc'), .val (.int pd), .val (.int fl), .val (.int ((fl &&& (3 : Int32)) - ((fl &&& (3 : Int32)) / (3 : Int32)) * (3 : Int32))), .unset, .unset, .unset, .unset, .unset, .unset, .unset, .unset, .unset, .unset, .unset, .unset]) rfl k_) ?_
  refine own_ww (T' := s₁) (g' := (mkF m 10 #[.val (.int pa), .val (.int pb), .val (.int pc'), .val (.int pd), .val (.int fl), .val (.int ((fl &&& (3 : Int32)) - ((fl &&& (3 : Int32)) / (3 : Int32)) * (3 : Int32))), .unset, .unset, .unset, .unset, .unset, .unset, .unset, .unset, .unset, .unset, .unset, .unset] [(.int fl)])) (fun _ k_ => XS.iload X0.here hx rfl (hb hby at_8) rfl k_) ?_
  refine own_ww (T' := s₁) (g' := (mkF m 11 #[.val (.int pa), .val (.int pb), .val (.int pc'), .val (.int pd), .val (.int fl), .val (.int ((fl &&& (3 : Int32)) - ((fl &&& (3 : Int32)) / (3 : Int32)) * (3 : Int32))), .unset, .unset, .unset, .unset, .unset, .unset, .unset, .unset, .unset, .unset, .unset, .unset] [(.int (2 : Int32)), (.int fl)])) (fun _ k_ => XS.iconst X0.here hx rfl (hb hby at_10) k_) ?_
  refine own_ww (T' := s₁) (g' := (mkF m 12 #[.val (.int pa), .val (.int pb), .val (.int pc'), .val (.int pd), .val (.int fl), .val (.int ((fl &&& (3 : Int32)) - ((fl &&& (3 : Int32)) / (3 : Int32)) * (3 : Int32))), .unset, .unset, .unset, .unset, .unset, .unset, .unset, .unset, .unset, .unset, .unset, .unset] [(.int ((fl.toUInt32 >>> ((2 : Int32) &&& 31).toUInt32).toInt32))])) (fun _ k_ => XS.iushr X0.here hx rfl (hb hby at_11) rfl k_) ?_
  refine own_ww (T' := s₁) (g' := (mkF m 13 #[.val (.int pa), .val (.int pb), .val (.int pc'), .val (.int pd), .val (.int fl), .val (.int ((fl &&& (3 : Int32)) - ((fl &&& (3 : Int32)) / (3 : Int32)) * (3 : Int32))), .unset, .unset, .unset, .unset, .unset, .unset, .unset, .unset, .unset, .unset, .unset, .unset] [(.int (3 : Int32)), (.int ((fl.toUInt32 >>> ((2 : Int32) &&& 31).toUInt32).toInt32))])) (fun _ k_ => XS.iconst X0.here hx rfl (hb hby at_12) k_) ?_
  refine own_ww (T' := s₁) (g' := (mkF m 14 #[.val (.int pa), .val (.int pb), .val (.int pc'), .val (.int pd), .val (.int fl), .val (.int ((fl &&& (3 : Int32)) - ((fl &&& (3 : Int32)) / (3 : Int32)) * (3 : Int32))), .unset, .unset, .unset, .unset, .unset, .unset, .unset, .unset, .unset, .unset, .unset, .unset] [(.int (((fl.toUInt32 >>> ((2 : Int32) &&& 31).toUInt32).toInt32) &&& (3 : Int32)))])) (fun _ k_ => XS.iand X0.here hx rfl (hb hby at_13) rfl k_) ?_
  refine own_ww (T' := s₁) (g' := (mkF m 15 #[.val (.int pa), .val (.int pb), .val (.int pc'), .val (.int pd), .val (.int fl), .val (.int ((fl &&& (3 : Int32)) - ((fl &&& (3 : Int32)) / (3 : Int32)) * (3 : Int32))), .unset, .unset, .unset, .unset, .unset, .unset, .unset, .unset, .unset, .unset, .unset, .unset] [(.int (3 : Int32)), (.int (((fl.toUInt32 >>> ((2 : Int32) &&& 31).toUInt32).toInt32) &&& (3 : Int32)))])) (fun _ k_ => XS.iconst X0.here hx rfl (hb hby at_14) k_) ?_
  refine own_ww (T' := s₁) (g' := (mkF m 16 #[.val (.int pa), .val (.int pb), .val (.int pc'), .val (.int pd), .val (.int fl), .val (.int ((fl &&& (3 : Int32)) - ((fl &&& (3 : Int32)) / (3 : Int32)) * (3 : Int32))), .unset, .unset, .unset, .unset, .unset, .unset, .unset, .unset, .unset, .unset, .unset, .unset] [(.int ((((fl.toUInt32 >>> ((2 : Int32) &&& 31).toUInt32).toInt32) &&& (3 : Int32)) - ((((fl.toUInt32 >>> ((2 : Int32) &&& 31).toUInt32).toInt32) &&& (3 : Int32)) / (3 : Int32)) * (3 : Int32)))])) (fun _ k_ => XS.irem X0.here hx rfl (hb hby at_15) rfl (by decide) k_) ?_
  refine own_ww (T' := s₁) (g' := (mkF m 18 #[.val (.int pa), .val (.int pb), .val (.int pc'), .val (.int pd), .val (.int fl), .val (.int ((fl &&& (3 : Int32)) - ((fl &&& (3 : Int32)) / (3 : Int32)) * (3 : Int32))), .val (.int ((((fl.toUInt32 >>> ((2 : Int32) &&& 31).toUInt32).toInt32) &&& (3 : Int32)) - ((((fl.toUInt32 >>> ((2 : Int32) &&& 31).toUInt32).toInt32) &&& (3 : Int32)) / (3 : Int32)) * (3 : Int32))), .unset, .unset, .unset, .unset, .unset, .unset, .unset, .unset, .unset, .unset, .unset] [])) (fun _ k_ => XS.istore X0.here hx rfl (hb hby at_16) rfl (l' := #[.val (.int pa), .val (.int pb), .val (.int pc'), .val (.int pd), .val (.int fl), .val (.int ((fl &&& (3 : Int32)) - ((fl &&& (3 : Int32)) / (3 : Int32)) * (3 : Int32))), .val (.int ((((fl.toUInt32 >>> ((2 : Int32) &&& 31).toUInt32).toInt32) &&& (3 : Int32)) - ((((fl.toUInt32 >>> ((2 : Int32) &&& 31).toUInt32).toInt32) &&& (3 : Int32)) / (3 : Int32)) * (3 : Int32))), .unset, .unset, .unset, .unset, .unset, .unset, .unset, .unset, .unset, .unset, .unset]) rfl k_) ?_
  refine own_ww (T' := s₁) (g' := (mkF m 20 #[.val (.int pa), .val (.int pb), .val (.int pc'), .val (.int pd), .val (.int fl), .val (.int ((fl &&& (3 : Int32)) - ((fl &&& (3 : Int32)) / (3 : Int32)) * (3 : Int32))), .val (.int ((((fl.toUInt32 >>> ((2 : Int32) &&& 31).toUInt32).toInt32) &&& (3 : Int32)) - ((((fl.toUInt32 >>> ((2 : Int32) &&& 31).toUInt32).toInt32) &&& (3 : Int32)) / (3 : Int32)) * (3 : Int32))), .unset, .unset, .unset, .unset, .unset, .unset, .unset, .unset, .unset, .unset, .unset] [(.int fl)])) (fun _ k_ => XS.iload X0.here hx rfl (hb hby at_18) rfl k_) ?_
  refine own_ww (T' := s₁) (g' := (mkF m 21 #[.val (.int pa), .val (.int pb), .val (.int pc'), .val (.int pd), .val (.int fl), .val (.int ((fl &&& (3 : Int32)) - ((fl &&& (3 : Int32)) / (3 : Int32)) * (3 : Int32))), .val (.int ((((fl.toUInt32 >>> ((2 : Int32) &&& 31).toUInt32).toInt32) &&& (3 : Int32)) - ((((fl.toUInt32 >>> ((2 : Int32) &&& 31).toUInt32).toInt32) &&& (3 : Int32)) / (3 : Int32)) * (3 : Int32))), .unset, .unset, .unset, .unset, .unset, .unset, .unset, .unset, .unset, .unset, .unset] [(.int (4 : Int32)), (.int fl)])) (fun _ k_ => XS.iconst X0.here hx rfl (hb hby at_20) k_) ?_
  refine own_ww (T' := s₁) (g' := (mkF m 22 #[.val (.int pa), .val (.int pb), .val (.int pc'), .val (.int pd), .val (.int fl), .val (.int ((fl &&& (3 : Int32)) - ((fl &&& (3 : Int32)) / (3 : Int32)) * (3 : Int32))), .val (.int ((((fl.toUInt32 >>> ((2 : Int32) &&& 31).toUInt32).toInt32) &&& (3 : Int32)) - ((((fl.toUInt32 >>> ((2 : Int32) &&& 31).toUInt32).toInt32) &&& (3 : Int32)) / (3 : Int32)) * (3 : Int32))), .unset, .unset, .unset, .unset, .unset, .unset, .unset, .unset, .unset, .unset, .unset] [(.int ((fl.toUInt32 >>> ((4 : Int32) &&& 31).toUInt32).toInt32))])) (fun _ k_ => XS.iushr X0.here hx rfl (hb hby at_21) rfl k_) ?_
  refine own_ww (T' := s₁) (g' := (mkF m 23 #[.val (.int pa), .val (.int pb), .val (.int pc'), .val (.int pd), .val (.int fl), .val (.int ((fl &&& (3 : Int32)) - ((fl &&& (3 : Int32)) / (3 : Int32)) * (3 : Int32))), .val (.int ((((fl.toUInt32 >>> ((2 : Int32) &&& 31).toUInt32).toInt32) &&& (3 : Int32)) - ((((fl.toUInt32 >>> ((2 : Int32) &&& 31).toUInt32).toInt32) &&& (3 : Int32)) / (3 : Int32)) * (3 : Int32))), .unset, .unset, .unset, .unset, .unset, .unset, .unset, .unset, .unset, .unset, .unset] [(.int (1 : Int32)), (.int ((fl.toUInt32 >>> ((4 : Int32) &&& 31).toUInt32).toInt32))])) (fun _ k_ => XS.iconst X0.here hx rfl (hb hby at_22) k_) ?_
  refine own_ww (T' := s₁) (g' := (mkF m 24 #[.val (.int pa), .val (.int pb), .val (.int pc'), .val (.int pd), .val (.int fl), .val (.int ((fl &&& (3 : Int32)) - ((fl &&& (3 : Int32)) / (3 : Int32)) * (3 : Int32))), .val (.int ((((fl.toUInt32 >>> ((2 : Int32) &&& 31).toUInt32).toInt32) &&& (3 : Int32)) - ((((fl.toUInt32 >>> ((2 : Int32) &&& 31).toUInt32).toInt32) &&& (3 : Int32)) / (3 : Int32)) * (3 : Int32))), .unset, .unset, .unset, .unset, .unset, .unset, .unset, .unset, .unset, .unset, .unset] [(.int (((fl.toUInt32 >>> ((4 : Int32) &&& 31).toUInt32).toInt32) &&& (1 : Int32)))])) (fun _ k_ => XS.iand X0.here hx rfl (hb hby at_23) rfl k_) ?_
  have hn1 := own_r3 fl (x := (fl &&& (3 : Int32))) rfl
  have hn2 := own_r3 _ (x := (((fl.toUInt32 >>> ((2 : Int32) &&& 31).toUInt32).toInt32) &&& (3 : Int32))) rfl
  generalize ((fl &&& (3 : Int32)) - ((fl &&& (3 : Int32)) / (3 : Int32)) * (3 : Int32)) = ln1 at *
  generalize ((((fl.toUInt32 >>> ((2 : Int32) &&& 31).toUInt32).toInt32) &&& (3 : Int32)) - ((((fl.toUInt32 >>> ((2 : Int32) &&& 31).toUInt32).toInt32) &&& (3 : Int32)) / (3 : Int32)) * (3 : Int32)) = ln2 at *
  have J94 : ∀ (vmJ : Vm) (TJ : State) (LJ : List Loc) (hJ : Heap) (XJ : Stand p l e room_1 (s.setVm vmJ) m #[(.int pa), (.int pb), (.int pc'), (.int pd), (.int fl)] below meth c TJ LJ 0 0) (eJ : TJ.heap = hJ) (NJ : Fr n0 LJ) (hZJ : Z.Warmed39 (s.setVm vmJ).vm) (hoJ : (s.setVm vmJ).vm.findClass "com/example/marshal_trust/marshaltrust/FunctionGroupEqualsPinLaw" = some m.cls) (hSJ : s.Since vmJ hJ.size) (CBJ : CHr Z own_EL s.vm h0 vmJ hJ) (cpy : Int32) (x1 : Int32) (y1 : Int32) (x2 : Int32) (y2 : Int32) (q1 : ¬ (255 : Int32) < x1 ∧ nar .char x1 = x1 ∧ 0 ≤ x1.toInt) (q2 : ¬ (255 : Int32) < y1 ∧ nar .char y1 = y1 ∧ 0 ≤ y1.toInt) (q3 : ¬ (255 : Int32) < x2 ∧ nar .char x2 = x2 ∧ 0 ≤ x2.toInt) (q4 : ¬ (255 : Int32) < y2 ∧ nar .char y2 = y2 ∧ 0 ≤ y2.toInt) (SJ : Sta Z hJ "java/lang/String" "COMPACT_STRINGS" "Z" (.int cs)), own_GW Z own_EL p e below s (own_Q0 Z pa pb pc' pd fl cs h0 n0) room_1.cells room_1.slots TJ (mkF m 94 #[.val (.int pa), .val (.int pb), .val (.int pc'), .val (.int pd), .val (.int fl), .val (.int ln1), .val (.int ln2), .val (.int cpy), .val (.int (((fl.toUInt32 >>> ((5 : Int32) &&& 31).toUInt32).toInt32) &&& (3 : Int32))), .val (.int x1), .val (.int y1), .val (.int x2), .val (.int y2), .unset, .unset, .unset, .unset, .unset] []) := by
    intro vmJ TJ LJ hJ XJ eJ NJ hZJ hoJ hSJ CBJ cpy x1 y1 x2 y2 q1 q2 q3 q4 SJ
    have CSJ : CHr Z own_EL vmJ hJ vmJ hJ := CHr.refl CBJ.1
    have ZJ : n0 ≤ hJ.size := Nat.le_trans Z0 CBJ.2.1
    refine own_ww (T' := TJ) (g' := (mkF m 96 #[.val (.int pa), .val (.int pb), .val (.int pc'), .val (.int pd), .val (.int fl), .val (.int ln1), .val (.int ln2), .val (.int cpy), .val (.int (((fl.toUInt32 >>> ((5 : Int32) &&& 31).toUInt32).toInt32) &&& (3 : Int32))), .val (.int x1), .val (.int y1), .val (.int x2), .val (.int y2), .unset, .unset, .unset, .unset, .unset] [(.int ln1)])) (fun _ k_ => XS.iload XJ.here hx rfl (hb hby at_94) rfl k_) ?_
    refine own_ww (T' := TJ) (g' := (mkF m 98 #[.val (.int pa), .val (.int pb), .val (.int pc'), .val (.int pd), .val (.int fl), .val (.int ln1), .val (.int ln2), .val (.int cpy), .val (.int (((fl.toUInt32 >>> ((5 : Int32) &&& 31).toUInt32).toInt32) &&& (3 : Int32))), .val (.int x1), .val (.int y1), .val (.int x2), .val (.int y2), .unset, .unset, .unset, .unset, .unset] [(.int x1), (.int ln1)])) (fun _ k_ => XS.iload XJ.here hx rfl (hb hby at_96) rfl k_) ?_
    refine own_ww (T' := TJ) (g' := (mkF m 100 #[.val (.int pa), .val (.int pb), .val (.int pc'), .val (.int pd), .val (.int fl), .val (.int ln1), .val (.int ln2), .val (.int cpy), .val (.int (((fl.toUInt32 >>> ((5 : Int32) &&& 31).toUInt32).toInt32) &&& (3 : Int32))), .val (.int x1), .val (.int y1), .val (.int x2), .val (.int y2), .unset, .unset, .unset, .unset, .unset] [(.int y1), (.int x1), (.int ln1)])) (fun _ k_ => XS.iload XJ.here hx rfl (hb hby at_98) rfl k_) ?_
    obtain ⟨_, _, ⟨T1, L1, k1, n1⟩, -, X1', hs21, hg1, ⟨Lc1, hQ1, l1, y1, z1, cr1⟩, st1⟩ := callSS XJ hx (y := (⟨"com/example/marshal_trust/marshaltrust/FunctionGroupEqualsPinLaw", "make", "(ICC)Ljava/lang/String;"⟩ : MethodName)) hoJ (mvT hZJ (hw _ (List.mem_of_getElem? (i := 0) rfl))) (mvT hZJ (hw _ (List.mem_of_getElem? (i := 1) rfl))) (mvT hZJ (hw _ (List.mem_of_getElem? (i := 2) rfl))) (mvT hZJ (hw _ (List.mem_of_getElem? (i := 3) rfl))) (by decide) (backOfSH (W := 0) (own_rm1 l Z a0 hw [] ln1 x1 y1 cs hJ n0 ZJ hn1 q1.1 q1.2.1 q2.1 q2.2.1 hcs SJ) hZJ (hw _ (List.mem_of_getElem? (i := 3) rfl)) (hw _ (List.mem_of_getElem? (i := 2) rfl)) (by decide) (by decide) (own_EW hw) CSJ.1) (g := (mkF m 100 #[.val (.int pa), .val (.int pb), .val (.int pc'), .val (.int pd), .val (.int fl), .val (.int ln1), .val (.int ln2), .val (.int cpy), .val (.int (((fl.toUInt32 >>> ((5 : Int32) &&& 31).toUInt32).toInt32) &&& (3 : Int32))), .val (.int x1), .val (.int y1), .val (.int x2), .val (.int y2), .unset, .unset, .unset, .unset, .unset] [(.int y1), (.int x1), (.int ln1)])) rfl (by rw [hml]; rfl) (argsL := [(.int ln1), (.int x1), (.int y1)]) (rest := []) (lenOf own_pd7 rfl) rfl (by show 2 * 0 + _ ≤ _; exact Nat.le_of_eq rfl) (hb hby at_100) (fun _ _ => ⟨rfl, eJ, (by decide : 0 + 6 ≤ _), (by decide : 0 + 12 ≤ _)⟩)
    dsimp only [Pt.U, Pt.locs, Pt.cells, Pt.slots] at X1' hs21 hg1 l1 y1 z1 st1 hQ1 cr1
    subst l1 y1 z1
    obtain ⟨X1, hS1, hZ1, ho1⟩ := rebS hSJ (by rw [eJ]; exact CSJ.2.1) X1' hs21 hg1 hZJ hoJ
    obtain ⟨h1, e1⟩ : ∃ h, T1.heap = h := ⟨_, rfl⟩
    rw [e1] at hQ1 hS1 cr1
    obtain ⟨r1, rfl, N1q, K1, Q1⟩ := hQ1
    have N1 := Fr.app NJ N1q
    have CB1 : CHr Z own_EL s.vm h0 T1.vm h1 := (CBJ.trans CSJ).trans cr1
    have CS1 : CHr Z own_EL T1.vm h1 T1.vm h1 := CHr.refl CB1.1
    have Z1 : n0 ≤ h1.size := Nat.le_trans ZJ cr1.2.1
    refine own_wt (T' := T1) (g' := (mkF m 103 #[.val (.int pa), .val (.int pb), .val (.int pc'), .val (.int pd), .val (.int fl), .val (.int ln1), .val (.int ln2), .val (.int cpy), .val (.int (((fl.toUInt32 >>> ((5 : Int32) &&& 31).toUInt32).toInt32) &&& (3 : Int32))), .val (.int x1), .val (.int y1), .val (.int x2), .val (.int y2), .unset, .unset, .unset, .unset, .unset] [(.ref r1)])) st1 ?_
    have S1 := own_sta0 SJ K1
    refine own_ww (T' := T1) (g' := (mkF m 105 #[.val (.int pa), .val (.int pb), .val (.int pc'), .val (.int pd), .val (.int fl), .val (.int ln1), .val (.int ln2), .val (.int cpy), .val (.int (((fl.toUInt32 >>> ((5 : Int32) &&& 31).toUInt32).toInt32) &&& (3 : Int32))), .val (.int x1), .val (.int y1), .val (.int x2), .val (.int y2), .val (.ref r1), .unset, .unset, .unset, .unset] [])) (fun _ k_ => XS.astore X1.here hx rfl (hb hby at_103) rfl rfl (l' := #[.val (.int pa), .val (.int pb), .val (.int pc'), .val (.int pd), .val (.int fl), .val (.int ln1), .val (.int ln2), .val (.int cpy), .val (.int (((fl.toUInt32 >>> ((5 : Int32) &&& 31).toUInt32).toInt32) &&& (3 : Int32))), .val (.int x1), .val (.int y1), .val (.int x2), .val (.int y2), .val (.ref r1), .unset, .unset, .unset, .unset]) rfl k_) ?_
    refine own_ww (T' := T1) (g' := (mkF m 107 #[.val (.int pa), .val (.int pb), .val (.int pc'), .val (.int pd), .val (.int fl), .val (.int ln1), .val (.int ln2), .val (.int cpy), .val (.int (((fl.toUInt32 >>> ((5 : Int32) &&& 31).toUInt32).toInt32) &&& (3 : Int32))), .val (.int x1), .val (.int y1), .val (.int x2), .val (.int y2), .val (.ref r1), .unset, .unset, .unset, .unset] [(.int ln2)])) (fun _ k_ => XS.iload X1.here hx rfl (hb hby at_105) rfl k_) ?_
    refine own_ww (T' := T1) (g' := (mkF m 109 #[.val (.int pa), .val (.int pb), .val (.int pc'), .val (.int pd), .val (.int fl), .val (.int ln1), .val (.int ln2), .val (.int cpy), .val (.int (((fl.toUInt32 >>> ((5 : Int32) &&& 31).toUInt32).toInt32) &&& (3 : Int32))), .val (.int x1), .val (.int y1), .val (.int x2), .val (.int y2), .val (.ref r1), .unset, .unset, .unset, .unset] [(.int x2), (.int ln2)])) (fun _ k_ => XS.iload X1.here hx rfl (hb hby at_107) rfl k_) ?_
    refine own_ww (T' := T1) (g' := (mkF m 111 #[.val (.int pa), .val (.int pb), .val (.int pc'), .val (.int pd), .val (.int fl), .val (.int ln1), .val (.int ln2), .val (.int cpy), .val (.int (((fl.toUInt32 >>> ((5 : Int32) &&& 31).toUInt32).toInt32) &&& (3 : Int32))), .val (.int x1), .val (.int y1), .val (.int x2), .val (.int y2), .val (.ref r1), .unset, .unset, .unset, .unset] [(.int y2), (.int x2), (.int ln2)])) (fun _ k_ => XS.iload X1.here hx rfl (hb hby at_109) rfl k_) ?_
    obtain ⟨_, _, ⟨T2, L2, k2, n2⟩, -, X2', hs22, hg2, ⟨Lc2, hQ2, l2, y2, z2, cr2⟩, st2⟩ := callSS X1 hx (y := (⟨"com/example/marshal_trust/marshaltrust/FunctionGroupEqualsPinLaw", "make", "(ICC)Ljava/lang/String;"⟩ : MethodName)) ho1 (mvT hZ1 (hw _ (List.mem_of_getElem? (i := 0) rfl))) (mvT hZ1 (hw _ (List.mem_of_getElem? (i := 1) rfl))) (mvT hZ1 (hw _ (List.mem_of_getElem? (i := 2) rfl))) (mvT hZ1 (hw _ (List.mem_of_getElem? (i := 3) rfl))) (by decide) (backOfSH (W := 0) (own_rm1 l Z a0 hw [] ln2 x2 y2 cs h1 n0 Z1 hn2 q3.1 q3.2.1 q4.1 q4.2.1 hcs S1) hZ1 (hw _ (List.mem_of_getElem? (i := 3) rfl)) (hw _ (List.mem_of_getElem? (i := 2) rfl)) (by decide) (by decide) (own_EW hw) CS1.1) (g := (mkF m 111 #[.val (.int pa), .val (.int pb), .val (.int pc'), .val (.int pd), .val (.int fl), .val (.int ln1), .val (.int ln2), .val (.int cpy), .val (.int (((fl.toUInt32 >>> ((5 : Int32) &&& 31).toUInt32).toInt32) &&& (3 : Int32))), .val (.int x1), .val (.int y1), .val (.int x2), .val (.int y2), .val (.ref r1), .unset, .unset, .unset, .unset] [(.int y2), (.int x2), (.int ln2)])) rfl (by rw [hml]; rfl) (argsL := [(.int ln2), (.int x2), (.int y2)]) (rest := []) (lenOf own_pd7 rfl) rfl (by show 2 * 0 + _ ≤ _; exact Nat.le_of_eq rfl) (hb hby at_111) (fun _ _ => ⟨rfl, e1, (by decide : 6 + 6 ≤ _), (by decide : 12 + 12 ≤ _)⟩)
    dsimp only [Pt.U, Pt.locs, Pt.cells, Pt.slots] at X2' hs22 hg2 l2 y2 z2 st2 hQ2 cr2
    subst l2 y2 z2
    obtain ⟨X2, hS2, hZ2, ho2⟩ := rebS hS1 (by rw [e1]; exact CS1.2.1) X2' hs22 hg2 hZ1 ho1
    obtain ⟨h2, e2⟩ : ∃ h, T2.heap = h := ⟨_, rfl⟩
    rw [e2] at hQ2 hS2 cr2
    obtain ⟨r2, rfl, N2q, K2, Q2⟩ := hQ2
    have N2 := Fr.app N1 N2q
    have CB2 : CHr Z own_EL s.vm h0 T2.vm h2 := (CB1.trans CS1).trans cr2
    have CS2 : CHr Z own_EL T2.vm h2 T2.vm h2 := CHr.refl CB2.1
    have Z2 : n0 ≤ h2.size := Nat.le_trans Z1 cr2.2.1
    refine own_wt (T' := T2) (g' := (mkF m 114 #[.val (.int pa), .val (.int pb), .val (.int pc'), .val (.int pd), .val (.int fl), .val (.int ln1), .val (.int ln2), .val (.int cpy), .val (.int (((fl.toUInt32 >>> ((5 : Int32) &&& 31).toUInt32).toInt32) &&& (3 : Int32))), .val (.int x1), .val (.int y1), .val (.int x2), .val (.int y2), .val (.ref r1), .unset, .unset, .unset, .unset] [(.ref r2)])) st2 ?_
    have S2 := own_sta0 S1 K2
    have R1 := own_Str_keep Q1 K2
    have R2 := Q2
    refine own_ww (T' := T2) (g' := (mkF m 116 #[.val (.int pa), .val (.int pb), .val (.int pc'), .val (.int pd), .val (.int fl), .val (.int ln1), .val (.int ln2), .val (.int cpy), .val (.int (((fl.toUInt32 >>> ((5 : Int32) &&& 31).toUInt32).toInt32) &&& (3 : Int32))), .val (.int x1), .val (.int y1), .val (.int x2), .val (.int y2), .val (.ref r1), .val (.ref r2), .unset, .unset, .unset] [])) (fun _ k_ => XS.astore X2.here hx rfl (hb hby at_114) rfl rfl (l' := #[.val (.int pa), .val (.int pb), .val (.int pc'), .val (.int pd), .val (.int fl), .val (.int ln1), .val (.int ln2), .val (.int cpy), .val (.int (((fl.toUInt32 >>> ((5 : Int32) &&& 31).toUInt32).toInt32) &&& (3 : Int32))), .val (.int x1), .val (.int y1), .val (.int x2), .val (.int y2), .val (.ref r1), .val (.ref r2), .unset, .unset, .unset]) rfl k_) ?_
    obtain ⟨T3, h3, X3, e3, E3, A3, D3, -, st3⟩ := newO X2 hx hZ2 ho2 (hw _ (List.mem_of_getElem? (i := 26) rfl)) (hw _ (List.mem_of_getElem? (i := 27) rfl)) (hw _ (List.mem_of_getElem? (i := 28) rfl)) e2 (g := (mkF m 116 #[.val (.int pa), .val (.int pb), .val (.int pc'), .val (.int pd), .val (.int fl), .val (.int ln1), .val (.int ln2), .val (.int cpy), .val (.int (((fl.toUInt32 >>> ((5 : Int32) &&& 31).toUInt32).toInt32) &&& (3 : Int32))), .val (.int x1), .val (.int y1), .val (.int x2), .val (.int y2), .val (.ref r1), .val (.ref r2), .unset, .unset, .unset] [])) rfl (hb hby at_116) (by decide) (by decide)
    obtain ⟨b3, gq3⟩ : ∃ z, z = h2.size := ⟨_, rfl⟩
    rw [← gq3] at A3 D3 st3
    have g_b3 : n0 ≤ b3 := Nat.le_trans Z2 (Nat.le_of_eq gq3.symm)
    have Z3 : n0 ≤ h3.size := Nat.le_trans Z2 E3.1
    have CS3 : CHr Z own_EL T2.vm h2 T2.vm h3 := CS2.trans (CHr.ext E3 CS2.1)
    have sf3_b3 : Safe Z own_EL T2.vm h3 b3 := Safe.ext E3 CS2.1 (Safe.new (Nat.le_of_eq gq3.symm))
    refine own_ww (T' := T3) (g' := (mkF m 119 #[.val (.int pa), .val (.int pb), .val (.int pc'), .val (.int pd), .val (.int fl), .val (.int ln1), .val (.int ln2), .val (.int cpy), .val (.int (((fl.toUInt32 >>> ((5 : Int32) &&& 31).toUInt32).toInt32) &&& (3 : Int32))), .val (.int x1), .val (.int y1), .val (.int x2), .val (.int y2), .val (.ref r1), .val (.ref r2), .unset, .unset, .unset] [(.ref b3)])) st3 ?_
    refine own_ww (T' := T3) (g' := (mkF m 120 #[.val (.int pa), .val (.int pb), .val (.int pc'), .val (.int pd), .val (.int fl), .val (.int ln1), .val (.int ln2), .val (.int cpy), .val (.int (((fl.toUInt32 >>> ((5 : Int32) &&& 31).toUInt32).toInt32) &&& (3 : Int32))), .val (.int x1), .val (.int y1), .val (.int x2), .val (.int y2), .val (.ref r1), .val (.ref r2), .unset, .unset, .unset] [(.ref b3), (.ref b3)])) (fun _ k_ => XS.dup X3.here hx rfl (hb hby at_119) rfl rfl k_) ?_
    refine own_ww (T' := T3) (g' := (mkF m 122 #[.val (.int pa), .val (.int pb), .val (.int pc'), .val (.int pd), .val (.int fl), .val (.int ln1), .val (.int ln2), .val (.int cpy), .val (.int (((fl.toUInt32 >>> ((5 : Int32) &&& 31).toUInt32).toInt32) &&& (3 : Int32))), .val (.int x1), .val (.int y1), .val (.int x2), .val (.int y2), .val (.ref r1), .val (.ref r2), .unset, .unset, .unset] [(.ref r1), (.ref b3), (.ref b3)])) (fun _ k_ => XS.aload X3.here hx rfl (hb hby at_120) rfl rfl k_) ?_
    obtain ⟨_, _, ⟨T4, L4, k4, n4⟩, -, X4, ⟨Lc4, hQ4, l4, y4, z4⟩, st4⟩ := X3.specialBack hx (y := (⟨"com/example/marshal_trust/marshaltrust/FunctionGroup", "<init>", "(Ljava/lang/String;)V"⟩ : MethodName)) rfl ho2 (mvT hZ2 (hw _ (List.mem_of_getElem? (i := 29) rfl))) (mvT hZ2 (hw _ (List.mem_of_getElem? (i := 30) rfl))) (mvT hZ2 (hw _ (List.mem_of_getElem? (i := 31) rfl))) (by decide) (backOf (W := 1) (own_rm5 l Z a0 hw [] b3 r1 _ h3 n0 Z3 (D3 (Or.inr (hw _ (List.mem_of_getElem? (i := 34) rfl))) (ty := (.object "java/lang/String")) (by decide)) A3 g_b3) hZ2 (hw _ (List.mem_of_getElem? (i := 31) rfl)) (hw _ (List.mem_of_getElem? (i := 28) rfl)) (by decide) (by decide)) (g := (mkF m 122 #[.val (.int pa), .val (.int pb), .val (.int pc'), .val (.int pd), .val (.int fl), .val (.int ln1), .val (.int ln2), .val (.int cpy), .val (.int (((fl.toUInt32 >>> ((5 : Int32) &&& 31).toUInt32).toInt32) &&& (3 : Int32))), .val (.int x1), .val (.int y1), .val (.int x2), .val (.int y2), .val (.ref r1), .val (.ref r2), .unset, .unset, .unset] [(.ref r1), (.ref b3), (.ref b3)])) rfl (by rw [hml]; rfl) (Steps.refl _) (a := b3) (argsL := [(.ref r1)]) (rest := [(.ref b3)]) (lenOf own_pd8 rfl) rfl (by show 2 * 0 + _ ≤ _; exact Nat.le_of_eq rfl) (hb hby at_122) (fun _ _ => ⟨rfl, e3, (by decide : 13 + 0 ≤ _), (by decide : 25 + 0 ≤ _)⟩)
    dsimp only [Pt.U, Pt.locs, Pt.cells, Pt.slots] at X4 l4 y4 z4 st4 hQ4
    subst l4 y4 z4
    obtain ⟨h4, e4⟩ : ∃ h, T4.heap = h := ⟨_, rfl⟩
    rw [e4] at hQ4
    obtain ⟨rfl, N4q, K4, F4⟩ := hQ4
    have CS4 : CHr Z own_EL T2.vm h2 T2.vm h4 := CS3.trans (CHr.keep K4 (sfS sf3_b3 sf0) CS3.1)
    have sf4_b3 := Safe.keep K4 (sfS sf3_b3 sf0) CS3.1 sf3_b3
    have N4 := Fr.app N2 N4q
    refine own_wt (T' := T4) (g' := (mkF m 125 #[.val (.int pa), .val (.int pb), .val (.int pc'), .val (.int pd), .val (.int fl), .val (.int ln1), .val (.int ln2), .val (.int cpy), .val (.int (((fl.toUInt32 >>> ((5 : Int32) &&& 31).toUInt32).toInt32) &&& (3 : Int32))), .val (.int x1), .val (.int y1), .val (.int x2), .val (.int y2), .val (.ref r1), .val (.ref r2), .unset, .unset, .unset] [(.ref b3)])) st4 ?_
    have Z4 : n0 ≤ h4.size := Nat.le_trans Z3 K4.1
    have KA : Keep h2 h4 [] := ((Keep.refl _ []).ext E3).trans K4 (fun x hx => Or.inr (by rw [List.mem_singleton.mp hx]; exact Nat.le_of_eq gq3.symm))
    have TS1 := own_Str_keep R1 KA
    have TS2 := own_Str_keep R2 KA
    have S3 := own_sta0 S2 KA
    have Eg := A3.keep K4
    refine own_ww (T' := T4) (g' := (mkF m 127 #[.val (.int pa), .val (.int pb), .val (.int pc'), .val (.int pd), .val (.int fl), .val (.int ln1), .val (.int ln2), .val (.int cpy), .val (.int (((fl.toUInt32 >>> ((5 : Int32) &&& 31).toUInt32).toInt32) &&& (3 : Int32))), .val (.int x1), .val (.int y1), .val (.int x2), .val (.int y2), .val (.ref r1), .val (.ref r2), .val (.ref b3), .unset, .unset] [])) (fun _ k_ => XS.astore X4.here hx rfl (hb hby at_125) rfl rfl (l' := #[.val (.int pa), .val (.int pb), .val (.int pc'), .val (.int pd), .val (.int fl), .val (.int ln1), .val (.int ln2), .val (.int cpy), .val (.int (((fl.toUInt32 >>> ((5 : Int32) &&& 31).toUInt32).toInt32) &&& (3 : Int32))), .val (.int x1), .val (.int y1), .val (.int x2), .val (.int y2), .val (.ref r1), .val (.ref r2), .val (.ref b3), .unset, .unset]) rfl k_) ?_
    refine own_ww (T' := T4) (g' := (mkF m 129 #[.val (.int pa), .val (.int pb), .val (.int pc'), .val (.int pd), .val (.int fl), .val (.int ln1), .val (.int ln2), .val (.int cpy), .val (.int (((fl.toUInt32 >>> ((5 : Int32) &&& 31).toUInt32).toInt32) &&& (3 : Int32))), .val (.int x1), .val (.int y1), .val (.int x2), .val (.int y2), .val (.ref r1), .val (.ref r2), .val (.ref b3), .unset, .unset] [(.int (((fl.toUInt32 >>> ((5 : Int32) &&& 31).toUInt32).toInt32) &&& (3 : Int32)))])) (fun _ k_ => XS.iload X4.here hx rfl (hb hby at_127) rfl k_) ?_
    by_cases hc129 : (((fl.toUInt32 >>> ((5 : Int32) &&& 31).toUInt32).toInt32) &&& (3 : Int32)) = (0 : Int32)
    · refine own_ww (T' := T4) (g' := (mkF m 132 #[.val (.int pa), .val (.int pb), .val (.int pc'), .val (.int pd), .val (.int fl), .val (.int ln1), .val (.int ln2), .val (.int cpy), .val (.int (((fl.toUInt32 >>> ((5 : Int32) &&& 31).toUInt32).toInt32) &&& (3 : Int32))), .val (.int x1), .val (.int y1), .val (.int x2), .val (.int y2), .val (.ref r1), .val (.ref r2), .val (.ref b3), .unset, .unset] [])) (fun _ k_ => XS.ifNo X4.here hx rfl (hb hby at_129) rfl ((if0 _ _).trans (teq hc129).2) k_) ?_
      obtain ⟨T5, h5, X5, e5, E5, A5, D5, -, st5⟩ := newO X4 hx hZ2 ho2 (hw _ (List.mem_of_getElem? (i := 26) rfl)) (hw _ (List.mem_of_getElem? (i := 27) rfl)) (hw _ (List.mem_of_getElem? (i := 28) rfl)) e4 (g := (mkF m 132 #[.val (.int pa), .val (.int pb), .val (.int pc'), .val (.int pd), .val (.int fl), .val (.int ln1), .val (.int ln2), .val (.int cpy), .val (.int (((fl.toUInt32 >>> ((5 : Int32) &&& 31).toUInt32).toInt32) &&& (3 : Int32))), .val (.int x1), .val (.int y1), .val (.int x2), .val (.int y2), .val (.ref r1), .val (.ref r2), .val (.ref b3), .unset, .unset] [])) rfl (hb hby at_132) (by decide) (by decide)
      obtain ⟨b5, gq5⟩ : ∃ z, z = h4.size := ⟨_, rfl⟩
      rw [← gq5] at A5 D5 st5
      have g_b5 : n0 ≤ b5 := Nat.le_trans Z4 (Nat.le_of_eq gq5.symm)
      have Z5 : n0 ≤ h5.size := Nat.le_trans Z4 E5.1
      have CS5 : CHr Z own_EL T2.vm h2 T2.vm h5 := CS4.trans (CHr.ext E5 CS4.1)
      have sf5_b3 := Safe.ext E5 CS4.1 sf4_b3
      have sf5_b5 : Safe Z own_EL T2.vm h5 b5 := Safe.ext E5 CS4.1 (Safe.new (Nat.le_of_eq gq5.symm))
      refine own_ww (T' := T5) (g' := (mkF m 135 #[.val (.int pa), .val (.int pb), .val (.int pc'), .val (.int pd), .val (.int fl), .val (.int ln1), .val (.int ln2), .val (.int cpy), .val (.int (((fl.toUInt32 >>> ((5 : Int32) &&& 31).toUInt32).toInt32) &&& (3 : Int32))), .val (.int x1), .val (.int y1), .val (.int x2), .val (.int y2), .val (.ref r1), .val (.ref r2), .val (.ref b3), .unset, .unset] [(.ref b5)])) st5 ?_
      refine own_ww (T' := T5) (g' := (mkF m 136 #[.val (.int pa), .val (.int pb), .val (.int pc'), .val (.int pd), .val (.int fl), .val (.int ln1), .val (.int ln2), .val (.int cpy), .val (.int (((fl.toUInt32 >>> ((5 : Int32) &&& 31).toUInt32).toInt32) &&& (3 : Int32))), .val (.int x1), .val (.int y1), .val (.int x2), .val (.int y2), .val (.ref r1), .val (.ref r2), .val (.ref b3), .unset, .unset] [(.ref b5), (.ref b5)])) (fun _ k_ => XS.dup X5.here hx rfl (hb hby at_135) rfl rfl k_) ?_
      refine own_ww (T' := T5) (g' := (mkF m 138 #[.val (.int pa), .val (.int pb), .val (.int pc'), .val (.int pd), .val (.int fl), .val (.int ln1), .val (.int ln2), .val (.int cpy), .val (.int (((fl.toUInt32 >>> ((5 : Int32) &&& 31).toUInt32).toInt32) &&& (3 : Int32))), .val (.int x1), .val (.int y1), .val (.int x2), .val (.int y2), .val (.ref r1), .val (.ref r2), .val (.ref b3), .unset, .unset] [(.ref r2), (.ref b5), (.ref b5)])) (fun _ k_ => XS.aload X5.here hx rfl (hb hby at_136) rfl rfl k_) ?_
      obtain ⟨_, _, ⟨T6, L6, k6, n6⟩, -, X6, ⟨Lc6, hQ6, l6, y6, z6⟩, st6⟩ := X5.specialBack hx (y := (⟨"com/example/marshal_trust/marshaltrust/FunctionGroup", "<init>", "(Ljava/lang/String;)V"⟩ : MethodName)) rfl ho2 (mvT hZ2 (hw _ (List.mem_of_getElem? (i := 29) rfl))) (mvT hZ2 (hw _ (List.mem_of_getElem? (i := 30) rfl))) (mvT hZ2 (hw _ (List.mem_of_getElem? (i := 31) rfl))) (by decide) (backOf (W := 1) (own_rm5 l Z a0 hw [] b5 r2 _ h5 n0 Z5 (D5 (Or.inr (hw _ (List.mem_of_getElem? (i := 34) rfl))) (ty := (.object "java/lang/String")) (by decide)) A5 g_b5) hZ2 (hw _ (List.mem_of_getElem? (i := 31) rfl)) (hw _ (List.mem_of_getElem? (i := 28) rfl)) (by decide) (by decide)) (g := (mkF m 138 #[.val (.int pa), .val (.int pb), .val (.int pc'), .val (.int pd), .val (.int fl), .val (.int ln1), .val (.int ln2), .val (.int cpy), .val (.int (((fl.toUInt32 >>> ((5 : Int32) &&& 31).toUInt32).toInt32) &&& (3 : Int32))), .val (.int x1), .val (.int y1), .val (.int x2), .val (.int y2), .val (.ref r1), .val (.ref r2), .val (.ref b3), .unset, .unset] [(.ref r2), (.ref b5), (.ref b5)])) rfl (by rw [hml]; rfl) (Steps.refl _) (a := b5) (argsL := [(.ref r2)]) (rest := [(.ref b5)]) (lenOf own_pd8 rfl) rfl (by show 2 * 0 + _ ≤ _; exact Nat.le_of_eq rfl) (hb hby at_138) (fun _ _ => ⟨rfl, e5, (by decide : 14 + 0 ≤ _), (by decide : 26 + 0 ≤ _)⟩)
      dsimp only [Pt.U, Pt.locs, Pt.cells, Pt.slots] at X6 l6 y6 z6 st6 hQ6
      subst l6 y6 z6
      obtain ⟨h6, e6⟩ : ∃ h, T6.heap = h := ⟨_, rfl⟩
      rw [e6] at hQ6
      obtain ⟨rfl, N6q, K6, F6⟩ := hQ6
      have CS6 : CHr Z own_EL T2.vm h2 T2.vm h6 := CS5.trans (CHr.keep K6 (sfS sf5_b5 sf0) CS5.1)
      have sf6_b3 := Safe.keep K6 (sfS sf5_b5 sf0) CS5.1 sf5_b3
      have sf6_b5 := Safe.keep K6 (sfS sf5_b5 sf0) CS5.1 sf5_b5
      have N6 := Fr.app N4 N6q
      refine own_wt (T' := T6) (g' := (mkF m 141 #[.val (.int pa), .val (.int pb), .val (.int pc'), .val (.int pd), .val (.int fl), .val (.int ln1), .val (.int ln2), .val (.int cpy), .val (.int (((fl.toUInt32 >>> ((5 : Int32) &&& 31).toUInt32).toInt32) &&& (3 : Int32))), .val (.int x1), .val (.int y1), .val (.int x2), .val (.int y2), .val (.ref r1), .val (.ref r2), .val (.ref b3), .unset, .unset] [(.ref b5)])) st6 ?_
      have Z6 : n0 ≤ h6.size := Nat.le_trans Z5 K6.1
      have KB : Keep h4 h6 [] := ((Keep.refl _ []).ext E5).trans K6 (fun x hx => Or.inr (by rw [List.mem_singleton.mp hx]; exact Nat.le_of_eq gq5.symm))
      have U1 := own_Str_keep TS1 KB
      have U2 := own_Str_keep TS2 KB
      have S4 := own_sta0 S3 KB
      have Eg2 := A5.keep K6
      have Fg1 := F4.keep KB (by simp)
      have Eg1 := Eg.keep KB
      have hme := own_mkeq hn1 hn2 (own_bj q1.1 q3.1 q1.2.2 q3.2.2) (own_bj q2.1 q4.1 q2.2.2 q4.2.2)
      refine own_ww (T' := T6) (g' := (mkF m 143 #[.val (.int pa), .val (.int pb), .val (.int pc'), .val (.int pd), .val (.int fl), .val (.int ln1), .val (.int ln2), .val (.int cpy), .val (.int (((fl.toUInt32 >>> ((5 : Int32) &&& 31).toUInt32).toInt32) &&& (3 : Int32))), .val (.int x1), .val (.int y1), .val (.int x2), .val (.int y2), .val (.ref r1), .val (.ref r2), .val (.ref b3), .val (.ref b5), .unset] [])) (fun _ k_ => XS.astore X6.here hx rfl (hb hby at_141) rfl rfl (l' := #[.val (.int pa), .val (.int pb), .val (.int pc'), .val (.int pd), .val (.int fl), .val (.int ln1), .val (.int ln2), .val (.int cpy), .val (.int (((fl.toUInt32 >>> ((5 : Int32) &&& 31).toUInt32).toInt32) &&& (3 : Int32))), .val (.int x1), .val (.int y1), .val (.int x2), .val (.int y2), .val (.ref r1), .val (.ref r2), .val (.ref b3), .val (.ref b5), .unset]) rfl k_) ?_
      refine own_ww (T' := T6) (g' := (mkF m 145 #[.val (.int pa), .val (.int pb), .val (.int pc'), .val (.int pd), .val (.int fl), .val (.int ln1), .val (.int ln2), .val (.int cpy), .val (.int (((fl.toUInt32 >>> ((5 : Int32) &&& 31).toUInt32).toInt32) &&& (3 : Int32))), .val (.int x1), .val (.int y1), .val (.int x2), .val (.int y2), .val (.ref r1), .val (.ref r2), .val (.ref b3), .val (.ref b5), .unset] [(.int ln1)])) (fun _ k_ => XS.iload X6.here hx rfl (hb hby at_143) rfl k_) ?_
      refine own_ww (T' := T6) (g' := (mkF m 147 #[.val (.int pa), .val (.int pb), .val (.int pc'), .val (.int pd), .val (.int fl), .val (.int ln1), .val (.int ln2), .val (.int cpy), .val (.int (((fl.toUInt32 >>> ((5 : Int32) &&& 31).toUInt32).toInt32) &&& (3 : Int32))), .val (.int x1), .val (.int y1), .val (.int x2), .val (.int y2), .val (.ref r1), .val (.ref r2), .val (.ref b3), .val (.ref b5), .unset] [(.int ln2), (.int ln1)])) (fun _ k_ => XS.iload X6.here hx rfl (hb hby at_145) rfl k_) ?_
      by_cases hc147 : ln1 = ln2
      · refine own_ww (T' := T6) (g' := (mkF m 150 #[.val (.int pa), .val (.int pb), .val (.int pc'), .val (.int pd), .val (.int fl), .val (.int ln1), .val (.int ln2), .val (.int cpy), .val (.int (((fl.toUInt32 >>> ((5 : Int32) &&& 31).toUInt32).toInt32) &&& (3 : Int32))), .val (.int x1), .val (.int y1), .val (.int x2), .val (.int y2), .val (.ref r1), .val (.ref r2), .val (.ref b3), .val (.ref b5), .unset] [])) (fun _ k_ => XS.icmpNo X6.here hx rfl (hb hby at_147) rfl (teq hc147).2 k_) ?_
        refine own_ww (T' := T6) (g' := (mkF m 152 #[.val (.int pa), .val (.int pb), .val (.int pc'), .val (.int pd), .val (.int fl), .val (.int ln1), .val (.int ln2), .val (.int cpy), .val (.int (((fl.toUInt32 >>> ((5 : Int32) &&& 31).toUInt32).toInt32) &&& (3 : Int32))), .val (.int x1), .val (.int y1), .val (.int x2), .val (.int y2), .val (.ref r1), .val (.ref r2), .val (.ref b3), .val (.ref b5), .unset] [(.int ln1)])) (fun _ k_ => XS.iload X6.here hx rfl (hb hby at_150) rfl k_) ?_
        refine own_ww (T' := T6) (g' := (mkF m 153 #[.val (.int pa), .val (.int pb), .val (.int pc'), .val (.int pd), .val (.int fl), .val (.int ln1), .val (.int ln2), .val (.int cpy), .val (.int (((fl.toUInt32 >>> ((5 : Int32) &&& 31).toUInt32).toInt32) &&& (3 : Int32))), .val (.int x1), .val (.int y1), .val (.int x2), .val (.int y2), .val (.ref r1), .val (.ref r2), .val (.ref b3), .val (.ref b5), .unset] [(.int (1 : Int32)), (.int ln1)])) (fun _ k_ => XS.iconst X6.here hx rfl (hb hby at_152) k_) ?_
        by_cases hc153 : ln1 < (1 : Int32)
        · refine own_ww (T' := T6) (g' := (mkF m 163 #[.val (.int pa), .val (.int pb), .val (.int pc'), .val (.int pd), .val (.int fl), .val (.int ln1), .val (.int ln2), .val (.int cpy), .val (.int (((fl.toUInt32 >>> ((5 : Int32) &&& 31).toUInt32).toInt32) &&& (3 : Int32))), .val (.int x1), .val (.int y1), .val (.int x2), .val (.int y2), .val (.ref r1), .val (.ref r2), .val (.ref b3), .val (.ref b5), .unset] [])) (fun _ k_ => XS.icmpYes X6.here hx rfl (pc0 := 153) (pc' := 163) rfl (hb hby at_153) rfl (tlt hc153).1 (by decide) (by decide) k_) ?_
          refine own_ww (T' := T6) (g' := (mkF m 165 #[.val (.int pa), .val (.int pb), .val (.int pc'), .val (.int pd), .val (.int fl), .val (.int ln1), .val (.int ln2), .val (.int cpy), .val (.int (((fl.toUInt32 >>> ((5 : Int32) &&& 31).toUInt32).toInt32) &&& (3 : Int32))), .val (.int x1), .val (.int y1), .val (.int x2), .val (.int y2), .val (.ref r1), .val (.ref r2), .val (.ref b3), .val (.ref b5), .unset] [(.int ln1)])) (fun _ k_ => XS.iload X6.here hx rfl (hb hby at_163) rfl k_) ?_
          refine own_ww (T' := T6) (g' := (mkF m 166 #[.val (.int pa), .val (.int pb), .val (.int pc'), .val (.int pd), .val (.int fl), .val (.int ln1), .val (.int ln2), .val (.int cpy), .val (.int (((fl.toUInt32 >>> ((5 : Int32) &&& 31).toUInt32).toInt32) &&& (3 : Int32))), .val (.int x1), .val (.int y1), .val (.int x2), .val (.int y2), .val (.ref r1), .val (.ref r2), .val (.ref b3), .val (.ref b5), .unset] [(.int (2 : Int32)), (.int ln1)])) (fun _ k_ => XS.iconst X6.here hx rfl (hb hby at_165) k_) ?_
          by_cases hc166 : ln1 < (2 : Int32)
          · refine own_ww (T' := T6) (g' := (mkF m 176 #[.val (.int pa), .val (.int pb), .val (.int pc'), .val (.int pd), .val (.int fl), .val (.int ln1), .val (.int ln2), .val (.int cpy), .val (.int (((fl.toUInt32 >>> ((5 : Int32) &&& 31).toUInt32).toInt32) &&& (3 : Int32))), .val (.int x1), .val (.int y1), .val (.int x2), .val (.int y2), .val (.ref r1), .val (.ref r2), .val (.ref b3), .val (.ref b5), .unset] [])) (fun _ k_ => XS.icmpYes X6.here hx rfl (pc0 := 166) (pc' := 176) rfl (hb hby at_166) rfl (tlt hc166).1 (by decide) (by decide) k_) ?_
            refine own_ww (T' := T6) (g' := (mkF m 177 #[.val (.int pa), .val (.int pb), .val (.int pc'), .val (.int pd), .val (.int fl), .val (.int ln1), .val (.int ln2), .val (.int cpy), .val (.int (((fl.toUInt32 >>> ((5 : Int32) &&& 31).toUInt32).toInt32) &&& (3 : Int32))), .val (.int x1), .val (.int y1), .val (.int x2), .val (.int y2), .val (.ref r1), .val (.ref r2), .val (.ref b3), .val (.ref b5), .unset] [(.int (1 : Int32))])) (fun _ k_ => XS.iconst X6.here hx rfl (hb hby at_176) k_) ?_
            refine own_ww (T' := T6) (g' := (mkF m 181 #[.val (.int pa), .val (.int pb), .val (.int pc'), .val (.int pd), .val (.int fl), .val (.int ln1), .val (.int ln2), .val (.int cpy), .val (.int (((fl.toUInt32 >>> ((5 : Int32) &&& 31).toUInt32).toInt32) &&& (3 : Int32))), .val (.int x1), .val (.int y1), .val (.int x2), .val (.int y2), .val (.ref r1), .val (.ref r2), .val (.ref b3), .val (.ref b5), .unset] [(.int (1 : Int32))])) (fun _ k_ => XS.goto X6.here hx rfl (pc0 := 177) (pc' := 181) rfl (hb hby at_177) (by decide) (by decide) k_) ?_
            refine own_ww (T' := T6) (g' := (mkF m 183 #[.val (.int pa), .val (.int pb), .val (.int pc'), .val (.int pd), .val (.int fl), .val (.int ln1), .val (.int ln2), .val (.int cpy), .val (.int (((fl.toUInt32 >>> ((5 : Int32) &&& 31).toUInt32).toInt32) &&& (3 : Int32))), .val (.int x1), .val (.int y1), .val (.int x2), .val (.int y2), .val (.ref r1), .val (.ref r2), .val (.ref b3), .val (.ref b5), .val (.int (1 : Int32))] [])) (fun _ k_ => XS.istore X6.here hx rfl (hb hby at_181) rfl (l' := #[.val (.int pa), .val (.int pb), .val (.int pc'), .val (.int pd), .val (.int fl), .val (.int ln1), .val (.int ln2), .val (.int cpy), .val (.int (((fl.toUInt32 >>> ((5 : Int32) &&& 31).toUInt32).toInt32) &&& (3 : Int32))), .val (.int x1), .val (.int y1), .val (.int x2), .val (.int y2), .val (.ref r1), .val (.ref r2), .val (.ref b3), .val (.ref b5), .val (.int (1 : Int32))]) rfl k_) ?_
            refine own_ww (T' := T6) (g' := (mkF m 224 #[.val (.int pa), .val (.int pb), .val (.int pc'), .val (.int pd), .val (.int fl), .val (.int ln1), .val (.int ln2), .val (.int cpy), .val (.int (((fl.toUInt32 >>> ((5 : Int32) &&& 31).toUInt32).toInt32) &&& (3 : Int32))), .val (.int x1), .val (.int y1), .val (.int x2), .val (.int y2), .val (.ref r1), .val (.ref r2), .val (.ref b3), .val (.ref b5), .val (.int (1 : Int32))] [])) (fun _ k_ => XS.goto X6.here hx rfl (pc0 := 183) (pc' := 224) rfl (hb hby at_183) (by decide) (by decide) k_) ?_
            refine own_ww (T' := T6) (g' := (mkF m 226 #[.val (.int pa), .val (.int pb), .val (.int pc'), .val (.int pd), .val (.int fl), .val (.int ln1), .val (.int ln2), .val (.int cpy), .val (.int (((fl.toUInt32 >>> ((5 : Int32) &&& 31).toUInt32).toInt32) &&& (3 : Int32))), .val (.int x1), .val (.int y1), .val (.int x2), .val (.int y2), .val (.ref r1), .val (.ref r2), .val (.ref b3), .val (.ref b5), .val (.int (1 : Int32))] [(.ref b3)])) (fun _ k_ => XS.aload X6.here hx rfl (hb hby at_224) rfl rfl k_) ?_
            refine own_ww (T' := T6) (g' := (mkF m 228 #[.val (.int pa), .val (.int pb), .val (.int pc'), .val (.int pd), .val (.int fl), .val (.int ln1), .val (.int ln2), .val (.int cpy), .val (.int (((fl.toUInt32 >>> ((5 : Int32) &&& 31).toUInt32).toInt32) &&& (3 : Int32))), .val (.int x1), .val (.int y1), .val (.int x2), .val (.int y2), .val (.ref r1), .val (.ref r2), .val (.ref b3), .val (.ref b5), .val (.int (1 : Int32))] [(.ref b5), (.ref b3)])) (fun _ k_ => XS.aload X6.here hx rfl (hb hby at_226) rfl rfl k_) ?_
            obtain ⟨cq7, kq7, q7a, q7b, q7c⟩ := isOf hZ2 e6 Eg1
            obtain ⟨_, _, ⟨T7, L7, k7, n7⟩, -, X7, ⟨Lc7, hQ7, l7, y7, z7⟩, st7⟩ := X6.virtualBack hx (y := (⟨"com/example/marshal_trust/marshaltrust/FunctionGroup", "equals", "(Ljava/lang/Object;)Z"⟩ : MethodName)) (z := (⟨"com/example/marshal_trust/marshaltrust/FunctionGroup", "equals", "(Ljava/lang/Object;)Z"⟩ : MethodName)) ho2 (mvT hZ2 (hw _ (List.mem_of_getElem? (i := 35) rfl))) (mvT hZ2 (hw _ (List.mem_of_getElem? (i := 36) rfl))) (notFace_of_selects (args := #[]) (mvT hZ2 (hw _ (List.mem_of_getElem? (i := 38) rfl)))) (mvT hZ2 (hw _ (List.mem_of_getElem? (i := 38) rfl))) (mvT hZ2 (hw _ (List.mem_of_getElem? (i := 37) rfl))) (by decide) (backOf (W := 0) (own_rm6_g l Z a0 hw [] b3 b5 r1 r2 _ _ cs h6 n0 Z6 Fg1 F6 Eg2 U1 U2 (own_mklen _ _ _) (own_mklen _ _ _) hcs S4) hZ2 (hw _ (List.mem_of_getElem? (i := 39) rfl)) (hw _ (List.mem_of_getElem? (i := 28) rfl)) (by decide) (by decide)) q7a q7c (g := (mkF m 228 #[.val (.int pa), .val (.int pb), .val (.int pc'), .val (.int pd), .val (.int fl), .val (.int ln1), .val (.int ln2), .val (.int cpy), .val (.int (((fl.toUInt32 >>> ((5 : Int32) &&& 31).toUInt32).toInt32) &&& (3 : Int32))), .val (.int x1), .val (.int y1), .val (.int x2), .val (.int y2), .val (.ref r1), .val (.ref r2), .val (.ref b3), .val (.ref b5), .val (.int (1 : Int32))] [(.ref b5), (.ref b3)])) rfl (by rw [hml]; rfl) (Steps.refl _) (argsL := [(.ref b5)]) (rest := []) (lenOf own_pd6 rfl) rfl (by show 2 * 0 + _ ≤ _; exact Nat.le_of_eq rfl) (hb hby at_228) (fun _ _ => ⟨rfl, e6, (by decide : 14 + 0 ≤ _), (by decide : 26 + 0 ≤ _)⟩)
            dsimp only [Pt.U, Pt.locs, Pt.cells, Pt.slots] at X7 l7 y7 z7 st7 hQ7
            subst l7 y7 z7
            obtain ⟨rfl, N7q, e7⟩ := hQ7
            have N7 := Fr.app N6 N7q
            refine own_wt (T' := T7) (g' := (mkF m 231 #[.val (.int pa), .val (.int pb), .val (.int pc'), .val (.int pd), .val (.int fl), .val (.int ln1), .val (.int ln2), .val (.int cpy), .val (.int (((fl.toUInt32 >>> ((5 : Int32) &&& 31).toUInt32).toInt32) &&& (3 : Int32))), .val (.int x1), .val (.int y1), .val (.int x2), .val (.int y2), .val (.ref r1), .val (.ref r2), .val (.ref b3), .val (.ref b5), .val (.int (1 : Int32))] [(.int (if (own_mk ln2 x2 y2 = own_mk ln1 x1 y1) then (1 : Int32) else 0))])) st7 ?_
            refine own_ww (T' := T7) (g' := (mkF m 233 #[.val (.int pa), .val (.int pb), .val (.int pc'), .val (.int pd), .val (.int fl), .val (.int ln1), .val (.int ln2), .val (.int cpy), .val (.int (((fl.toUInt32 >>> ((5 : Int32) &&& 31).toUInt32).toInt32) &&& (3 : Int32))), .val (.int x1), .val (.int y1), .val (.int x2), .val (.int y2), .val (.ref r1), .val (.ref r2), .val (.ref b3), .val (.ref b5), .val (.int (1 : Int32))] [(.int (1 : Int32)), (.int (if (own_mk ln2 x2 y2 = own_mk ln1 x1 y1) then (1 : Int32) else 0))])) (fun _ k_ => XS.iload X7.here hx rfl (hb hby at_231) rfl k_) ?_
            refine own_ww (T' := T7) (g' := (mkF m 236 #[.val (.int pa), .val (.int pb), .val (.int pc'), .val (.int pd), .val (.int fl), .val (.int ln1), .val (.int ln2), .val (.int cpy), .val (.int (((fl.toUInt32 >>> ((5 : Int32) &&& 31).toUInt32).toInt32) &&& (3 : Int32))), .val (.int x1), .val (.int y1), .val (.int x2), .val (.int y2), .val (.ref r1), .val (.ref r2), .val (.ref b3), .val (.ref b5), .val (.int (1 : Int32))] [])) (fun _ k_ => XS.icmpNo X7.here hx rfl (hb hby at_233) rfl (teq (if_pos (hme.mpr (show (ln1 = ln2 ∧ (ln1 < (1 : Int32) ∨ x1 = x2) ∧ (ln1 < (2 : Int32) ∨ y1 = y2)) from ⟨hc147, (Or.inl hc153), (Or.inl hc166)⟩)))).2 k_) ?_
            refine own_ww (T' := T7) (g' := (mkF m 237 #[.val (.int pa), .val (.int pb), .val (.int pc'), .val (.int pd), .val (.int fl), .val (.int ln1), .val (.int ln2), .val (.int cpy), .val (.int (((fl.toUInt32 >>> ((5 : Int32) &&& 31).toUInt32).toInt32) &&& (3 : Int32))), .val (.int x1), .val (.int y1), .val (.int x2), .val (.int y2), .val (.ref r1), .val (.ref r2), .val (.ref b3), .val (.ref b5), .val (.int (1 : Int32))] [(.int (1 : Int32))])) (fun _ k_ => XS.iconst X7.here hx rfl (hb hby at_236) k_) ?_
            refine own_ww (T' := T7) (g' := (mkF m 241 #[.val (.int pa), .val (.int pb), .val (.int pc'), .val (.int pd), .val (.int fl), .val (.int ln1), .val (.int ln2), .val (.int cpy), .val (.int (((fl.toUInt32 >>> ((5 : Int32) &&& 31).toUInt32).toInt32) &&& (3 : Int32))), .val (.int x1), .val (.int y1), .val (.int x2), .val (.int y2), .val (.ref r1), .val (.ref r2), .val (.ref b3), .val (.ref b5), .val (.int (1 : Int32))] [(.int (1 : Int32))])) (fun _ k_ => XS.goto X7.here hx rfl (pc0 := 237) (pc' := 241) rfl (hb hby at_237) (by decide) (by decide) k_) ?_
            obtain ⟨fs, hr, hrun, hended, hRE⟩ := X7.leaveW (own_since hS2 CS6.2.1) (by rw [e7]; exact Nat.le_refl _) (v := some (.int (1 : Int32))) (fun h => by rw [Bd.returns] at h; cases h)
            exact ⟨_, _, retOut X7 hx Bd.returns rfl (Or.inl ⟨rfl, Or.inr (Or.inl rfl), _, rfl⟩) (hb hby at_241) hr, hrun, hended, _, _, rfl, (by show own_Q0 Z pa pb pc' pd fl cs h0 n0 _ T7.heap _; rw [e7]; exact ⟨rfl, N7⟩), (by show CHr Z own_EL s.vm s.heap T7.vm T7.heap; rw [e7, hh]; exact (CB2.trans CS6).trans (CHv.at X7 hZ2 (own_EW hw) CS6.1)), own_rmono hRE (by decide) (by decide)⟩
          · refine own_ww (T' := T6) (g' := (mkF m 169 #[.val (.int pa), .val (.int pb), .val (.int pc'), .val (.int pd), .val (.int fl), .val (.int ln1), .val (.int ln2), .val (.int cpy), .val (.int (((fl.toUInt32 >>> ((5 : Int32) &&& 31).toUInt32).toInt32) &&& (3 : Int32))), .val (.int x1), .val (.int y1), .val (.int x2), .val (.int y2), .val (.ref r1), .val (.ref r2), .val (.ref b3), .val (.ref b5), .unset] [])) (fun _ k_ => XS.icmpNo X6.here hx rfl (hb hby at_166) rfl (flt hc166).1 k_) ?_
            refine own_ww (T' := T6) (g' := (mkF m 171 #[.val (.int pa), .val (.int pb), .val (.int pc'), .val (.int pd), .val (.int fl), .val (.int ln1), .val (.int ln2), .val (.int cpy), .val (.int (((fl.toUInt32 >>> ((5 : Int32) &&& 31).toUInt32).toInt32) &&& (3 : Int32))), .val (.int x1), .val (.int y1), .val (.int x2), .val (.int y2), .val (.ref r1), .val (.ref r2), .val (.ref b3), .val (.ref b5), .unset] [(.int y1)])) (fun _ k_ => XS.iload X6.here hx rfl (hb hby at_169) rfl k_) ?_
            refine own_ww (T' := T6) (g' := (mkF m 173 #[.val (.int pa), .val (.int pb), .val (.int pc'), .val (.int pd), .val (.int fl), .val (.int ln1), .val (.int ln2), .val (.int cpy), .val (.int (((fl.toUInt32 >>> ((5 : Int32) &&& 31).toUInt32).toInt32) &&& (3 : Int32))), .val (.int x1), .val (.int y1), .val (.int x2), .val (.int y2), .val (.ref r1), .val (.ref r2), .val (.ref b3), .val (.ref b5), .unset] [(.int y2), (.int y1)])) (fun _ k_ => XS.iload X6.here hx rfl (hb hby at_171) rfl k_) ?_
            by_cases hc173 : y1 = y2
            · refine own_ww (T' := T6) (g' := (mkF m 176 #[.val (.int pa), .val (.int pb), .val (.int pc'), .val (.int pd), .val (.int fl), .val (.int ln1), .val (.int ln2), .val (.int cpy), .val (.int (((fl.toUInt32 >>> ((5 : Int32) &&& 31).toUInt32).toInt32) &&& (3 : Int32))), .val (.int x1), .val (.int y1), .val (.int x2), .val (.int y2), .val (.ref r1), .val (.ref r2), .val (.ref b3), .val (.ref b5), .unset] [])) (fun _ k_ => XS.icmpNo X6.here hx rfl (hb hby at_173) rfl (teq hc173).2 k_) ?_
              refine own_ww (T' := T6) (g' := (mkF m 177 #[.val (.int pa), .val (.int pb), .val (.int pc'), .val (.int pd), .val (.int fl), .val (.int ln1), .val (.int ln2), .val (.int cpy), .val (.int (((fl.toUInt32 >>> ((5 : Int32) &&& 31).toUInt32).toInt32) &&& (3 : Int32))), .val (.int x1), .val (.int y1), .val (.int x2), .val (.int y2), .val (.ref r1), .val (.ref r2), .val (.ref b3), .val (.ref b5), .unset] [(.int (1 : Int32))])) (fun _ k_ => XS.iconst X6.here hx rfl (hb hby at_176) k_) ?_
              refine own_ww (T' := T6) (g' := (mkF m 181 #[.val (.int pa), .val (.int pb), .val (.int pc'), .val (.int pd), .val (.int fl), .val (.int ln1), .val (.int ln2), .val (.int cpy), .val (.int (((fl.toUInt32 >>> ((5 : Int32) &&& 31).toUInt32).toInt32) &&& (3 : Int32))), .val (.int x1), .val (.int y1), .val (.int x2), .val (.int y2), .val (.ref r1), .val (.ref r2), .val (.ref b3), .val (.ref b5), .unset] [(.int (1 : Int32))])) (fun _ k_ => XS.goto X6.here hx rfl (pc0 := 177) (pc' := 181) rfl (hb hby at_177) (by decide) (by decide) k_) ?_
              refine own_ww (T' := T6) (g' := (mkF m 183 #[.val (.int pa), .val (.int pb), .val (.int pc'), .val (.int pd), .val (.int fl), .val (.int ln1), .val (.int ln2), .val (.int cpy), .val (.int (((fl.toUInt32 >>> ((5 : Int32) &&& 31).toUInt32).toInt32) &&& (3 : Int32))), .val (.int x1), .val (.int y1), .val (.int x2), .val (.int y2), .val (.ref r1), .val (.ref r2), .val (.ref b3), .val (.ref b5), .val (.int (1 : Int32))] [])) (fun _ k_ => XS.istore X6.here hx rfl (hb hby at_181) rfl (l' := #[.val (.int pa), .val (.int pb), .val (.int pc'), .val (.int pd), .val (.int fl), .val (.int ln1), .val (.int ln2), .val (.int cpy), .val (.int (((fl.toUInt32 >>> ((5 : Int32) &&& 31).toUInt32).toInt32) &&& (3 : Int32))), .val (.int x1), .val (.int y1), .val (.int x2), .val (.int y2), .val (.ref r1), .val (.ref r2), .val (.ref b3), .val (.ref b5), .val (.int (1 : Int32))]) rfl k_) ?_
              refine own_ww (T' := T6) (g' := (mkF m 224 #[.val (.int pa), .val (.int pb), .val (.int pc'), .val (.int pd), .val (.int fl), .val (.int ln1), .val (.int ln2), .val (.int cpy), .val (.int (((fl.toUInt32 >>> ((5 : Int32) &&& 31).toUInt32).toInt32) &&& (3 : Int32))), .val (.int x1), .val (.int y1), .val (.int x2), .val (.int y2), .val (.ref r1), .val (.ref r2), .val (.ref b3), .val (.ref b5), .val (.int (1 : Int32))] [])) (fun _ k_ => XS.goto X6.here hx rfl (pc0 := 183) (pc' := 224) rfl (hb hby at_183) (by decide) (by decide) k_) ?_
              refine own_ww (T' := T6) (g' := (mkF m 226 #[.val (.int pa), .val (.int pb), .val (.int pc'), .val (.int pd), .val (.int fl), .val (.int ln1), .val (.int ln2), .val (.int cpy), .val (.int (((fl.toUInt32 >>> ((5 : Int32) &&& 31).toUInt32).toInt32) &&& (3 : Int32))), .val (.int x1), .val (.int y1), .val (.int x2), .val (.int y2), .val (.ref r1), .val (.ref r2), .val (.ref b3), .val (.ref b5), .val (.int (1 : Int32))] [(.ref b3)])) (fun _ k_ => XS.aload X6.here hx rfl (hb hby at_224) rfl rfl k_) ?_
              refine own_ww (T' := T6) (g' := (mkF m 228 #[.val (.int pa), .val (.int pb), .val (.int pc'), .val (.int pd), .val (.int fl), .val (.int ln1), .val (.int ln2), .val (.int cpy), .val (.int (((fl.toUInt32 >>> ((5 : Int32) &&& 31).toUInt32).toInt32) &&& (3 : Int32))), .val (.int x1), .val (.int y1), .val (.int x2), .val (.int y2), .val (.ref r1), .val (.ref r2), .val (.ref b3), .val (.ref b5), .val (.int (1 : Int32))] [(.ref b5), (.ref b3)])) (fun _ k_ => XS.aload X6.here hx rfl (hb hby at_226) rfl rfl k_) ?_
              obtain ⟨cq8, kq8, q8a, q8b, q8c⟩ := isOf hZ2 e6 Eg1
              obtain ⟨_, _, ⟨T8, L8, k8, n8⟩, -, X8, ⟨Lc8, hQ8, l8, y8, z8⟩, st8⟩ := X6.virtualBack hx (y := (⟨"com/example/marshal_trust/marshaltrust/FunctionGroup", "equals", "(Ljava/lang/Object;)Z"⟩ : MethodName)) (z := (⟨"com/example/marshal_trust/marshaltrust/FunctionGroup", "equals", "(Ljava/lang/Object;)Z"⟩ : MethodName)) ho2 (mvT hZ2 (hw _ (List.mem_of_getElem? (i := 35) rfl))) (mvT hZ2 (hw _ (List.mem_of_getElem? (i := 36) rfl))) (notFace_of_selects (args := #[]) (mvT hZ2 (hw _ (List.mem_of_getElem? (i := 38) rfl)))) (mvT hZ2 (hw _ (List.mem_of_getElem? (i := 38) rfl))) (mvT hZ2 (hw _ (List.mem_of_getElem? (i := 37) rfl))) (by decide) (backOf (W := 0) (own_rm6_g l Z a0 hw [] b3 b5 r1 r2 _ _ cs h6 n0 Z6 Fg1 F6 Eg2 U1 U2 (own_mklen _ _ _) (own_mklen _ _ _) hcs S4) hZ2 (hw _ (List.mem_of_getElem? (i := 39) rfl)) (hw _ (List.mem_of_getElem? (i := 28) rfl)) (by decide) (by decide)) q8a q8c (g := (mkF m 228 #[.val (.int pa), .val (.int pb), .val (.int pc'), .val (.int pd), .val (.int fl), .val (.int ln1), .val (.int ln2), .val (.int cpy), .val (.int (((fl.toUInt32 >>> ((5 : Int32) &&& 31).toUInt32).toInt32) &&& (3 : Int32))), .val (.int x1), .val (.int y1), .val (.int x2), .val (.int y2), .val (.ref r1), .val (.ref r2), .val (.ref b3), .val (.ref b5), .val (.int (1 : Int32))] [(.ref b5), (.ref b3)])) rfl (by rw [hml]; rfl) (Steps.refl _) (argsL := [(.ref b5)]) (rest := []) (lenOf own_pd6 rfl) rfl (by show 2 * 0 + _ ≤ _; exact Nat.le_of_eq rfl) (hb hby at_228) (fun _ _ => ⟨rfl, e6, (by decide : 14 + 0 ≤ _), (by decide : 26 + 0 ≤ _)⟩)
              dsimp only [Pt.U, Pt.locs, Pt.cells, Pt.slots] at X8 l8 y8 z8 st8 hQ8
              subst l8 y8 z8
              obtain ⟨rfl, N8q, e8⟩ := hQ8
              have N8 := Fr.app N6 N8q
              refine own_wt (T' := T8) (g' := (mkF m 231 #[.val (.int pa), .val (.int pb), .val (.int pc'), .val (.int pd), .val (.int fl), .val (.int ln1), .val (.int ln2), .val (.int cpy), .val (.int (((fl.toUInt32 >>> ((5 : Int32) &&& 31).toUInt32).toInt32) &&& (3 : Int32))), .val (.int x1), .val (.int y1), .val (.int x2), .val (.int y2), .val (.ref r1), .val (.ref r2), .val (.ref b3), .val (.ref b5), .val (.int (1 : Int32))] [(.int (if (own_mk ln2 x2 y2 = own_mk ln1 x1 y1) then (1 : Int32) else 0))])) st8 ?_
              refine own_ww (T' := T8) (g' := (mkF m 233 #[.val (.int pa), .val (.int pb), .val (.int pc'), .val (.int pd), .val (.int fl), .val (.int ln1), .val (.int ln2), .val (.int cpy), .val (.int (((fl.toUInt32 >>> ((5 : Int32) &&& 31).toUInt32).toInt32) &&& (3 : Int32))), .val (.int x1), .val (.int y1), .val (.int x2), .val (.int y2), .val (.ref r1), .val (.ref r2), .val (.ref b3), .val (.ref b5), .val (.int (1 : Int32))] [(.int (1 : Int32)), (.int (if (own_mk ln2 x2 y2 = own_mk ln1 x1 y1) then (1 : Int32) else 0))])) (fun _ k_ => XS.iload X8.here hx rfl (hb hby at_231) rfl k_) ?_
              refine own_ww (T' := T8) (g' := (mkF m 236 #[.val (.int pa), .val (.int pb), .val (.int pc'), .val (.int pd), .val (.int fl), .val (.int ln1), .val (.int ln2), .val (.int cpy), .val (.int (((fl.toUInt32 >>> ((5 : Int32) &&& 31).toUInt32).toInt32) &&& (3 : Int32))), .val (.int x1), .val (.int y1), .val (.int x2), .val (.int y2), .val (.ref r1), .val (.ref r2), .val (.ref b3), .val (.ref b5), .val (.int (1 : Int32))] [])) (fun _ k_ => XS.icmpNo X8.here hx rfl (hb hby at_233) rfl (teq (if_pos (hme.mpr (show (ln1 = ln2 ∧ (ln1 < (1 : Int32) ∨ x1 = x2) ∧ (ln1 < (2 : Int32) ∨ y1 = y2)) from ⟨hc147, (Or.inl hc153), (Or.inr hc173)⟩)))).2 k_) ?_
              refine own_ww (T' := T8) (g' := (mkF m 237 #[.val (.int pa), .val (.int pb), .val (.int pc'), .val (.int pd), .val (.int fl), .val (.int ln1), .val (.int ln2), .val (.int cpy), .val (.int (((fl.toUInt32 >>> ((5 : Int32) &&& 31).toUInt32).toInt32) &&& (3 : Int32))), .val (.int x1), .val (.int y1), .val (.int x2), .val (.int y2), .val (.ref r1), .val (.ref r2), .val (.ref b3), .val (.ref b5), .val (.int (1 : Int32))] [(.int (1 : Int32))])) (fun _ k_ => XS.iconst X8.here hx rfl (hb hby at_236) k_) ?_
              refine own_ww (T' := T8) (g' := (mkF m 241 #[.val (.int pa), .val (.int pb), .val (.int pc'), .val (.int pd), .val (.int fl), .val (.int ln1), .val (.int ln2), .val (.int cpy), .val (.int (((fl.toUInt32 >>> ((5 : Int32) &&& 31).toUInt32).toInt32) &&& (3 : Int32))), .val (.int x1), .val (.int y1), .val (.int x2), .val (.int y2), .val (.ref r1), .val (.ref r2), .val (.ref b3), .val (.ref b5), .val (.int (1 : Int32))] [(.int (1 : Int32))])) (fun _ k_ => XS.goto X8.here hx rfl (pc0 := 237) (pc' := 241) rfl (hb hby at_237) (by decide) (by decide) k_) ?_
              obtain ⟨fs, hr, hrun, hended, hRE⟩ := X8.leaveW (own_since hS2 CS6.2.1) (by rw [e8]; exact Nat.le_refl _) (v := some (.int (1 : Int32))) (fun h => by rw [Bd.returns] at h; cases h)
              exact ⟨_, _, retOut X8 hx Bd.returns rfl (Or.inl ⟨rfl, Or.inr (Or.inl rfl), _, rfl⟩) (hb hby at_241) hr, hrun, hended, _, _, rfl, (by show own_Q0 Z pa pb pc' pd fl cs h0 n0 _ T8.heap _; rw [e8]; exact ⟨rfl, N8⟩), (by show CHr Z own_EL s.vm s.heap T8.vm T8.heap; rw [e8, hh]; exact (CB2.trans CS6).trans (CHv.at X8 hZ2 (own_EW hw) CS6.1)), own_rmono hRE (by decide) (by decide)⟩
            · refine own_ww (T' := T6) (g' := (mkF m 180 #[.val (.int pa), .val (.int pb), .val (.int pc'), .val (.int pd), .val (.int fl), .val (.int ln1), .val (.int ln2), .val (.int cpy), .val (.int (((fl.toUInt32 >>> ((5 : Int32) &&& 31).toUInt32).toInt32) &&& (3 : Int32))), .val (.int x1), .val (.int y1), .val (.int x2), .val (.int y2), .val (.ref r1), .val (.ref r2), .val (.ref b3), .val (.ref b5), .unset] [])) (fun _ k_ => XS.icmpYes X6.here hx rfl (pc0 := 173) (pc' := 180) rfl (hb hby at_173) rfl (feq hc173).2 (by decide) (by decide) k_) ?_
              refine own_ww (T' := T6) (g' := (mkF m 181 #[.val (.int pa), .val (.int pb), .val (.int pc'), .val (.int pd), .val (.int fl), .val (.int ln1), .val (.int ln2), .val (.int cpy), .val (.int (((fl.toUInt32 >>> ((5 : Int32) &&& 31).toUInt32).toInt32) &&& (3 : Int32))), .val (.int x1), .val (.int y1), .val (.int x2), .val (.int y2), .val (.ref r1), .val (.ref r2), .val (.ref b3), .val (.ref b5), .unset] [(.int (0 : Int32))])) (fun _ k_ => XS.iconst X6.here hx rfl (hb hby at_180) k_) ?_
              refine own_ww (T' := T6) (g' := (mkF m 183 #[.val (.int pa), .val (.int pb), .val (.int pc'), .val (.int pd), .val (.int fl), .val (.int ln1), .val (.int ln2), .val (.int cpy), .val (.int (((fl.toUInt32 >>> ((5 : Int32) &&& 31).toUInt32).toInt32) &&& (3 : Int32))), .val (.int x1), .val (.int y1), .val (.int x2), .val (.int y2), .val (.ref r1), .val (.ref r2), .val (.ref b3), .val (.ref b5), .val (.int (0 : Int32))] [])) (fun _ k_ => XS.istore X6.here hx rfl (hb hby at_181) rfl (l' := #[.val (.int pa), .val (.int pb), .val (.int pc'), .val (.int pd), .val (.int fl), .val (.int ln1), .val (.int ln2), .val (.int cpy), .val (.int (((fl.toUInt32 >>> ((5 : Int32) &&& 31).toUInt32).toInt32) &&& (3 : Int32))), .val (.int x1), .val (.int y1), .val (.int x2), .val (.int y2), .val (.ref r1), .val (.ref r2), .val (.ref b3), .val (.ref b5), .val (.int (0 : Int32))]) rfl k_) ?_
              refine own_ww (T' := T6) (g' := (mkF m 224 #[.val (.int pa), .val (.int pb), .val (.int pc'), .val (.int pd), .val (.int fl), .val (.int ln1), .val (.int ln2), .val (.int cpy), .val (.int (((fl.toUInt32 >>> ((5 : Int32) &&& 31).toUInt32).toInt32) &&& (3 : Int32))), .val (.int x1), .val (.int y1), .val (.int x2), .val (.int y2), .val (.ref r1), .val (.ref r2), .val (.ref b3), .val (.ref b5), .val (.int (0 : Int32))] [])) (fun _ k_ => XS.goto X6.here hx rfl (pc0 := 183) (pc' := 224) rfl (hb hby at_183) (by decide) (by decide) k_) ?_
              refine own_ww (T' := T6) (g' := (mkF m 226 #[.val (.int pa), .val (.int pb), .val (.int pc'), .val (.int pd), .val (.int fl), .val (.int ln1), .val (.int ln2), .val (.int cpy), .val (.int (((fl.toUInt32 >>> ((5 : Int32) &&& 31).toUInt32).toInt32) &&& (3 : Int32))), .val (.int x1), .val (.int y1), .val (.int x2), .val (.int y2), .val (.ref r1), .val (.ref r2), .val (.ref b3), .val (.ref b5), .val (.int (0 : Int32))] [(.ref b3)])) (fun _ k_ => XS.aload X6.here hx rfl (hb hby at_224) rfl rfl k_) ?_
              refine own_ww (T' := T6) (g' := (mkF m 228 #[.val (.int pa), .val (.int pb), .val (.int pc'), .val (.int pd), .val (.int fl), .val (.int ln1), .val (.int ln2), .val (.int cpy), .val (.int (((fl.toUInt32 >>> ((5 : Int32) &&& 31).toUInt32).toInt32) &&& (3 : Int32))), .val (.int x1), .val (.int y1), .val (.int x2), .val (.int y2), .val (.ref r1), .val (.ref r2), .val (.ref b3), .val (.ref b5), .val (.int (0 : Int32))] [(.ref b5), (.ref b3)])) (fun _ k_ => XS.aload X6.here hx rfl (hb hby at_226) rfl rfl k_) ?_
              obtain ⟨cq9, kq9, q9a, q9b, q9c⟩ := isOf hZ2 e6 Eg1
              obtain ⟨_, _, ⟨T9, L9, k9, n9⟩, -, X9, ⟨Lc9, hQ9, l9, y9, z9⟩, st9⟩ := X6.virtualBack hx (y := (⟨"com/example/marshal_trust/marshaltrust/FunctionGroup", "equals", "(Ljava/lang/Object;)Z"⟩ : MethodName)) (z := (⟨"com/example/marshal_trust/marshaltrust/FunctionGroup", "equals", "(Ljava/lang/Object;)Z"⟩ : MethodName)) ho2 (mvT hZ2 (hw _ (List.mem_of_getElem? (i := 35) rfl))) (mvT hZ2 (hw _ (List.mem_of_getElem? (i := 36) rfl))) (notFace_of_selects (args := #[]) (mvT hZ2 (hw _ (List.mem_of_getElem? (i := 38) rfl)))) (mvT hZ2 (hw _ (List.mem_of_getElem? (i := 38) rfl))) (mvT hZ2 (hw _ (List.mem_of_getElem? (i := 37) rfl))) (by decide) (backOf (W := 0) (own_rm6_g l Z a0 hw [] b3 b5 r1 r2 _ _ cs h6 n0 Z6 Fg1 F6 Eg2 U1 U2 (own_mklen _ _ _) (own_mklen _ _ _) hcs S4) hZ2 (hw _ (List.mem_of_getElem? (i := 39) rfl)) (hw _ (List.mem_of_getElem? (i := 28) rfl)) (by decide) (by decide)) q9a q9c (g := (mkF m 228 #[.val (.int pa), .val (.int pb), .val (.int pc'), .val (.int pd), .val (.int fl), .val (.int ln1), .val (.int ln2), .val (.int cpy), .val (.int (((fl.toUInt32 >>> ((5 : Int32) &&& 31).toUInt32).toInt32) &&& (3 : Int32))), .val (.int x1), .val (.int y1), .val (.int x2), .val (.int y2), .val (.ref r1), .val (.ref r2), .val (.ref b3), .val (.ref b5), .val (.int (0 : Int32))] [(.ref b5), (.ref b3)])) rfl (by rw [hml]; rfl) (Steps.refl _) (argsL := [(.ref b5)]) (rest := []) (lenOf own_pd6 rfl) rfl (by show 2 * 0 + _ ≤ _; exact Nat.le_of_eq rfl) (hb hby at_228) (fun _ _ => ⟨rfl, e6, (by decide : 14 + 0 ≤ _), (by decide : 26 + 0 ≤ _)⟩)
              dsimp only [Pt.U, Pt.locs, Pt.cells, Pt.slots] at X9 l9 y9 z9 st9 hQ9
              subst l9 y9 z9
              obtain ⟨rfl, N9q, e9⟩ := hQ9
              have N9 := Fr.app N6 N9q
              refine own_wt (T' := T9) (g' := (mkF m 231 #[.val (.int pa), .val (.int pb), .val (.int pc'), .val (.int pd), .val (.int fl), .val (.int ln1), .val (.int ln2), .val (.int cpy), .val (.int (((fl.toUInt32 >>> ((5 : Int32) &&& 31).toUInt32).toInt32) &&& (3 : Int32))), .val (.int x1), .val (.int y1), .val (.int x2), .val (.int y2), .val (.ref r1), .val (.ref r2), .val (.ref b3), .val (.ref b5), .val (.int (0 : Int32))] [(.int (if (own_mk ln2 x2 y2 = own_mk ln1 x1 y1) then (1 : Int32) else 0))])) st9 ?_
              refine own_ww (T' := T9) (g' := (mkF m 233 #[.val (.int pa), .val (.int pb), .val (.int pc'), .val (.int pd), .val (.int fl), .val (.int ln1), .val (.int ln2), .val (.int cpy), .val (.int (((fl.toUInt32 >>> ((5 : Int32) &&& 31).toUInt32).toInt32) &&& (3 : Int32))), .val (.int x1), .val (.int y1), .val (.int x2), .val (.int y2), .val (.ref r1), .val (.ref r2), .val (.ref b3), .val (.ref b5), .val (.int (0 : Int32))] [(.int (0 : Int32)), (.int (if (own_mk ln2 x2 y2 = own_mk ln1 x1 y1) then (1 : Int32) else 0))])) (fun _ k_ => XS.iload X9.here hx rfl (hb hby at_231) rfl k_) ?_
              refine own_ww (T' := T9) (g' := (mkF m 236 #[.val (.int pa), .val (.int pb), .val (.int pc'), .val (.int pd), .val (.int fl), .val (.int ln1), .val (.int ln2), .val (.int cpy), .val (.int (((fl.toUInt32 >>> ((5 : Int32) &&& 31).toUInt32).toInt32) &&& (3 : Int32))), .val (.int x1), .val (.int y1), .val (.int x2), .val (.int y2), .val (.ref r1), .val (.ref r2), .val (.ref b3), .val (.ref b5), .val (.int (0 : Int32))] [])) (fun _ k_ => XS.icmpNo X9.here hx rfl (hb hby at_233) rfl (teq (if_neg (fun z => (show ¬ (ln1 = ln2 ∧ (ln1 < (1 : Int32) ∨ x1 = x2) ∧ (ln1 < (2 : Int32) ∨ y1 = y2)) from (fun q => (fun q => q.elim hc166 hc173) q.2.2)) (hme.mp z)))).2 k_) ?_
              refine own_ww (T' := T9) (g' := (mkF m 237 #[.val (.int pa), .val (.int pb), .val (.int pc'), .val (.int pd), .val (.int fl), .val (.int ln1), .val (.int ln2), .val (.int cpy), .val (.int (((fl.toUInt32 >>> ((5 : Int32) &&& 31).toUInt32).toInt32) &&& (3 : Int32))), .val (.int x1), .val (.int y1), .val (.int x2), .val (.int y2), .val (.ref r1), .val (.ref r2), .val (.ref b3), .val (.ref b5), .val (.int (0 : Int32))] [(.int (1 : Int32))])) (fun _ k_ => XS.iconst X9.here hx rfl (hb hby at_236) k_) ?_
              refine own_ww (T' := T9) (g' := (mkF m 241 #[.val (.int pa), .val (.int pb), .val (.int pc'), .val (.int pd), .val (.int fl), .val (.int ln1), .val (.int ln2), .val (.int cpy), .val (.int (((fl.toUInt32 >>> ((5 : Int32) &&& 31).toUInt32).toInt32) &&& (3 : Int32))), .val (.int x1), .val (.int y1), .val (.int x2), .val (.int y2), .val (.ref r1), .val (.ref r2), .val (.ref b3), .val (.ref b5), .val (.int (0 : Int32))] [(.int (1 : Int32))])) (fun _ k_ => XS.goto X9.here hx rfl (pc0 := 237) (pc' := 241) rfl (hb hby at_237) (by decide) (by decide) k_) ?_
              obtain ⟨fs, hr, hrun, hended, hRE⟩ := X9.leaveW (own_since hS2 CS6.2.1) (by rw [e9]; exact Nat.le_refl _) (v := some (.int (1 : Int32))) (fun h => by rw [Bd.returns] at h; cases h)
              exact ⟨_, _, retOut X9 hx Bd.returns rfl (Or.inl ⟨rfl, Or.inr (Or.inl rfl), _, rfl⟩) (hb hby at_241) hr, hrun, hended, _, _, rfl, (by show own_Q0 Z pa pb pc' pd fl cs h0 n0 _ T9.heap _; rw [e9]; exact ⟨rfl, N9⟩), (by show CHr Z own_EL s.vm s.heap T9.vm T9.heap; rw [e9, hh]; exact (CB2.trans CS6).trans (CHv.at X9 hZ2 (own_EW hw) CS6.1)), own_rmono hRE (by decide) (by decide)⟩
        · refine own_ww (T' := T6) (g' := (mkF m 156 #[.val (.int pa), .val (.int pb), .val (.int pc'), .val (.int pd), .val (.int fl), .val (.int ln1), .val (.int ln2), .val (.int cpy), .val (.int (((fl.toUInt32 >>> ((5 : Int32) &&& 31).toUInt32).toInt32) &&& (3 : Int32))), .val (.int x1), .val (.int y1), .val (.int x2), .val (.int y2), .val (.ref r1), .val (.ref r2), .val (.ref b3), .val (.ref b5), .unset] [])) (fun _ k_ => XS.icmpNo X6.here hx rfl (hb hby at_153) rfl (flt hc153).1 k_) ?_
          refine own_ww (T' := T6) (g' := (mkF m 158 #[.val (.int pa), .val (.int pb), .val (.int pc'), .val (.int pd), .val (.int fl), .val (.int ln1), .val (.int ln2), .val (.int cpy), .val (.int (((fl.toUInt32 >>> ((5 : Int32) &&& 31).toUInt32).toInt32) &&& (3 : Int32))), .val (.int x1), .val (.int y1), .val (.int x2), .val (.int y2), .val (.ref r1), .val (.ref r2), .val (.ref b3), .val (.ref b5), .unset] [(.int x1)])) (fun _ k_ => XS.iload X6.here hx rfl (hb hby at_156) rfl k_) ?_
          refine own_ww (T' := T6) (g' := (mkF m 160 #[.val (.int pa), .val (.int pb), .val (.int pc'), .val (.int pd), .val (.int fl), .val (.int ln1), .val (.int ln2), .val (.int cpy), .val (.int (((fl.toUInt32 >>> ((5 : Int32) &&& 31).toUInt32).toInt32) &&& (3 : Int32))), .val (.int x1), .val (.int y1), .val (.int x2), .val (.int y2), .val (.ref r1), .val (.ref r2), .val (.ref b3), .val (.ref b5), .unset] [(.int x2), (.int x1)])) (fun _ k_ => XS.iload X6.here hx rfl (hb hby at_158) rfl k_) ?_
          by_cases hc160 : x1 = x2
          · refine own_ww (T' := T6) (g' := (mkF m 163 #[.val (.int pa), .val (.int pb), .val (.int pc'), .val (.int pd), .val (.int fl), .val (.int ln1), .val (.int ln2), .val (.int cpy), .val (.int (((fl.toUInt32 >>> ((5 : Int32) &&& 31).toUInt32).toInt32) &&& (3 : Int32))), .val (.int x1), .val (.int y1), .val (.int x2), .val (.int y2), .val (.ref r1), .val (.ref r2), .val (.ref b3), .val (.ref b5), .unset] [])) (fun _ k_ => XS.icmpNo X6.here hx rfl (hb hby at_160) rfl (teq hc160).2 k_) ?_
            refine own_ww (T' := T6) (g' := (mkF m 165 #[.val (.int pa), .val (.int pb), .val (.int pc'), .val (.int pd), .val (.int fl), .val (.int ln1), .val (.int ln2), .val (.int cpy), .val (.int (((fl.toUInt32 >>> ((5 : Int32) &&& 31).toUInt32).toInt32) &&& (3 : Int32))), .val (.int x1), .val (.int y1), .val (.int x2), .val (.int y2), .val (.ref r1), .val (.ref r2), .val (.ref b3), .val (.ref b5), .unset] [(.int ln1)])) (fun _ k_ => XS.iload X6.here hx rfl (hb hby at_163) rfl k_) ?_
            refine own_ww (T' := T6) (g' := (mkF m 166 #[.val (.int pa), .val (.int pb), .val (.int pc'), .val (.int pd), .val (.int fl), .val (.int ln1), .val (.int ln2), .val (.int cpy), .val (.int (((fl.toUInt32 >>> ((5 : Int32) &&& 31).toUInt32).toInt32) &&& (3 : Int32))), .val (.int x1), .val (.int y1), .val (.int x2), .val (.int y2), .val (.ref r1), .val (.ref r2), .val (.ref b3), .val (.ref b5), .unset] [(.int (2 : Int32)), (.int ln1)])) (fun _ k_ => XS.iconst X6.here hx rfl (hb hby at_165) k_) ?_
            by_cases hc166 : ln1 < (2 : Int32)
            · refine own_ww (T' := T6) (g' := (mkF m 176 #[.val (.int pa), .val (.int pb), .val (.int pc'), .val (.int pd), .val (.int fl), .val (.int ln1), .val (.int ln2), .val (.int cpy), .val (.int (((fl.toUInt32 >>> ((5 : Int32) &&& 31).toUInt32).toInt32) &&& (3 : Int32))), .val (.int x1), .val (.int y1), .val (.int x2), .val (.int y2), .val (.ref r1), .val (.ref r2), .val (.ref b3), .val (.ref b5), .unset] [])) (fun _ k_ => XS.icmpYes X6.here hx rfl (pc0 := 166) (pc' := 176) rfl (hb hby at_166) rfl (tlt hc166).1 (by decide) (by decide) k_) ?_
              refine own_ww (T' := T6) (g' := (mkF m 177 #[.val (.int pa), .val (.int pb), .val (.int pc'), .val (.int pd), .val (.int fl), .val (.int ln1), .val (.int ln2), .val (.int cpy), .val (.int (((fl.toUInt32 >>> ((5 : Int32) &&& 31).toUInt32).toInt32) &&& (3 : Int32))), .val (.int x1), .val (.int y1), .val (.int x2), .val (.int y2), .val (.ref r1), .val (.ref r2), .val (.ref b3), .val (.ref b5), .unset] [(.int (1 : Int32))])) (fun _ k_ => XS.iconst X6.here hx rfl (hb hby at_176) k_) ?_
              refine own_ww (T' := T6) (g' := (mkF m 181 #[.val (.int pa), .val (.int pb), .val (.int pc'), .val (.int pd), .val (.int fl), .val (.int ln1), .val (.int ln2), .val (.int cpy), .val (.int (((fl.toUInt32 >>> ((5 : Int32) &&& 31).toUInt32).toInt32) &&& (3 : Int32))), .val (.int x1), .val (.int y1), .val (.int x2), .val (.int y2), .val (.ref r1), .val (.ref r2), .val (.ref b3), .val (.ref b5), .unset] [(.int (1 : Int32))])) (fun _ k_ => XS.goto X6.here hx rfl (pc0 := 177) (pc' := 181) rfl (hb hby at_177) (by decide) (by decide) k_) ?_
              refine own_ww (T' := T6) (g' := (mkF m 183 #[.val (.int pa), .val (.int pb), .val (.int pc'), .val (.int pd), .val (.int fl), .val (.int ln1), .val (.int ln2), .val (.int cpy), .val (.int (((fl.toUInt32 >>> ((5 : Int32) &&& 31).toUInt32).toInt32) &&& (3 : Int32))), .val (.int x1), .val (.int y1), .val (.int x2), .val (.int y2), .val (.ref r1), .val (.ref r2), .val (.ref b3), .val (.ref b5), .val (.int (1 : Int32))] [])) (fun _ k_ => XS.istore X6.here hx rfl (hb hby at_181) rfl (l' := #[.val (.int pa), .val (.int pb), .val (.int pc'), .val (.int pd), .val (.int fl), .val (.int ln1), .val (.int ln2), .val (.int cpy), .val (.int (((fl.toUInt32 >>> ((5 : Int32) &&& 31).toUInt32).toInt32) &&& (3 : Int32))), .val (.int x1), .val (.int y1), .val (.int x2), .val (.int y2), .val (.ref r1), .val (.ref r2), .val (.ref b3), .val (.ref b5), .val (.int (1 : Int32))]) rfl k_) ?_
              refine own_ww (T' := T6) (g' := (mkF m 224 #[.val (.int pa), .val (.int pb), .val (.int pc'), .val (.int pd), .val (.int fl), .val (.int ln1), .val (.int ln2), .val (.int cpy), .val (.int (((fl.toUInt32 >>> ((5 : Int32) &&& 31).toUInt32).toInt32) &&& (3 : Int32))), .val (.int x1), .val (.int y1), .val (.int x2), .val (.int y2), .val (.ref r1), .val (.ref r2), .val (.ref b3), .val (.ref b5), .val (.int (1 : Int32))] [])) (fun _ k_ => XS.goto X6.here hx rfl (pc0 := 183) (pc' := 224) rfl (hb hby at_183) (by decide) (by decide) k_) ?_
              refine own_ww (T' := T6) (g' := (mkF m 226 #[.val (.int pa), .val (.int pb), .val (.int pc'), .val (.int pd), .val (.int fl), .val (.int ln1), .val (.int ln2), .val (.int cpy), .val (.int (((fl.toUInt32 >>> ((5 : Int32) &&& 31).toUInt32).toInt32) &&& (3 : Int32))), .val (.int x1), .val (.int y1), .val (.int x2), .val (.int y2), .val (.ref r1), .val (.ref r2), .val (.ref b3), .val (.ref b5), .val (.int (1 : Int32))] [(.ref b3)])) (fun _ k_ => XS.aload X6.here hx rfl (hb hby at_224) rfl rfl k_) ?_
              refine own_ww (T' := T6) (g' := (mkF m 228 #[.val (.int pa), .val (.int pb), .val (.int pc'), .val (.int pd), .val (.int fl), .val (.int ln1), .val (.int ln2), .val (.int cpy), .val (.int (((fl.toUInt32 >>> ((5 : Int32) &&& 31).toUInt32).toInt32) &&& (3 : Int32))), .val (.int x1), .val (.int y1), .val (.int x2), .val (.int y2), .val (.ref r1), .val (.ref r2), .val (.ref b3), .val (.ref b5), .val (.int (1 : Int32))] [(.ref b5), (.ref b3)])) (fun _ k_ => XS.aload X6.here hx rfl (hb hby at_226) rfl rfl k_) ?_
              obtain ⟨cq10, kq10, q10a, q10b, q10c⟩ := isOf hZ2 e6 Eg1
              obtain ⟨_, _, ⟨T10, L10, k10, n10⟩, -, X10, ⟨Lc10, hQ10, l10, y10, z10⟩, st10⟩ := X6.virtualBack hx (y := (⟨"com/example/marshal_trust/marshaltrust/FunctionGroup", "equals", "(Ljava/lang/Object;)Z"⟩ : MethodName)) (z := (⟨"com/example/marshal_trust/marshaltrust/FunctionGroup", "equals", "(Ljava/lang/Object;)Z"⟩ : MethodName)) ho2 (mvT hZ2 (hw _ (List.mem_of_getElem? (i := 35) rfl))) (mvT hZ2 (hw _ (List.mem_of_getElem? (i := 36) rfl))) (notFace_of_selects (args := #[]) (mvT hZ2 (hw _ (List.mem_of_getElem? (i := 38) rfl)))) (mvT hZ2 (hw _ (List.mem_of_getElem? (i := 38) rfl))) (mvT hZ2 (hw _ (List.mem_of_getElem? (i := 37) rfl))) (by decide) (backOf (W := 0) (own_rm6_g l Z a0 hw [] b3 b5 r1 r2 _ _ cs h6 n0 Z6 Fg1 F6 Eg2 U1 U2 (own_mklen _ _ _) (own_mklen _ _ _) hcs S4) hZ2 (hw _ (List.mem_of_getElem? (i := 39) rfl)) (hw _ (List.mem_of_getElem? (i := 28) rfl)) (by decide) (by decide)) q10a q10c (g := (mkF m 228 #[.val (.int pa), .val (.int pb), .val (.int pc'), .val (.int pd), .val (.int fl), .val (.int ln1), .val (.int ln2), .val (.int cpy), .val (.int (((fl.toUInt32 >>> ((5 : Int32) &&& 31).toUInt32).toInt32) &&& (3 : Int32))), .val (.int x1), .val (.int y1), .val (.int x2), .val (.int y2), .val (.ref r1), .val (.ref r2), .val (.ref b3), .val (.ref b5), .val (.int (1 : Int32))] [(.ref b5), (.ref b3)])) rfl (by rw [hml]; rfl) (Steps.refl _) (argsL := [(.ref b5)]) (rest := []) (lenOf own_pd6 rfl) rfl (by show 2 * 0 + _ ≤ _; exact Nat.le_of_eq rfl) (hb hby at_228) (fun _ _ => ⟨rfl, e6, (by decide : 14 + 0 ≤ _), (by decide : 26 + 0 ≤ _)⟩)
              dsimp only [Pt.U, Pt.locs, Pt.cells, Pt.slots] at X10 l10 y10 z10 st10 hQ10
              subst l10 y10 z10
              obtain ⟨rfl, N10q, e10⟩ := hQ10
              have N10 := Fr.app N6 N10q
              refine own_wt (T' := T10) (g' := (mkF m 231 #[.val (.int pa), .val (.int pb), .val (.int pc'), .val (.int pd), .val (.int fl), .val (.int ln1), .val (.int ln2), .val (.int cpy), .val (.int (((fl.toUInt32 >>> ((5 : Int32) &&& 31).toUInt32).toInt32) &&& (3 : Int32))), .val (.int x1), .val (.int y1), .val (.int x2), .val (.int y2), .val (.ref r1), .val (.ref r2), .val (.ref b3), .val (.ref b5), .val (.int (1 : Int32))] [(.int (if (own_mk ln2 x2 y2 = own_mk ln1 x1 y1) then (1 : Int32) else 0))])) st10 ?_
              refine own_ww (T' := T10) (g' := (mkF m 233 #[.val (.int pa), .val (.int pb), .val (.int pc'), .val (.int pd), .val (.int fl), .val (.int ln1), .val (.int ln2), .val (.int cpy), .val (.int (((fl.toUInt32 >>> ((5 : Int32) &&& 31).toUInt32).toInt32) &&& (3 : Int32))), .val (.int x1), .val (.int y1), .val (.int x2), .val (.int y2), .val (.ref r1), .val (.ref r2), .val (.ref b3), .val (.ref b5), .val (.int (1 : Int32))] [(.int (1 : Int32)), (.int (if (own_mk ln2 x2 y2 = own_mk ln1 x1 y1) then (1 : Int32) else 0))])) (fun _ k_ => XS.iload X10.here hx rfl (hb hby at_231) rfl k_) ?_
              refine own_ww (T' := T10) (g' := (mkF m 236 #[.val (.int pa), .val (.int pb), .val (.int pc'), .val (.int pd), .val (.int fl), .val (.int ln1), .val (.int ln2), .val (.int cpy), .val (.int (((fl.toUInt32 >>> ((5 : Int32) &&& 31).toUInt32).toInt32) &&& (3 : Int32))), .val (.int x1), .val (.int y1), .val (.int x2), .val (.int y2), .val (.ref r1), .val (.ref r2), .val (.ref b3), .val (.ref b5), .val (.int (1 : Int32))] [])) (fun _ k_ => XS.icmpNo X10.here hx rfl (hb hby at_233) rfl (teq (if_pos (hme.mpr (show (ln1 = ln2 ∧ (ln1 < (1 : Int32) ∨ x1 = x2) ∧ (ln1 < (2 : Int32) ∨ y1 = y2)) from ⟨hc147, (Or.inr hc160), (Or.inl hc166)⟩)))).2 k_) ?_
              refine own_ww (T' := T10) (g' := (mkF m 237 #[.val (.int pa), .val (.int pb), .val (.int pc'), .val (.int pd), .val (.int fl), .val (.int ln1), .val (.int ln2), .val (.int cpy), .val (.int (((fl.toUInt32 >>> ((5 : Int32) &&& 31).toUInt32).toInt32) &&& (3 : Int32))), .val (.int x1), .val (.int y1), .val (.int x2), .val (.int y2), .val (.ref r1), .val (.ref r2), .val (.ref b3), .val (.ref b5), .val (.int (1 : Int32))] [(.int (1 : Int32))])) (fun _ k_ => XS.iconst X10.here hx rfl (hb hby at_236) k_) ?_
              refine own_ww (T' := T10) (g' := (mkF m 241 #[.val (.int pa), .val (.int pb), .val (.int pc'), .val (.int pd), .val (.int fl), .val (.int ln1), .val (.int ln2), .val (.int cpy), .val (.int (((fl.toUInt32 >>> ((5 : Int32) &&& 31).toUInt32).toInt32) &&& (3 : Int32))), .val (.int x1), .val (.int y1), .val (.int x2), .val (.int y2), .val (.ref r1), .val (.ref r2), .val (.ref b3), .val (.ref b5), .val (.int (1 : Int32))] [(.int (1 : Int32))])) (fun _ k_ => XS.goto X10.here hx rfl (pc0 := 237) (pc' := 241) rfl (hb hby at_237) (by decide) (by decide) k_) ?_
              obtain ⟨fs, hr, hrun, hended, hRE⟩ := X10.leaveW (own_since hS2 CS6.2.1) (by rw [e10]; exact Nat.le_refl _) (v := some (.int (1 : Int32))) (fun h => by rw [Bd.returns] at h; cases h)
              exact ⟨_, _, retOut X10 hx Bd.returns rfl (Or.inl ⟨rfl, Or.inr (Or.inl rfl), _, rfl⟩) (hb hby at_241) hr, hrun, hended, _, _, rfl, (by show own_Q0 Z pa pb pc' pd fl cs h0 n0 _ T10.heap _; rw [e10]; exact ⟨rfl, N10⟩), (by show CHr Z own_EL s.vm s.heap T10.vm T10.heap; rw [e10, hh]; exact (CB2.trans CS6).trans (CHv.at X10 hZ2 (own_EW hw) CS6.1)), own_rmono hRE (by decide) (by decide)⟩
            · refine own_ww (T' := T6) (g' := (mkF m 169 #[.val (.int pa), .val (.int pb), .val (.int pc'), .val (.int pd), .val (.int fl), .val (.int ln1), .val (.int ln2), .val (.int cpy), .val (.int (((fl.toUInt32 >>> ((5 : Int32) &&& 31).toUInt32).toInt32) &&& (3 : Int32))), .val (.int x1), .val (.int y1), .val (.int x2), .val (.int y2), .val (.ref r1), .val (.ref r2), .val (.ref b3), .val (.ref b5), .unset] [])) (fun _ k_ => XS.icmpNo X6.here hx rfl (hb hby at_166) rfl (flt hc166).1 k_) ?_
              refine own_ww (T' := T6) (g' := (mkF m 171 #[.val (.int pa), .val (.int pb), .val (.int pc'), .val (.int pd), .val (.int fl), .val (.int ln1), .val (.int ln2), .val (.int cpy), .val (.int (((fl.toUInt32 >>> ((5 : Int32) &&& 31).toUInt32).toInt32) &&& (3 : Int32))), .val (.int x1), .val (.int y1), .val (.int x2), .val (.int y2), .val (.ref r1), .val (.ref r2), .val (.ref b3), .val (.ref b5), .unset] [(.int y1)])) (fun _ k_ => XS.iload X6.here hx rfl (hb hby at_169) rfl k_) ?_
              refine own_ww (T' := T6) (g' := (mkF m 173 #[.val (.int pa), .val (.int pb), .val (.int pc'), .val (.int pd), .val (.int fl), .val (.int ln1), .val (.int ln2), .val (.int cpy), .val (.int (((fl.toUInt32 >>> ((5 : Int32) &&& 31).toUInt32).toInt32) &&& (3 : Int32))), .val (.int x1), .val (.int y1), .val (.int x2), .val (.int y2), .val (.ref r1), .val (.ref r2), .val (.ref b3), .val (.ref b5), .unset] [(.int y2), (.int y1)])) (fun _ k_ => XS.iload X6.here hx rfl (hb hby at_171) rfl k_) ?_
              by_cases hc173 : y1 = y2
              · refine own_ww (T' := T6) (g' := (mkF m 176 #[.val (.int pa), .val (.int pb), .val (.int pc'), .val (.int pd), .val (.int fl), .val (.int ln1), .val (.int ln2), .val (.int cpy), .val (.int (((fl.toUInt32 >>> ((5 : Int32) &&& 31).toUInt32).toInt32) &&& (3 : Int32))), .val (.int x1), .val (.int y1), .val (.int x2), .val (.int y2), .val (.ref r1), .val (.ref r2), .val (.ref b3), .val (.ref b5), .unset] [])) (fun _ k_ => XS.icmpNo X6.here hx rfl (hb hby at_173) rfl (teq hc173).2 k_) ?_
                refine own_ww (T' := T6) (g' := (mkF m 177 #[.val (.int pa), .val (.int pb), .val (.int pc'), .val (.int pd), .val (.int fl), .val (.int ln1), .val (.int ln2), .val (.int cpy), .val (.int (((fl.toUInt32 >>> ((5 : Int32) &&& 31).toUInt32).toInt32) &&& (3 : Int32))), .val (.int x1), .val (.int y1), .val (.int x2), .val (.int y2), .val (.ref r1), .val (.ref r2), .val (.ref b3), .val (.ref b5), .unset] [(.int (1 : Int32))])) (fun _ k_ => XS.iconst X6.here hx rfl (hb hby at_176) k_) ?_
                refine own_ww (T' := T6) (g' := (mkF m 181 #[.val (.int pa), .val (.int pb), .val (.int pc'), .val (.int pd), .val (.int fl), .val (.int ln1), .val (.int ln2), .val (.int cpy), .val (.int (((fl.toUInt32 >>> ((5 : Int32) &&& 31).toUInt32).toInt32) &&& (3 : Int32))), .val (.int x1), .val (.int y1), .val (.int x2), .val (.int y2), .val (.ref r1), .val (.ref r2), .val (.ref b3), .val (.ref b5), .unset] [(.int (1 : Int32))])) (fun _ k_ => XS.goto X6.here hx rfl (pc0 := 177) (pc' := 181) rfl (hb hby at_177) (by decide) (by decide) k_) ?_
                refine own_ww (T' := T6) (g' := (mkF m 183 #[.val (.int pa), .val (.int pb), .val (.int pc'), .val (.int pd), .val (.int fl), .val (.int ln1), .val (.int ln2), .val (.int cpy), .val (.int (((fl.toUInt32 >>> ((5 : Int32) &&& 31).toUInt32).toInt32) &&& (3 : Int32))), .val (.int x1), .val (.int y1), .val (.int x2), .val (.int y2), .val (.ref r1), .val (.ref r2), .val (.ref b3), .val (.ref b5), .val (.int (1 : Int32))] [])) (fun _ k_ => XS.istore X6.here hx rfl (hb hby at_181) rfl (l' := #[.val (.int pa), .val (.int pb), .val (.int pc'), .val (.int pd), .val (.int fl), .val (.int ln1), .val (.int ln2), .val (.int cpy), .val (.int (((fl.toUInt32 >>> ((5 : Int32) &&& 31).toUInt32).toInt32) &&& (3 : Int32))), .val (.int x1), .val (.int y1), .val (.int x2), .val (.int y2), .val (.ref r1), .val (.ref r2), .val (.ref b3), .val (.ref b5), .val (.int (1 : Int32))]) rfl k_) ?_
                refine own_ww (T' := T6) (g' := (mkF m 224 #[.val (.int pa), .val (.int pb), .val (.int pc'), .val (.int pd), .val (.int fl), .val (.int ln1), .val (.int ln2), .val (.int cpy), .val (.int (((fl.toUInt32 >>> ((5 : Int32) &&& 31).toUInt32).toInt32) &&& (3 : Int32))), .val (.int x1), .val (.int y1), .val (.int x2), .val (.int y2), .val (.ref r1), .val (.ref r2), .val (.ref b3), .val (.ref b5), .val (.int (1 : Int32))] [])) (fun _ k_ => XS.goto X6.here hx rfl (pc0 := 183) (pc' := 224) rfl (hb hby at_183) (by decide) (by decide) k_) ?_
                refine own_ww (T' := T6) (g' := (mkF m 226 #[.val (.int pa), .val (.int pb), .val (.int pc'), .val (.int pd), .val (.int fl), .val (.int ln1), .val (.int ln2), .val (.int cpy), .val (.int (((fl.toUInt32 >>> ((5 : Int32) &&& 31).toUInt32).toInt32) &&& (3 : Int32))), .val (.int x1), .val (.int y1), .val (.int x2), .val (.int y2), .val (.ref r1), .val (.ref r2), .val (.ref b3), .val (.ref b5), .val (.int (1 : Int32))] [(.ref b3)])) (fun _ k_ => XS.aload X6.here hx rfl (hb hby at_224) rfl rfl k_) ?_
                refine own_ww (T' := T6) (g' := (mkF m 228 #[.val (.int pa), .val (.int pb), .val (.int pc'), .val (.int pd), .val (.int fl), .val (.int ln1), .val (.int ln2), .val (.int cpy), .val (.int (((fl.toUInt32 >>> ((5 : Int32) &&& 31).toUInt32).toInt32) &&& (3 : Int32))), .val (.int x1), .val (.int y1), .val (.int x2), .val (.int y2), .val (.ref r1), .val (.ref r2), .val (.ref b3), .val (.ref b5), .val (.int (1 : Int32))] [(.ref b5), (.ref b3)])) (fun _ k_ => XS.aload X6.here hx rfl (hb hby at_226) rfl rfl k_) ?_
                obtain ⟨cq11, kq11, q11a, q11b, q11c⟩ := isOf hZ2 e6 Eg1
                obtain ⟨_, _, ⟨T11, L11, k11, n11⟩, -, X11, ⟨Lc11, hQ11, l11, y11, z11⟩, st11⟩ := X6.virtualBack hx (y := (⟨"com/example/marshal_trust/marshaltrust/FunctionGroup", "equals", "(Ljava/lang/Object;)Z"⟩ : MethodName)) (z := (⟨"com/example/marshal_trust/marshaltrust/FunctionGroup", "equals", "(Ljava/lang/Object;)Z"⟩ : MethodName)) ho2 (mvT hZ2 (hw _ (List.mem_of_getElem? (i := 35) rfl))) (mvT hZ2 (hw _ (List.mem_of_getElem? (i := 36) rfl))) (notFace_of_selects (args := #[]) (mvT hZ2 (hw _ (List.mem_of_getElem? (i := 38) rfl)))) (mvT hZ2 (hw _ (List.mem_of_getElem? (i := 38) rfl))) (mvT hZ2 (hw _ (List.mem_of_getElem? (i := 37) rfl))) (by decide) (backOf (W := 0) (own_rm6_g l Z a0 hw [] b3 b5 r1 r2 _ _ cs h6 n0 Z6 Fg1 F6 Eg2 U1 U2 (own_mklen _ _ _) (own_mklen _ _ _) hcs S4) hZ2 (hw _ (List.mem_of_getElem? (i := 39) rfl)) (hw _ (List.mem_of_getElem? (i := 28) rfl)) (by decide) (by decide)) q11a q11c (g := (mkF m 228 #[.val (.int pa), .val (.int pb), .val (.int pc'), .val (.int pd), .val (.int fl), .val (.int ln1), .val (.int ln2), .val (.int cpy), .val (.int (((fl.toUInt32 >>> ((5 : Int32) &&& 31).toUInt32).toInt32) &&& (3 : Int32))), .val (.int x1), .val (.int y1), .val (.int x2), .val (.int y2), .val (.ref r1), .val (.ref r2), .val (.ref b3), .val (.ref b5), .val (.int (1 : Int32))] [(.ref b5), (.ref b3)])) rfl (by rw [hml]; rfl) (Steps.refl _) (argsL := [(.ref b5)]) (rest := []) (lenOf own_pd6 rfl) rfl (by show 2 * 0 + _ ≤ _; exact Nat.le_of_eq rfl) (hb hby at_228) (fun _ _ => ⟨rfl, e6, (by decide : 14 + 0 ≤ _), (by decide : 26 + 0 ≤ _)⟩)
                dsimp only [Pt.U, Pt.locs, Pt.cells, Pt.slots] at X11 l11 y11 z11 st11 hQ11
                subst l11 y11 z11
                obtain ⟨rfl, N11q, e11⟩ := hQ11
                have N11 := Fr.app N6 N11q
                refine own_wt (T' := T11) (g' := (mkF m 231 #[.val (.int pa), .val (.int pb), .val (.int pc'), .val (.int pd), .val (.int fl), .val (.int ln1), .val (.int ln2), .val (.int cpy), .val (.int (((fl.toUInt32 >>> ((5 : Int32) &&& 31).toUInt32).toInt32) &&& (3 : Int32))), .val (.int x1), .val (.int y1), .val (.int x2), .val (.int y2), .val (.ref r1), .val (.ref r2), .val (.ref b3), .val (.ref b5), .val (.int (1 : Int32))] [(.int (if (own_mk ln2 x2 y2 = own_mk ln1 x1 y1) then (1 : Int32) else 0))])) st11 ?_
                refine own_ww (T' := T11) (g' := (mkF m 233 #[.val (.int pa), .val (.int pb), .val (.int pc'), .val (.int pd), .val (.int fl), .val (.int ln1), .val (.int ln2), .val (.int cpy), .val (.int (((fl.toUInt32 >>> ((5 : Int32) &&& 31).toUInt32).toInt32) &&& (3 : Int32))), .val (.int x1), .val (.int y1), .val (.int x2), .val (.int y2), .val (.ref r1), .val (.ref r2), .val (.ref b3), .val (.ref b5), .val (.int (1 : Int32))] [(.int (1 : Int32)), (.int (if (own_mk ln2 x2 y2 = own_mk ln1 x1 y1) then (1 : Int32) else 0))])) (fun _ k_ => XS.iload X11.here hx rfl (hb hby at_231) rfl k_) ?_
                refine own_ww (T' := T11) (g' := (mkF m 236 #[.val (.int pa), .val (.int pb), .val (.int pc'), .val (.int pd), .val (.int fl), .val (.int ln1), .val (.int ln2), .val (.int cpy), .val (.int (((fl.toUInt32 >>> ((5 : Int32) &&& 31).toUInt32).toInt32) &&& (3 : Int32))), .val (.int x1), .val (.int y1), .val (.int x2), .val (.int y2), .val (.ref r1), .val (.ref r2), .val (.ref b3), .val (.ref b5), .val (.int (1 : Int32))] [])) (fun _ k_ => XS.icmpNo X11.here hx rfl (hb hby at_233) rfl (teq (if_pos (hme.mpr (show (ln1 = ln2 ∧ (ln1 < (1 : Int32) ∨ x1 = x2) ∧ (ln1 < (2 : Int32) ∨ y1 = y2)) from ⟨hc147, (Or.inr hc160), (Or.inr hc173)⟩)))).2 k_) ?_
                refine own_ww (T' := T11) (g' := (mkF m 237 #[.val (.int pa), .val (.int pb), .val (.int pc'), .val (.int pd), .val (.int fl), .val (.int ln1), .val (.int ln2), .val (.int cpy), .val (.int (((fl.toUInt32 >>> ((5 : Int32) &&& 31).toUInt32).toInt32) &&& (3 : Int32))), .val (.int x1), .val (.int y1), .val (.int x2), .val (.int y2), .val (.ref r1), .val (.ref r2), .val (.ref b3), .val (.ref b5), .val (.int (1 : Int32))] [(.int (1 : Int32))])) (fun _ k_ => XS.iconst X11.here hx rfl (hb hby at_236) k_) ?_
                refine own_ww (T' := T11) (g' := (mkF m 241 #[.val (.int pa), .val (.int pb), .val (.int pc'), .val (.int pd), .val (.int fl), .val (.int ln1), .val (.int ln2), .val (.int cpy), .val (.int (((fl.toUInt32 >>> ((5 : Int32) &&& 31).toUInt32).toInt32) &&& (3 : Int32))), .val (.int x1), .val (.int y1), .val (.int x2), .val (.int y2), .val (.ref r1), .val (.ref r2), .val (.ref b3), .val (.ref b5), .val (.int (1 : Int32))] [(.int (1 : Int32))])) (fun _ k_ => XS.goto X11.here hx rfl (pc0 := 237) (pc' := 241) rfl (hb hby at_237) (by decide) (by decide) k_) ?_
                obtain ⟨fs, hr, hrun, hended, hRE⟩ := X11.leaveW (own_since hS2 CS6.2.1) (by rw [e11]; exact Nat.le_refl _) (v := some (.int (1 : Int32))) (fun h => by rw [Bd.returns] at h; cases h)
                exact ⟨_, _, retOut X11 hx Bd.returns rfl (Or.inl ⟨rfl, Or.inr (Or.inl rfl), _, rfl⟩) (hb hby at_241) hr, hrun, hended, _, _, rfl, (by show own_Q0 Z pa pb pc' pd fl cs h0 n0 _ T11.heap _; rw [e11]; exact ⟨rfl, N11⟩), (by show CHr Z own_EL s.vm s.heap T11.vm T11.heap; rw [e11, hh]; exact (CB2.trans CS6).trans (CHv.at X11 hZ2 (own_EW hw) CS6.1)), own_rmono hRE (by decide) (by decide)⟩
              · refine own_ww (T' := T6) (g' := (mkF m 180 #[.val (.int pa), .val (.int pb), .val (.int pc'), .val (.int pd), .val (.int fl), .val (.int ln1), .val (.int ln2), .val (.int cpy), .val (.int (((fl.toUInt32 >>> ((5 : Int32) &&& 31).toUInt32).toInt32) &&& (3 : Int32))), .val (.int x1), .val (.int y1), .val (.int x2), .val (.int y2), .val (.ref r1), .val (.ref r2), .val (.ref b3), .val (.ref b5), .unset] [])) (fun _ k_ => XS.icmpYes X6.here hx rfl (pc0 := 173) (pc' := 180) rfl (hb hby at_173) rfl (feq hc173).2 (by decide) (by decide) k_) ?_
                refine own_ww (T' := T6) (g' := (mkF m 181 #[.val (.int pa), .val (.int pb), .val (.int pc'), .val (.int pd), .val (.int fl), .val (.int ln1), .val (.int ln2), .val (.int cpy), .val (.int (((fl.toUInt32 >>> ((5 : Int32) &&& 31).toUInt32).toInt32) &&& (3 : Int32))), .val (.int x1), .val (.int y1), .val (.int x2), .val (.int y2), .val (.ref r1), .val (.ref r2), .val (.ref b3), .val (.ref b5), .unset] [(.int (0 : Int32))])) (fun _ k_ => XS.iconst X6.here hx rfl (hb hby at_180) k_) ?_
                refine own_ww (T' := T6) (g' := (mkF m 183 #[.val (.int pa), .val (.int pb), .val (.int pc'), .val (.int pd), .val (.int fl), .val (.int ln1), .val (.int ln2), .val (.int cpy), .val (.int (((fl.toUInt32 >>> ((5 : Int32) &&& 31).toUInt32).toInt32) &&& (3 : Int32))), .val (.int x1), .val (.int y1), .val (.int x2), .val (.int y2), .val (.ref r1), .val (.ref r2), .val (.ref b3), .val (.ref b5), .val (.int (0 : Int32))] [])) (fun _ k_ => XS.istore X6.here hx rfl (hb hby at_181) rfl (l' := #[.val (.int pa), .val (.int pb), .val (.int pc'), .val (.int pd), .val (.int fl), .val (.int ln1), .val (.int ln2), .val (.int cpy), .val (.int (((fl.toUInt32 >>> ((5 : Int32) &&& 31).toUInt32).toInt32) &&& (3 : Int32))), .val (.int x1), .val (.int y1), .val (.int x2), .val (.int y2), .val (.ref r1), .val (.ref r2), .val (.ref b3), .val (.ref b5), .val (.int (0 : Int32))]) rfl k_) ?_
                refine own_ww (T' := T6) (g' := (mkF m 224 #[.val (.int pa), .val (.int pb), .val (.int pc'), .val (.int pd), .val (.int fl), .val (.int ln1), .val (.int ln2), .val (.int cpy), .val (.int (((fl.toUInt32 >>> ((5 : Int32) &&& 31).toUInt32).toInt32) &&& (3 : Int32))), .val (.int x1), .val (.int y1), .val (.int x2), .val (.int y2), .val (.ref r1), .val (.ref r2), .val (.ref b3), .val (.ref b5), .val (.int (0 : Int32))] [])) (fun _ k_ => XS.goto X6.here hx rfl (pc0 := 183) (pc' := 224) rfl (hb hby at_183) (by decide) (by decide) k_) ?_
                refine own_ww (T' := T6) (g' := (mkF m 226 #[.val (.int pa), .val (.int pb), .val (.int pc'), .val (.int pd), .val (.int fl), .val (.int ln1), .val (.int ln2), .val (.int cpy), .val (.int (((fl.toUInt32 >>> ((5 : Int32) &&& 31).toUInt32).toInt32) &&& (3 : Int32))), .val (.int x1), .val (.int y1), .val (.int x2), .val (.int y2), .val (.ref r1), .val (.ref r2), .val (.ref b3), .val (.ref b5), .val (.int (0 : Int32))] [(.ref b3)])) (fun _ k_ => XS.aload X6.here hx rfl (hb hby at_224) rfl rfl k_) ?_
                refine own_ww (T' := T6) (g' := (mkF m 228 #[.val (.int pa), .val (.int pb), .val (.int pc'), .val (.int pd), .val (.int fl), .val (.int ln1), .val (.int ln2), .val (.int cpy), .val (.int (((fl.toUInt32 >>> ((5 : Int32) &&& 31).toUInt32).toInt32) &&& (3 : Int32))), .val (.int x1), .val (.int y1), .val (.int x2), .val (.int y2), .val (.ref r1), .val (.ref r2), .val (.ref b3), .val (.ref b5), .val (.int (0 : Int32))] [(.ref b5), (.ref b3)])) (fun _ k_ => XS.aload X6.here hx rfl (hb hby at_226) rfl rfl k_) ?_
                obtain ⟨cq12, kq12, q12a, q12b, q12c⟩ := isOf hZ2 e6 Eg1
                obtain ⟨_, _, ⟨T12, L12, k12, n12⟩, -, X12, ⟨Lc12, hQ12, l12, y12, z12⟩, st12⟩ := X6.virtualBack hx (y := (⟨"com/example/marshal_trust/marshaltrust/FunctionGroup", "equals", "(Ljava/lang/Object;)Z"⟩ : MethodName)) (z := (⟨"com/example/marshal_trust/marshaltrust/FunctionGroup", "equals", "(Ljava/lang/Object;)Z"⟩ : MethodName)) ho2 (mvT hZ2 (hw _ (List.mem_of_getElem? (i := 35) rfl))) (mvT hZ2 (hw _ (List.mem_of_getElem? (i := 36) rfl))) (notFace_of_selects (args := #[]) (mvT hZ2 (hw _ (List.mem_of_getElem? (i := 38) rfl)))) (mvT hZ2 (hw _ (List.mem_of_getElem? (i := 38) rfl))) (mvT hZ2 (hw _ (List.mem_of_getElem? (i := 37) rfl))) (by decide) (backOf (W := 0) (own_rm6_g l Z a0 hw [] b3 b5 r1 r2 _ _ cs h6 n0 Z6 Fg1 F6 Eg2 U1 U2 (own_mklen _ _ _) (own_mklen _ _ _) hcs S4) hZ2 (hw _ (List.mem_of_getElem? (i := 39) rfl)) (hw _ (List.mem_of_getElem? (i := 28) rfl)) (by decide) (by decide)) q12a q12c (g := (mkF m 228 #[.val (.int pa), .val (.int pb), .val (.int pc'), .val (.int pd), .val (.int fl), .val (.int ln1), .val (.int ln2), .val (.int cpy), .val (.int (((fl.toUInt32 >>> ((5 : Int32) &&& 31).toUInt32).toInt32) &&& (3 : Int32))), .val (.int x1), .val (.int y1), .val (.int x2), .val (.int y2), .val (.ref r1), .val (.ref r2), .val (.ref b3), .val (.ref b5), .val (.int (0 : Int32))] [(.ref b5), (.ref b3)])) rfl (by rw [hml]; rfl) (Steps.refl _) (argsL := [(.ref b5)]) (rest := []) (lenOf own_pd6 rfl) rfl (by show 2 * 0 + _ ≤ _; exact Nat.le_of_eq rfl) (hb hby at_228) (fun _ _ => ⟨rfl, e6, (by decide : 14 + 0 ≤ _), (by decide : 26 + 0 ≤ _)⟩)
                dsimp only [Pt.U, Pt.locs, Pt.cells, Pt.slots] at X12 l12 y12 z12 st12 hQ12
                subst l12 y12 z12
                obtain ⟨rfl, N12q, e12⟩ := hQ12
                have N12 := Fr.app N6 N12q
                refine own_wt (T' := T12) (g' := (mkF m 231 #[.val (.int pa), .val (.int pb), .val (.int pc'), .val (.int pd), .val (.int fl), .val (.int ln1), .val (.int ln2), .val (.int cpy), .val (.int (((fl.toUInt32 >>> ((5 : Int32) &&& 31).toUInt32).toInt32) &&& (3 : Int32))), .val (.int x1), .val (.int y1), .val (.int x2), .val (.int y2), .val (.ref r1), .val (.ref r2), .val (.ref b3), .val (.ref b5), .val (.int (0 : Int32))] [(.int (if (own_mk ln2 x2 y2 = own_mk ln1 x1 y1) then (1 : Int32) else 0))])) st12 ?_
                refine own_ww (T' := T12) (g' := (mkF m 233 #[.val (.int pa), .val (.int pb), .val (.int pc'), .val (.int pd), .val (.int fl), .val (.int ln1), .val (.int ln2), .val (.int cpy), .val (.int (((fl.toUInt32 >>> ((5 : Int32) &&& 31).toUInt32).toInt32) &&& (3 : Int32))), .val (.int x1), .val (.int y1), .val (.int x2), .val (.int y2), .val (.ref r1), .val (.ref r2), .val (.ref b3), .val (.ref b5), .val (.int (0 : Int32))] [(.int (0 : Int32)), (.int (if (own_mk ln2 x2 y2 = own_mk ln1 x1 y1) then (1 : Int32) else 0))])) (fun _ k_ => XS.iload X12.here hx rfl (hb hby at_231) rfl k_) ?_
                refine own_ww (T' := T12) (g' := (mkF m 236 #[.val (.int pa), .val (.int pb), .val (.int pc'), .val (.int pd), .val (.int fl), .val (.int ln1), .val (.int ln2), .val (.int cpy), .val (.int (((fl.toUInt32 >>> ((5 : Int32) &&& 31).toUInt32).toInt32) &&& (3 : Int32))), .val (.int x1), .val (.int y1), .val (.int x2), .val (.int y2), .val (.ref r1), .val (.ref r2), .val (.ref b3), .val (.ref b5), .val (.int (0 : Int32))] [])) (fun _ k_ => XS.icmpNo X12.here hx rfl (hb hby at_233) rfl (teq (if_neg (fun z => (show ¬ (ln1 = ln2 ∧ (ln1 < (1 : Int32) ∨ x1 = x2) ∧ (ln1 < (2 : Int32) ∨ y1 = y2)) from (fun q => (fun q => q.elim hc166 hc173) q.2.2)) (hme.mp z)))).2 k_) ?_
                refine own_ww (T' := T12) (g' := (mkF m 237 #[.val (.int pa), .val (.int pb), .val (.int pc'), .val (.int pd), .val (.int fl), .val (.int ln1), .val (.int ln2), .val (.int cpy), .val (.int (((fl.toUInt32 >>> ((5 : Int32) &&& 31).toUInt32).toInt32) &&& (3 : Int32))), .val (.int x1), .val (.int y1), .val (.int x2), .val (.int y2), .val (.ref r1), .val (.ref r2), .val (.ref b3), .val (.ref b5), .val (.int (0 : Int32))] [(.int (1 : Int32))])) (fun _ k_ => XS.iconst X12.here hx rfl (hb hby at_236) k_) ?_
                refine own_ww (T' := T12) (g' := (mkF m 241 #[.val (.int pa), .val (.int pb), .val (.int pc'), .val (.int pd), .val (.int fl), .val (.int ln1), .val (.int ln2), .val (.int cpy), .val (.int (((fl.toUInt32 >>> ((5 : Int32) &&& 31).toUInt32).toInt32) &&& (3 : Int32))), .val (.int x1), .val (.int y1), .val (.int x2), .val (.int y2), .val (.ref r1), .val (.ref r2), .val (.ref b3), .val (.ref b5), .val (.int (0 : Int32))] [(.int (1 : Int32))])) (fun _ k_ => XS.goto X12.here hx rfl (pc0 := 237) (pc' := 241) rfl (hb hby at_237) (by decide) (by decide) k_) ?_
                obtain ⟨fs, hr, hrun, hended, hRE⟩ := X12.leaveW (own_since hS2 CS6.2.1) (by rw [e12]; exact Nat.le_refl _) (v := some (.int (1 : Int32))) (fun h => by rw [Bd.returns] at h; cases h)
                exact ⟨_, _, retOut X12 hx Bd.returns rfl (Or.inl ⟨rfl, Or.inr (Or.inl rfl), _, rfl⟩) (hb hby at_241) hr, hrun, hended, _, _, rfl, (by show own_Q0 Z pa pb pc' pd fl cs h0 n0 _ T12.heap _; rw [e12]; exact ⟨rfl, N12⟩), (by show CHr Z own_EL s.vm s.heap T12.vm T12.heap; rw [e12, hh]; exact (CB2.trans CS6).trans (CHv.at X12 hZ2 (own_EW hw) CS6.1)), own_rmono hRE (by decide) (by decide)⟩
          · refine own_ww (T' := T6) (g' := (mkF m 180 #[.val (.int pa), .val (.int pb), .val (.int pc'), .val (.int pd), .val (.int fl), .val (.int ln1), .val (.int ln2), .val (.int cpy), .val (.int (((fl.toUInt32 >>> ((5 : Int32) &&& 31).toUInt32).toInt32) &&& (3 : Int32))), .val (.int x1), .val (.int y1), .val (.int x2), .val (.int y2), .val (.ref r1), .val (.ref r2), .val (.ref b3), .val (.ref b5), .unset] [])) (fun _ k_ => XS.icmpYes X6.here hx rfl (pc0 := 160) (pc' := 180) rfl (hb hby at_160) rfl (feq hc160).2 (by decide) (by decide) k_) ?_
            refine own_ww (T' := T6) (g' := (mkF m 181 #[.val (.int pa), .val (.int pb), .val (.int pc'), .val (.int pd), .val (.int fl), .val (.int ln1), .val (.int ln2), .val (.int cpy), .val (.int (((fl.toUInt32 >>> ((5 : Int32) &&& 31).toUInt32).toInt32) &&& (3 : Int32))), .val (.int x1), .val (.int y1), .val (.int x2), .val (.int y2), .val (.ref r1), .val (.ref r2), .val (.ref b3), .val (.ref b5), .unset] [(.int (0 : Int32))])) (fun _ k_ => XS.iconst X6.here hx rfl (hb hby at_180) k_) ?_
            refine own_ww (T' := T6) (g' := (mkF m 183 #[.val (.int pa), .val (.int pb), .val (.int pc'), .val (.int pd), .val (.int fl), .val (.int ln1), .val (.int ln2), .val (.int cpy), .val (.int (((fl.toUInt32 >>> ((5 : Int32) &&& 31).toUInt32).toInt32) &&& (3 : Int32))), .val (.int x1), .val (.int y1), .val (.int x2), .val (.int y2), .val (.ref r1), .val (.ref r2), .val (.ref b3), .val (.ref b5), .val (.int (0 : Int32))] [])) (fun _ k_ => XS.istore X6.here hx rfl (hb hby at_181) rfl (l' := #[.val (.int pa), .val (.int pb), .val (.int pc'), .val (.int pd), .val (.int fl), .val (.int ln1), .val (.int ln2), .val (.int cpy), .val (.int (((fl.toUInt32 >>> ((5 : Int32) &&& 31).toUInt32).toInt32) &&& (3 : Int32))), .val (.int x1), .val (.int y1), .val (.int x2), .val (.int y2), .val (.ref r1), .val (.ref r2), .val (.ref b3), .val (.ref b5), .val (.int (0 : Int32))]) rfl k_) ?_
            refine own_ww (T' := T6) (g' := (mkF m 224 #[.val (.int pa), .val (.int pb), .val (.int pc'), .val (.int pd), .val (.int fl), .val (.int ln1), .val (.int ln2), .val (.int cpy), .val (.int (((fl.toUInt32 >>> ((5 : Int32) &&& 31).toUInt32).toInt32) &&& (3 : Int32))), .val (.int x1), .val (.int y1), .val (.int x2), .val (.int y2), .val (.ref r1), .val (.ref r2), .val (.ref b3), .val (.ref b5), .val (.int (0 : Int32))] [])) (fun _ k_ => XS.goto X6.here hx rfl (pc0 := 183) (pc' := 224) rfl (hb hby at_183) (by decide) (by decide) k_) ?_
            refine own_ww (T' := T6) (g' := (mkF m 226 #[.val (.int pa), .val (.int pb), .val (.int pc'), .val (.int pd), .val (.int fl), .val (.int ln1), .val (.int ln2), .val (.int cpy), .val (.int (((fl.toUInt32 >>> ((5 : Int32) &&& 31).toUInt32).toInt32) &&& (3 : Int32))), .val (.int x1), .val (.int y1), .val (.int x2), .val (.int y2), .val (.ref r1), .val (.ref r2), .val (.ref b3), .val (.ref b5), .val (.int (0 : Int32))] [(.ref b3)])) (fun _ k_ => XS.aload X6.here hx rfl (hb hby at_224) rfl rfl k_) ?_
            refine own_ww (T' := T6) (g' := (mkF m 228 #[.val (.int pa), .val (.int pb), .val (.int pc'), .val (.int pd), .val (.int fl), .val (.int ln1), .val (.int ln2), .val (.int cpy), .val (.int (((fl.toUInt32 >>> ((5 : Int32) &&& 31).toUInt32).toInt32) &&& (3 : Int32))), .val (.int x1), .val (.int y1), .val (.int x2), .val (.int y2), .val (.ref r1), .val (.ref r2), .val (.ref b3), .val (.ref b5), .val (.int (0 : Int32))] [(.ref b5), (.ref b3)])) (fun _ k_ => XS.aload X6.here hx rfl (hb hby at_226) rfl rfl k_) ?_
            obtain ⟨cq13, kq13, q13a, q13b, q13c⟩ := isOf hZ2 e6 Eg1
            obtain ⟨_, _, ⟨T13, L13, k13, n13⟩, -, X13, ⟨Lc13, hQ13, l13, y13, z13⟩, st13⟩ := X6.virtualBack hx (y := (⟨"com/example/marshal_trust/marshaltrust/FunctionGroup", "equals", "(Ljava/lang/Object;)Z"⟩ : MethodName)) (z := (⟨"com/example/marshal_trust/marshaltrust/FunctionGroup", "equals", "(Ljava/lang/Object;)Z"⟩ : MethodName)) ho2 (mvT hZ2 (hw _ (List.mem_of_getElem? (i := 35) rfl))) (mvT hZ2 (hw _ (List.mem_of_getElem? (i := 36) rfl))) (notFace_of_selects (args := #[]) (mvT hZ2 (hw _ (List.mem_of_getElem? (i := 38) rfl)))) (mvT hZ2 (hw _ (List.mem_of_getElem? (i := 38) rfl))) (mvT hZ2 (hw _ (List.mem_of_getElem? (i := 37) rfl))) (by decide) (backOf (W := 0) (own_rm6_g l Z a0 hw [] b3 b5 r1 r2 _ _ cs h6 n0 Z6 Fg1 F6 Eg2 U1 U2 (own_mklen _ _ _) (own_mklen _ _ _) hcs S4) hZ2 (hw _ (List.mem_of_getElem? (i := 39) rfl)) (hw _ (List.mem_of_getElem? (i := 28) rfl)) (by decide) (by decide)) q13a q13c (g := (mkF m 228 #[.val (.int pa), .val (.int pb), .val (.int pc'), .val (.int pd), .val (.int fl), .val (.int ln1), .val (.int ln2), .val (.int cpy), .val (.int (((fl.toUInt32 >>> ((5 : Int32) &&& 31).toUInt32).toInt32) &&& (3 : Int32))), .val (.int x1), .val (.int y1), .val (.int x2), .val (.int y2), .val (.ref r1), .val (.ref r2), .val (.ref b3), .val (.ref b5), .val (.int (0 : Int32))] [(.ref b5), (.ref b3)])) rfl (by rw [hml]; rfl) (Steps.refl _) (argsL := [(.ref b5)]) (rest := []) (lenOf own_pd6 rfl) rfl (by show 2 * 0 + _ ≤ _; exact Nat.le_of_eq rfl) (hb hby at_228) (fun _ _ => ⟨rfl, e6, (by decide : 14 + 0 ≤ _), (by decide : 26 + 0 ≤ _)⟩)
            dsimp only [Pt.U, Pt.locs, Pt.cells, Pt.slots] at X13 l13 y13 z13 st13 hQ13
            subst l13 y13 z13
            obtain ⟨rfl, N13q, e13⟩ := hQ13
            have N13 := Fr.app N6 N13q
            refine own_wt (T' := T13) (g' := (mkF m 231 #[.val (.int pa), .val (.int pb), .val (.int pc'), .val (.int pd), .val (.int fl), .val (.int ln1), .val (.int ln2), .val (.int cpy), .val (.int (((fl.toUInt32 >>> ((5 : Int32) &&& 31).toUInt32).toInt32) &&& (3 : Int32))), .val (.int x1), .val (.int y1), .val (.int x2), .val (.int y2), .val (.ref r1), .val (.ref r2), .val (.ref b3), .val (.ref b5), .val (.int (0 : Int32))] [(.int (if (own_mk ln2 x2 y2 = own_mk ln1 x1 y1) then (1 : Int32) else 0))])) st13 ?_
            refine own_ww (T' := T13) (g' := (mkF m 233 #[.val (.int pa), .val (.int pb), .val (.int pc'), .val (.int pd), .val (.int fl), .val (.int ln1), .val (.int ln2), .val (.int cpy), .val (.int (((fl.toUInt32 >>> ((5 : Int32) &&& 31).toUInt32).toInt32) &&& (3 : Int32))), .val (.int x1), .val (.int y1), .val (.int x2), .val (.int y2), .val (.ref r1), .val (.ref r2), .val (.ref b3), .val (.ref b5), .val (.int (0 : Int32))] [(.int (0 : Int32)), (.int (if (own_mk ln2 x2 y2 = own_mk ln1 x1 y1) then (1 : Int32) else 0))])) (fun _ k_ => XS.iload X13.here hx rfl (hb hby at_231) rfl k_) ?_
            refine own_ww (T' := T13) (g' := (mkF m 236 #[.val (.int pa), .val (.int pb), .val (.int pc'), .val (.int pd), .val (.int fl), .val (.int ln1), .val (.int ln2), .val (.int cpy), .val (.int (((fl.toUInt32 >>> ((5 : Int32) &&& 31).toUInt32).toInt32) &&& (3 : Int32))), .val (.int x1), .val (.int y1), .val (.int x2), .val (.int y2), .val (.ref r1), .val (.ref r2), .val (.ref b3), .val (.ref b5), .val (.int (0 : Int32))] [])) (fun _ k_ => XS.icmpNo X13.here hx rfl (hb hby at_233) rfl (teq (if_neg (fun z => (show ¬ (ln1 = ln2 ∧ (ln1 < (1 : Int32) ∨ x1 = x2) ∧ (ln1 < (2 : Int32) ∨ y1 = y2)) from (fun q => (fun q => q.elim hc153 hc160) q.2.1)) (hme.mp z)))).2 k_) ?_
            refine own_ww (T' := T13) (g' := (mkF m 237 #[.val (.int pa), .val (.int pb), .val (.int pc'), .val (.int pd), .val (.int fl), .val (.int ln1), .val (.int ln2), .val (.int cpy), .val (.int (((fl.toUInt32 >>> ((5 : Int32) &&& 31).toUInt32).toInt32) &&& (3 : Int32))), .val (.int x1), .val (.int y1), .val (.int x2), .val (.int y2), .val (.ref r1), .val (.ref r2), .val (.ref b3), .val (.ref b5), .val (.int (0 : Int32))] [(.int (1 : Int32))])) (fun _ k_ => XS.iconst X13.here hx rfl (hb hby at_236) k_) ?_
            refine own_ww (T' := T13) (g' := (mkF m 241 #[.val (.int pa), .val (.int pb), .val (.int pc'), .val (.int pd), .val (.int fl), .val (.int ln1), .val (.int ln2), .val (.int cpy), .val (.int (((fl.toUInt32 >>> ((5 : Int32) &&& 31).toUInt32).toInt32) &&& (3 : Int32))), .val (.int x1), .val (.int y1), .val (.int x2), .val (.int y2), .val (.ref r1), .val (.ref r2), .val (.ref b3), .val (.ref b5), .val (.int (0 : Int32))] [(.int (1 : Int32))])) (fun _ k_ => XS.goto X13.here hx rfl (pc0 := 237) (pc' := 241) rfl (hb hby at_237) (by decide) (by decide) k_) ?_
            obtain ⟨fs, hr, hrun, hended, hRE⟩ := X13.leaveW (own_since hS2 CS6.2.1) (by rw [e13]; exact Nat.le_refl _) (v := some (.int (1 : Int32))) (fun h => by rw [Bd.returns] at h; cases h)
            exact ⟨_, _, retOut X13 hx Bd.returns rfl (Or.inl ⟨rfl, Or.inr (Or.inl rfl), _, rfl⟩) (hb hby at_241) hr, hrun, hended, _, _, rfl, (by show own_Q0 Z pa pb pc' pd fl cs h0 n0 _ T13.heap _; rw [e13]; exact ⟨rfl, N13⟩), (by show CHr Z own_EL s.vm s.heap T13.vm T13.heap; rw [e13, hh]; exact (CB2.trans CS6).trans (CHv.at X13 hZ2 (own_EW hw) CS6.1)), own_rmono hRE (by decide) (by decide)⟩
      · refine own_ww (T' := T6) (g' := (mkF m 180 #[.val (.int pa), .val (.int pb), .val (.int pc'), .val (.int pd), .val (.int fl), .val (.int ln1), .val (.int ln2), .val (.int cpy), .val (.int (((fl.toUInt32 >>> ((5 : Int32) &&& 31).toUInt32).toInt32) &&& (3 : Int32))), .val (.int x1), .val (.int y1), .val (.int x2), .val (.int y2), .val (.ref r1), .val (.ref r2), .val (.ref b3), .val (.ref b5), .unset] [])) (fun _ k_ => XS.icmpYes X6.here hx rfl (pc0 := 147) (pc' := 180) rfl (hb hby at_147) rfl (feq hc147).2 (by decide) (by decide) k_) ?_
        refine own_ww (T' := T6) (g' := (mkF m 181 #[.val (.int pa), .val (.int pb), .val (.int pc'), .val (.int pd), .val (.int fl), .val (.int ln1), .val (.int ln2), .val (.int cpy), .val (.int (((fl.toUInt32 >>> ((5 : Int32) &&& 31).toUInt32).toInt32) &&& (3 : Int32))), .val (.int x1), .val (.int y1), .val (.int x2), .val (.int y2), .val (.ref r1), .val (.ref r2), .val (.ref b3), .val (.ref b5), .unset] [(.int (0 : Int32))])) (fun _ k_ => XS.iconst X6.here hx rfl (hb hby at_180) k_) ?_
        refine own_ww (T' := T6) (g' := (mkF m 183 #[.val (.int pa), .val (.int pb), .val (.int pc'), .val (.int pd), .val (.int fl), .val (.int ln1), .val (.int ln2), .val (.int cpy), .val (.int (((fl.toUInt32 >>> ((5 : Int32) &&& 31).toUInt32).toInt32) &&& (3 : Int32))), .val (.int x1), .val (.int y1), .val (.int x2), .val (.int y2), .val (.ref r1), .val (.ref r2), .val (.ref b3), .val (.ref b5), .val (.int (0 : Int32))] [])) (fun _ k_ => XS.istore X6.here hx rfl (hb hby at_181) rfl (l' := #[.val (.int pa), .val (.int pb), .val (.int pc'), .val (.int pd), .val (.int fl), .val (.int ln1), .val (.int ln2), .val (.int cpy), .val (.int (((fl.toUInt32 >>> ((5 : Int32) &&& 31).toUInt32).toInt32) &&& (3 : Int32))), .val (.int x1), .val (.int y1), .val (.int x2), .val (.int y2), .val (.ref r1), .val (.ref r2), .val (.ref b3), .val (.ref b5), .val (.int (0 : Int32))]) rfl k_) ?_
        refine own_ww (T' := T6) (g' := (mkF m 224 #[.val (.int pa), .val (.int pb), .val (.int pc'), .val (.int pd), .val (.int fl), .val (.int ln1), .val (.int ln2), .val (.int cpy), .val (.int (((fl.toUInt32 >>> ((5 : Int32) &&& 31).toUInt32).toInt32) &&& (3 : Int32))), .val (.int x1), .val (.int y1), .val (.int x2), .val (.int y2), .val (.ref r1), .val (.ref r2), .val (.ref b3), .val (.ref b5), .val (.int (0 : Int32))] [])) (fun _ k_ => XS.goto X6.here hx rfl (pc0 := 183) (pc' := 224) rfl (hb hby at_183) (by decide) (by decide) k_) ?_
        refine own_ww (T' := T6) (g' := (mkF m 226 #[.val (.int pa), .val (.int pb), .val (.int pc'), .val (.int pd), .val (.int fl), .val (.int ln1), .val (.int ln2), .val (.int cpy), .val (.int (((fl.toUInt32 >>> ((5 : Int32) &&& 31).toUInt32).toInt32) &&& (3 : Int32))), .val (.int x1), .val (.int y1), .val (.int x2), .val (.int y2), .val (.ref r1), .val (.ref r2), .val (.ref b3), .val (.ref b5), .val (.int (0 : Int32))] [(.ref b3)])) (fun _ k_ => XS.aload X6.here hx rfl (hb hby at_224) rfl rfl k_) ?_
        refine own_ww (T' := T6) (g' := (mkF m 228 #[.val (.int pa), .val (.int pb), .val (.int pc'), .val (.int pd), .val (.int fl), .val (.int ln1), .val (.int ln2), .val (.int cpy), .val (.int (((fl.toUInt32 >>> ((5 : Int32) &&& 31).toUInt32).toInt32) &&& (3 : Int32))), .val (.int x1), .val (.int y1), .val (.int x2), .val (.int y2), .val (.ref r1), .val (.ref r2), .val (.ref b3), .val (.ref b5), .val (.int (0 : Int32))] [(.ref b5), (.ref b3)])) (fun _ k_ => XS.aload X6.here hx rfl (hb hby at_226) rfl rfl k_) ?_
        obtain ⟨cq14, kq14, q14a, q14b, q14c⟩ := isOf hZ2 e6 Eg1
        obtain ⟨_, _, ⟨T14, L14, k14, n14⟩, -, X14, ⟨Lc14, hQ14, l14, y14, z14⟩, st14⟩ := X6.virtualBack hx (y := (⟨"com/example/marshal_trust/marshaltrust/FunctionGroup", "equals", "(Ljava/lang/Object;)Z"⟩ : MethodName)) (z := (⟨"com/example/marshal_trust/marshaltrust/FunctionGroup", "equals", "(Ljava/lang/Object;)Z"⟩ : MethodName)) ho2 (mvT hZ2 (hw _ (List.mem_of_getElem? (i := 35) rfl))) (mvT hZ2 (hw _ (List.mem_of_getElem? (i := 36) rfl))) (notFace_of_selects (args := #[]) (mvT hZ2 (hw _ (List.mem_of_getElem? (i := 38) rfl)))) (mvT hZ2 (hw _ (List.mem_of_getElem? (i := 38) rfl))) (mvT hZ2 (hw _ (List.mem_of_getElem? (i := 37) rfl))) (by decide) (backOf (W := 0) (own_rm6_g l Z a0 hw [] b3 b5 r1 r2 _ _ cs h6 n0 Z6 Fg1 F6 Eg2 U1 U2 (own_mklen _ _ _) (own_mklen _ _ _) hcs S4) hZ2 (hw _ (List.mem_of_getElem? (i := 39) rfl)) (hw _ (List.mem_of_getElem? (i := 28) rfl)) (by decide) (by decide)) q14a q14c (g := (mkF m 228 #[.val (.int pa), .val (.int pb), .val (.int pc'), .val (.int pd), .val (.int fl), .val (.int ln1), .val (.int ln2), .val (.int cpy), .val (.int (((fl.toUInt32 >>> ((5 : Int32) &&& 31).toUInt32).toInt32) &&& (3 : Int32))), .val (.int x1), .val (.int y1), .val (.int x2), .val (.int y2), .val (.ref r1), .val (.ref r2), .val (.ref b3), .val (.ref b5), .val (.int (0 : Int32))] [(.ref b5), (.ref b3)])) rfl (by rw [hml]; rfl) (Steps.refl _) (argsL := [(.ref b5)]) (rest := []) (lenOf own_pd6 rfl) rfl (by show 2 * 0 + _ ≤ _; exact Nat.le_of_eq rfl) (hb hby at_228) (fun _ _ => ⟨rfl, e6, (by decide : 14 + 0 ≤ _), (by decide : 26 + 0 ≤ _)⟩)
        dsimp only [Pt.U, Pt.locs, Pt.cells, Pt.slots] at X14 l14 y14 z14 st14 hQ14
        subst l14 y14 z14
        obtain ⟨rfl, N14q, e14⟩ := hQ14
        have N14 := Fr.app N6 N14q
        refine own_wt (T' := T14) (g' := (mkF m 231 #[.val (.int pa), .val (.int pb), .val (.int pc'), .val (.int pd), .val (.int fl), .val (.int ln1), .val (.int ln2), .val (.int cpy), .val (.int (((fl.toUInt32 >>> ((5 : Int32) &&& 31).toUInt32).toInt32) &&& (3 : Int32))), .val (.int x1), .val (.int y1), .val (.int x2), .val (.int y2), .val (.ref r1), .val (.ref r2), .val (.ref b3), .val (.ref b5), .val (.int (0 : Int32))] [(.int (if (own_mk ln2 x2 y2 = own_mk ln1 x1 y1) then (1 : Int32) else 0))])) st14 ?_
        refine own_ww (T' := T14) (g' := (mkF m 233 #[.val (.int pa), .val (.int pb), .val (.int pc'), .val (.int pd), .val (.int fl), .val (.int ln1), .val (.int ln2), .val (.int cpy), .val (.int (((fl.toUInt32 >>> ((5 : Int32) &&& 31).toUInt32).toInt32) &&& (3 : Int32))), .val (.int x1), .val (.int y1), .val (.int x2), .val (.int y2), .val (.ref r1), .val (.ref r2), .val (.ref b3), .val (.ref b5), .val (.int (0 : Int32))] [(.int (0 : Int32)), (.int (if (own_mk ln2 x2 y2 = own_mk ln1 x1 y1) then (1 : Int32) else 0))])) (fun _ k_ => XS.iload X14.here hx rfl (hb hby at_231) rfl k_) ?_
        refine own_ww (T' := T14) (g' := (mkF m 236 #[.val (.int pa), .val (.int pb), .val (.int pc'), .val (.int pd), .val (.int fl), .val (.int ln1), .val (.int ln2), .val (.int cpy), .val (.int (((fl.toUInt32 >>> ((5 : Int32) &&& 31).toUInt32).toInt32) &&& (3 : Int32))), .val (.int x1), .val (.int y1), .val (.int x2), .val (.int y2), .val (.ref r1), .val (.ref r2), .val (.ref b3), .val (.ref b5), .val (.int (0 : Int32))] [])) (fun _ k_ => XS.icmpNo X14.here hx rfl (hb hby at_233) rfl (teq (if_neg (fun z => (show ¬ (ln1 = ln2 ∧ (ln1 < (1 : Int32) ∨ x1 = x2) ∧ (ln1 < (2 : Int32) ∨ y1 = y2)) from (fun q => hc147 q.1)) (hme.mp z)))).2 k_) ?_
        refine own_ww (T' := T14) (g' := (mkF m 237 #[.val (.int pa), .val (.int pb), .val (.int pc'), .val (.int pd), .val (.int fl), .val (.int ln1), .val (.int ln2), .val (.int cpy), .val (.int (((fl.toUInt32 >>> ((5 : Int32) &&& 31).toUInt32).toInt32) &&& (3 : Int32))), .val (.int x1), .val (.int y1), .val (.int x2), .val (.int y2), .val (.ref r1), .val (.ref r2), .val (.ref b3), .val (.ref b5), .val (.int (0 : Int32))] [(.int (1 : Int32))])) (fun _ k_ => XS.iconst X14.here hx rfl (hb hby at_236) k_) ?_
        refine own_ww (T' := T14) (g' := (mkF m 241 #[.val (.int pa), .val (.int pb), .val (.int pc'), .val (.int pd), .val (.int fl), .val (.int ln1), .val (.int ln2), .val (.int cpy), .val (.int (((fl.toUInt32 >>> ((5 : Int32) &&& 31).toUInt32).toInt32) &&& (3 : Int32))), .val (.int x1), .val (.int y1), .val (.int x2), .val (.int y2), .val (.ref r1), .val (.ref r2), .val (.ref b3), .val (.ref b5), .val (.int (0 : Int32))] [(.int (1 : Int32))])) (fun _ k_ => XS.goto X14.here hx rfl (pc0 := 237) (pc' := 241) rfl (hb hby at_237) (by decide) (by decide) k_) ?_
        obtain ⟨fs, hr, hrun, hended, hRE⟩ := X14.leaveW (own_since hS2 CS6.2.1) (by rw [e14]; exact Nat.le_refl _) (v := some (.int (1 : Int32))) (fun h => by rw [Bd.returns] at h; cases h)
        exact ⟨_, _, retOut X14 hx Bd.returns rfl (Or.inl ⟨rfl, Or.inr (Or.inl rfl), _, rfl⟩) (hb hby at_241) hr, hrun, hended, _, _, rfl, (by show own_Q0 Z pa pb pc' pd fl cs h0 n0 _ T14.heap _; rw [e14]; exact ⟨rfl, N14⟩), (by show CHr Z own_EL s.vm s.heap T14.vm T14.heap; rw [e14, hh]; exact (CB2.trans CS6).trans (CHv.at X14 hZ2 (own_EW hw) CS6.1)), own_rmono hRE (by decide) (by decide)⟩
    · refine own_ww (T' := T4) (g' := (mkF m 186 #[.val (.int pa), .val (.int pb), .val (.int pc'), .val (.int pd), .val (.int fl), .val (.int ln1), .val (.int ln2), .val (.int cpy), .val (.int (((fl.toUInt32 >>> ((5 : Int32) &&& 31).toUInt32).toInt32) &&& (3 : Int32))), .val (.int x1), .val (.int y1), .val (.int x2), .val (.int y2), .val (.ref r1), .val (.ref r2), .val (.ref b3), .unset, .unset] [])) (fun _ k_ => XS.ifYes X4.here hx rfl (pc0 := 129) (pc' := 186) rfl (hb hby at_129) rfl ((if0 _ _).trans (feq hc129).2) (by decide) (by decide) k_) ?_
      refine own_ww (T' := T4) (g' := (mkF m 188 #[.val (.int pa), .val (.int pb), .val (.int pc'), .val (.int pd), .val (.int fl), .val (.int ln1), .val (.int ln2), .val (.int cpy), .val (.int (((fl.toUInt32 >>> ((5 : Int32) &&& 31).toUInt32).toInt32) &&& (3 : Int32))), .val (.int x1), .val (.int y1), .val (.int x2), .val (.int y2), .val (.ref r1), .val (.ref r2), .val (.ref b3), .unset, .unset] [(.int (((fl.toUInt32 >>> ((5 : Int32) &&& 31).toUInt32).toInt32) &&& (3 : Int32)))])) (fun _ k_ => XS.iload X4.here hx rfl (hb hby at_186) rfl k_) ?_
      refine own_ww (T' := T4) (g' := (mkF m 189 #[.val (.int pa), .val (.int pb), .val (.int pc'), .val (.int pd), .val (.int fl), .val (.int ln1), .val (.int ln2), .val (.int cpy), .val (.int (((fl.toUInt32 >>> ((5 : Int32) &&& 31).toUInt32).toInt32) &&& (3 : Int32))), .val (.int x1), .val (.int y1), .val (.int x2), .val (.int y2), .val (.ref r1), .val (.ref r2), .val (.ref b3), .unset, .unset] [(.int (1 : Int32)), (.int (((fl.toUInt32 >>> ((5 : Int32) &&& 31).toUInt32).toInt32) &&& (3 : Int32)))])) (fun _ k_ => XS.iconst X4.here hx rfl (hb hby at_188) k_) ?_
      by_cases hc189 : (((fl.toUInt32 >>> ((5 : Int32) &&& 31).toUInt32).toInt32) &&& (3 : Int32)) = (1 : Int32)
      · refine own_ww (T' := T4) (g' := (mkF m 192 #[.val (.int pa), .val (.int pb), .val (.int pc'), .val (.int pd), .val (.int fl), .val (.int ln1), .val (.int ln2), .val (.int cpy), .val (.int (((fl.toUInt32 >>> ((5 : Int32) &&& 31).toUInt32).toInt32) &&& (3 : Int32))), .val (.int x1), .val (.int y1), .val (.int x2), .val (.int y2), .val (.ref r1), .val (.ref r2), .val (.ref b3), .unset, .unset] [])) (fun _ k_ => XS.icmpNo X4.here hx rfl (hb hby at_189) rfl (teq hc189).2 k_) ?_
        refine own_ww (T' := T4) (g' := (mkF m 193 #[.val (.int pa), .val (.int pb), .val (.int pc'), .val (.int pd), .val (.int fl), .val (.int ln1), .val (.int ln2), .val (.int cpy), .val (.int (((fl.toUInt32 >>> ((5 : Int32) &&& 31).toUInt32).toInt32) &&& (3 : Int32))), .val (.int x1), .val (.int y1), .val (.int x2), .val (.int y2), .val (.ref r1), .val (.ref r2), .val (.ref b3), .unset, .unset] [.null])) (fun _ k_ => XS.aconstNull X4.here hx rfl (hb hby at_192) k_) ?_
        refine own_ww (T' := T4) (g' := (mkF m 195 #[.val (.int pa), .val (.int pb), .val (.int pc'), .val (.int pd), .val (.int fl), .val (.int ln1), .val (.int ln2), .val (.int cpy), .val (.int (((fl.toUInt32 >>> ((5 : Int32) &&& 31).toUInt32).toInt32) &&& (3 : Int32))), .val (.int x1), .val (.int y1), .val (.int x2), .val (.int y2), .val (.ref r1), .val (.ref r2), .val (.ref b3), .val .null, .unset] [])) (fun _ k_ => XS.astore X4.here hx rfl (hb hby at_193) rfl rfl (l' := #[.val (.int pa), .val (.int pb), .val (.int pc'), .val (.int pd), .val (.int fl), .val (.int ln1), .val (.int ln2), .val (.int cpy), .val (.int (((fl.toUInt32 >>> ((5 : Int32) &&& 31).toUInt32).toInt32) &&& (3 : Int32))), .val (.int x1), .val (.int y1), .val (.int x2), .val (.int y2), .val (.ref r1), .val (.ref r2), .val (.ref b3), .val .null, .unset]) rfl k_) ?_
        refine own_ww (T' := T4) (g' := (mkF m 196 #[.val (.int pa), .val (.int pb), .val (.int pc'), .val (.int pd), .val (.int fl), .val (.int ln1), .val (.int ln2), .val (.int cpy), .val (.int (((fl.toUInt32 >>> ((5 : Int32) &&& 31).toUInt32).toInt32) &&& (3 : Int32))), .val (.int x1), .val (.int y1), .val (.int x2), .val (.int y2), .val (.ref r1), .val (.ref r2), .val (.ref b3), .val .null, .unset] [(.int (0 : Int32))])) (fun _ k_ => XS.iconst X4.here hx rfl (hb hby at_195) k_) ?_
        refine own_ww (T' := T4) (g' := (mkF m 198 #[.val (.int pa), .val (.int pb), .val (.int pc'), .val (.int pd), .val (.int fl), .val (.int ln1), .val (.int ln2), .val (.int cpy), .val (.int (((fl.toUInt32 >>> ((5 : Int32) &&& 31).toUInt32).toInt32) &&& (3 : Int32))), .val (.int x1), .val (.int y1), .val (.int x2), .val (.int y2), .val (.ref r1), .val (.ref r2), .val (.ref b3), .val .null, .val (.int (0 : Int32))] [])) (fun _ k_ => XS.istore X4.here hx rfl (hb hby at_196) rfl (l' := #[.val (.int pa), .val (.int pb), .val (.int pc'), .val (.int pd), .val (.int fl), .val (.int ln1), .val (.int ln2), .val (.int cpy), .val (.int (((fl.toUInt32 >>> ((5 : Int32) &&& 31).toUInt32).toInt32) &&& (3 : Int32))), .val (.int x1), .val (.int y1), .val (.int x2), .val (.int y2), .val (.ref r1), .val (.ref r2), .val (.ref b3), .val .null, .val (.int (0 : Int32))]) rfl k_) ?_
        refine own_ww (T' := T4) (g' := (mkF m 224 #[.val (.int pa), .val (.int pb), .val (.int pc'), .val (.int pd), .val (.int fl), .val (.int ln1), .val (.int ln2), .val (.int cpy), .val (.int (((fl.toUInt32 >>> ((5 : Int32) &&& 31).toUInt32).toInt32) &&& (3 : Int32))), .val (.int x1), .val (.int y1), .val (.int x2), .val (.int y2), .val (.ref r1), .val (.ref r2), .val (.ref b3), .val .null, .val (.int (0 : Int32))] [])) (fun _ k_ => XS.goto X4.here hx rfl (pc0 := 198) (pc' := 224) rfl (hb hby at_198) (by decide) (by decide) k_) ?_
        refine own_ww (T' := T4) (g' := (mkF m 226 #[.val (.int pa), .val (.int pb), .val (.int pc'), .val (.int pd), .val (.int fl), .val (.int ln1), .val (.int ln2), .val (.int cpy), .val (.int (((fl.toUInt32 >>> ((5 : Int32) &&& 31).toUInt32).toInt32) &&& (3 : Int32))), .val (.int x1), .val (.int y1), .val (.int x2), .val (.int y2), .val (.ref r1), .val (.ref r2), .val (.ref b3), .val .null, .val (.int (0 : Int32))] [(.ref b3)])) (fun _ k_ => XS.aload X4.here hx rfl (hb hby at_224) rfl rfl k_) ?_
        refine own_ww (T' := T4) (g' := (mkF m 228 #[.val (.int pa), .val (.int pb), .val (.int pc'), .val (.int pd), .val (.int fl), .val (.int ln1), .val (.int ln2), .val (.int cpy), .val (.int (((fl.toUInt32 >>> ((5 : Int32) &&& 31).toUInt32).toInt32) &&& (3 : Int32))), .val (.int x1), .val (.int y1), .val (.int x2), .val (.int y2), .val (.ref r1), .val (.ref r2), .val (.ref b3), .val .null, .val (.int (0 : Int32))] [.null, (.ref b3)])) (fun _ k_ => XS.aload X4.here hx rfl (hb hby at_226) rfl rfl k_) ?_
        obtain ⟨cq15, kq15, q15a, q15b, q15c⟩ := isOf hZ2 e4 Eg
        obtain ⟨_, _, ⟨T15, L15, k15, n15⟩, -, X15, ⟨Lc15, hQ15, l15, y15, z15⟩, st15⟩ := X4.virtualBack hx (y := (⟨"com/example/marshal_trust/marshaltrust/FunctionGroup", "equals", "(Ljava/lang/Object;)Z"⟩ : MethodName)) (z := (⟨"com/example/marshal_trust/marshaltrust/FunctionGroup", "equals", "(Ljava/lang/Object;)Z"⟩ : MethodName)) ho2 (mvT hZ2 (hw _ (List.mem_of_getElem? (i := 35) rfl))) (mvT hZ2 (hw _ (List.mem_of_getElem? (i := 36) rfl))) (notFace_of_selects (args := #[]) (mvT hZ2 (hw _ (List.mem_of_getElem? (i := 38) rfl)))) (mvT hZ2 (hw _ (List.mem_of_getElem? (i := 38) rfl))) (mvT hZ2 (hw _ (List.mem_of_getElem? (i := 37) rfl))) (by decide) (backOf (W := 0) (own_rm6_n l Z a0 hw [] b3  h4 n0 Z4 ) hZ2 (hw _ (List.mem_of_getElem? (i := 39) rfl)) (hw _ (List.mem_of_getElem? (i := 28) rfl)) (by decide) (by decide)) q15a q15c (g := (mkF m 228 #[.val (.int pa), .val (.int pb), .val (.int pc'), .val (.int pd), .val (.int fl), .val (.int ln1), .val (.int ln2), .val (.int cpy), .val (.int (((fl.toUInt32 >>> ((5 : Int32) &&& 31).toUInt32).toInt32) &&& (3 : Int32))), .val (.int x1), .val (.int y1), .val (.int x2), .val (.int y2), .val (.ref r1), .val (.ref r2), .val (.ref b3), .val .null, .val (.int (0 : Int32))] [.null, (.ref b3)])) rfl (by rw [hml]; rfl) (Steps.refl _) (argsL := [.null]) (rest := []) (lenOf own_pd6 rfl) rfl (by show 2 * 0 + _ ≤ _; exact Nat.le_of_eq rfl) (hb hby at_228) (fun _ _ => ⟨rfl, e4, (by decide : 13 + 0 ≤ _), (by decide : 25 + 0 ≤ _)⟩)
        dsimp only [Pt.U, Pt.locs, Pt.cells, Pt.slots] at X15 l15 y15 z15 st15 hQ15
        subst l15 y15 z15
        obtain ⟨rfl, N15q, e15⟩ := hQ15
        have N15 := Fr.app N4 N15q
        refine own_wt (T' := T15) (g' := (mkF m 231 #[.val (.int pa), .val (.int pb), .val (.int pc'), .val (.int pd), .val (.int fl), .val (.int ln1), .val (.int ln2), .val (.int cpy), .val (.int (((fl.toUInt32 >>> ((5 : Int32) &&& 31).toUInt32).toInt32) &&& (3 : Int32))), .val (.int x1), .val (.int y1), .val (.int x2), .val (.int y2), .val (.ref r1), .val (.ref r2), .val (.ref b3), .val .null, .val (.int (0 : Int32))] [(.int (0 : Int32))])) st15 ?_
        refine own_ww (T' := T15) (g' := (mkF m 233 #[.val (.int pa), .val (.int pb), .val (.int pc'), .val (.int pd), .val (.int fl), .val (.int ln1), .val (.int ln2), .val (.int cpy), .val (.int (((fl.toUInt32 >>> ((5 : Int32) &&& 31).toUInt32).toInt32) &&& (3 : Int32))), .val (.int x1), .val (.int y1), .val (.int x2), .val (.int y2), .val (.ref r1), .val (.ref r2), .val (.ref b3), .val .null, .val (.int (0 : Int32))] [(.int (0 : Int32)), (.int (0 : Int32))])) (fun _ k_ => XS.iload X15.here hx rfl (hb hby at_231) rfl k_) ?_
        refine own_ww (T' := T15) (g' := (mkF m 236 #[.val (.int pa), .val (.int pb), .val (.int pc'), .val (.int pd), .val (.int fl), .val (.int ln1), .val (.int ln2), .val (.int cpy), .val (.int (((fl.toUInt32 >>> ((5 : Int32) &&& 31).toUInt32).toInt32) &&& (3 : Int32))), .val (.int x1), .val (.int y1), .val (.int x2), .val (.int y2), .val (.ref r1), .val (.ref r2), .val (.ref b3), .val .null, .val (.int (0 : Int32))] [])) (fun _ k_ => XS.icmpNo X15.here hx rfl (hb hby at_233) rfl (teq rfl).2 k_) ?_
        refine own_ww (T' := T15) (g' := (mkF m 237 #[.val (.int pa), .val (.int pb), .val (.int pc'), .val (.int pd), .val (.int fl), .val (.int ln1), .val (.int ln2), .val (.int cpy), .val (.int (((fl.toUInt32 >>> ((5 : Int32) &&& 31).toUInt32).toInt32) &&& (3 : Int32))), .val (.int x1), .val (.int y1), .val (.int x2), .val (.int y2), .val (.ref r1), .val (.ref r2), .val (.ref b3), .val .null, .val (.int (0 : Int32))] [(.int (1 : Int32))])) (fun _ k_ => XS.iconst X15.here hx rfl (hb hby at_236) k_) ?_
        refine own_ww (T' := T15) (g' := (mkF m 241 #[.val (.int pa), .val (.int pb), .val (.int pc'), .val (.int pd), .val (.int fl), .val (.int ln1), .val (.int ln2), .val (.int cpy), .val (.int (((fl.toUInt32 >>> ((5 : Int32) &&& 31).toUInt32).toInt32) &&& (3 : Int32))), .val (.int x1), .val (.int y1), .val (.int x2), .val (.int y2), .val (.ref r1), .val (.ref r2), .val (.ref b3), .val .null, .val (.int (0 : Int32))] [(.int (1 : Int32))])) (fun _ k_ => XS.goto X15.here hx rfl (pc0 := 237) (pc' := 241) rfl (hb hby at_237) (by decide) (by decide) k_) ?_
        obtain ⟨fs, hr, hrun, hended, hRE⟩ := X15.leaveW (own_since hS2 CS4.2.1) (by rw [e15]; exact Nat.le_refl _) (v := some (.int (1 : Int32))) (fun h => by rw [Bd.returns] at h; cases h)
        exact ⟨_, _, retOut X15 hx Bd.returns rfl (Or.inl ⟨rfl, Or.inr (Or.inl rfl), _, rfl⟩) (hb hby at_241) hr, hrun, hended, _, _, rfl, (by show own_Q0 Z pa pb pc' pd fl cs h0 n0 _ T15.heap _; rw [e15]; exact ⟨rfl, N15⟩), (by show CHr Z own_EL s.vm s.heap T15.vm T15.heap; rw [e15, hh]; exact (CB2.trans CS4).trans (CHv.at X15 hZ2 (own_EW hw) CS4.1)), own_rmono hRE (by decide) (by decide)⟩
      · refine own_ww (T' := T4) (g' := (mkF m 201 #[.val (.int pa), .val (.int pb), .val (.int pc'), .val (.int pd), .val (.int fl), .val (.int ln1), .val (.int ln2), .val (.int cpy), .val (.int (((fl.toUInt32 >>> ((5 : Int32) &&& 31).toUInt32).toInt32) &&& (3 : Int32))), .val (.int x1), .val (.int y1), .val (.int x2), .val (.int y2), .val (.ref r1), .val (.ref r2), .val (.ref b3), .unset, .unset] [])) (fun _ k_ => XS.icmpYes X4.here hx rfl (pc0 := 189) (pc' := 201) rfl (hb hby at_189) rfl (feq hc189).2 (by decide) (by decide) k_) ?_
        refine own_ww (T' := T4) (g' := (mkF m 203 #[.val (.int pa), .val (.int pb), .val (.int pc'), .val (.int pd), .val (.int fl), .val (.int ln1), .val (.int ln2), .val (.int cpy), .val (.int (((fl.toUInt32 >>> ((5 : Int32) &&& 31).toUInt32).toInt32) &&& (3 : Int32))), .val (.int x1), .val (.int y1), .val (.int x2), .val (.int y2), .val (.ref r1), .val (.ref r2), .val (.ref b3), .unset, .unset] [(.int (((fl.toUInt32 >>> ((5 : Int32) &&& 31).toUInt32).toInt32) &&& (3 : Int32)))])) (fun _ k_ => XS.iload X4.here hx rfl (hb hby at_201) rfl k_) ?_
        refine own_ww (T' := T4) (g' := (mkF m 204 #[.val (.int pa), .val (.int pb), .val (.int pc'), .val (.int pd), .val (.int fl), .val (.int ln1), .val (.int ln2), .val (.int cpy), .val (.int (((fl.toUInt32 >>> ((5 : Int32) &&& 31).toUInt32).toInt32) &&& (3 : Int32))), .val (.int x1), .val (.int y1), .val (.int x2), .val (.int y2), .val (.ref r1), .val (.ref r2), .val (.ref b3), .unset, .unset] [(.int (2 : Int32)), (.int (((fl.toUInt32 >>> ((5 : Int32) &&& 31).toUInt32).toInt32) &&& (3 : Int32)))])) (fun _ k_ => XS.iconst X4.here hx rfl (hb hby at_203) k_) ?_
        by_cases hc204 : (((fl.toUInt32 >>> ((5 : Int32) &&& 31).toUInt32).toInt32) &&& (3 : Int32)) = (2 : Int32)
        · refine own_ww (T' := T4) (g' := (mkF m 207 #[.val (.int pa), .val (.int pb), .val (.int pc'), .val (.int pd), .val (.int fl), .val (.int ln1), .val (.int ln2), .val (.int cpy), .val (.int (((fl.toUInt32 >>> ((5 : Int32) &&& 31).toUInt32).toInt32) &&& (3 : Int32))), .val (.int x1), .val (.int y1), .val (.int x2), .val (.int y2), .val (.ref r1), .val (.ref r2), .val (.ref b3), .unset, .unset] [])) (fun _ k_ => XS.icmpNo X4.here hx rfl (hb hby at_204) rfl (teq hc204).2 k_) ?_
          refine own_ww (T' := T4) (g' := (mkF m 209 #[.val (.int pa), .val (.int pb), .val (.int pc'), .val (.int pd), .val (.int fl), .val (.int ln1), .val (.int ln2), .val (.int cpy), .val (.int (((fl.toUInt32 >>> ((5 : Int32) &&& 31).toUInt32).toInt32) &&& (3 : Int32))), .val (.int x1), .val (.int y1), .val (.int x2), .val (.int y2), .val (.ref r1), .val (.ref r2), .val (.ref b3), .unset, .unset] [(.ref r1)])) (fun _ k_ => XS.aload X4.here hx rfl (hb hby at_207) rfl rfl k_) ?_
          refine own_ww (T' := T4) (g' := (mkF m 211 #[.val (.int pa), .val (.int pb), .val (.int pc'), .val (.int pd), .val (.int fl), .val (.int ln1), .val (.int ln2), .val (.int cpy), .val (.int (((fl.toUInt32 >>> ((5 : Int32) &&& 31).toUInt32).toInt32) &&& (3 : Int32))), .val (.int x1), .val (.int y1), .val (.int x2), .val (.int y2), .val (.ref r1), .val (.ref r2), .val (.ref b3), .val (.ref r1), .unset] [])) (fun _ k_ => XS.astore X4.here hx rfl (hb hby at_209) rfl rfl (l' := #[.val (.int pa), .val (.int pb), .val (.int pc'), .val (.int pd), .val (.int fl), .val (.int ln1), .val (.int ln2), .val (.int cpy), .val (.int (((fl.toUInt32 >>> ((5 : Int32) &&& 31).toUInt32).toInt32) &&& (3 : Int32))), .val (.int x1), .val (.int y1), .val (.int x2), .val (.int y2), .val (.ref r1), .val (.ref r2), .val (.ref b3), .val (.ref r1), .unset]) rfl k_) ?_
          refine own_ww (T' := T4) (g' := (mkF m 212 #[.val (.int pa), .val (.int pb), .val (.int pc'), .val (.int pd), .val (.int fl), .val (.int ln1), .val (.int ln2), .val (.int cpy), .val (.int (((fl.toUInt32 >>> ((5 : Int32) &&& 31).toUInt32).toInt32) &&& (3 : Int32))), .val (.int x1), .val (.int y1), .val (.int x2), .val (.int y2), .val (.ref r1), .val (.ref r2), .val (.ref b3), .val (.ref r1), .unset] [(.int (0 : Int32))])) (fun _ k_ => XS.iconst X4.here hx rfl (hb hby at_211) k_) ?_
          refine own_ww (T' := T4) (g' := (mkF m 214 #[.val (.int pa), .val (.int pb), .val (.int pc'), .val (.int pd), .val (.int fl), .val (.int ln1), .val (.int ln2), .val (.int cpy), .val (.int (((fl.toUInt32 >>> ((5 : Int32) &&& 31).toUInt32).toInt32) &&& (3 : Int32))), .val (.int x1), .val (.int y1), .val (.int x2), .val (.int y2), .val (.ref r1), .val (.ref r2), .val (.ref b3), .val (.ref r1), .val (.int (0 : Int32))] [])) (fun _ k_ => XS.istore X4.here hx rfl (hb hby at_212) rfl (l' := #[.val (.int pa), .val (.int pb), .val (.int pc'), .val (.int pd), .val (.int fl), .val (.int ln1), .val (.int ln2), .val (.int cpy), .val (.int (((fl.toUInt32 >>> ((5 : Int32) &&& 31).toUInt32).toInt32) &&& (3 : Int32))), .val (.int x1), .val (.int y1), .val (.int x2), .val (.int y2), .val (.ref r1), .val (.ref r2), .val (.ref b3), .val (.ref r1), .val (.int (0 : Int32))]) rfl k_) ?_
          refine own_ww (T' := T4) (g' := (mkF m 224 #[.val (.int pa), .val (.int pb), .val (.int pc'), .val (.int pd), .val (.int fl), .val (.int ln1), .val (.int ln2), .val (.int cpy), .val (.int (((fl.toUInt32 >>> ((5 : Int32) &&& 31).toUInt32).toInt32) &&& (3 : Int32))), .val (.int x1), .val (.int y1), .val (.int x2), .val (.int y2), .val (.ref r1), .val (.ref r2), .val (.ref b3), .val (.ref r1), .val (.int (0 : Int32))] [])) (fun _ k_ => XS.goto X4.here hx rfl (pc0 := 214) (pc' := 224) rfl (hb hby at_214) (by decide) (by decide) k_) ?_
          refine own_ww (T' := T4) (g' := (mkF m 226 #[.val (.int pa), .val (.int pb), .val (.int pc'), .val (.int pd), .val (.int fl), .val (.int ln1), .val (.int ln2), .val (.int cpy), .val (.int (((fl.toUInt32 >>> ((5 : Int32) &&& 31).toUInt32).toInt32) &&& (3 : Int32))), .val (.int x1), .val (.int y1), .val (.int x2), .val (.int y2), .val (.ref r1), .val (.ref r2), .val (.ref b3), .val (.ref r1), .val (.int (0 : Int32))] [(.ref b3)])) (fun _ k_ => XS.aload X4.here hx rfl (hb hby at_224) rfl rfl k_) ?_
          refine own_ww (T' := T4) (g' := (mkF m 228 #[.val (.int pa), .val (.int pb), .val (.int pc'), .val (.int pd), .val (.int fl), .val (.int ln1), .val (.int ln2), .val (.int cpy), .val (.int (((fl.toUInt32 >>> ((5 : Int32) &&& 31).toUInt32).toInt32) &&& (3 : Int32))), .val (.int x1), .val (.int y1), .val (.int x2), .val (.int y2), .val (.ref r1), .val (.ref r2), .val (.ref b3), .val (.ref r1), .val (.int (0 : Int32))] [(.ref r1), (.ref b3)])) (fun _ k_ => XS.aload X4.here hx rfl (hb hby at_226) rfl rfl k_) ?_
          obtain ⟨cq16, kq16, q16a, q16b, q16c⟩ := isOf hZ2 e4 Eg
          obtain ⟨_, _, ⟨T16, L16, k16, n16⟩, -, X16, ⟨Lc16, hQ16, l16, y16, z16⟩, st16⟩ := X4.virtualBack hx (y := (⟨"com/example/marshal_trust/marshaltrust/FunctionGroup", "equals", "(Ljava/lang/Object;)Z"⟩ : MethodName)) (z := (⟨"com/example/marshal_trust/marshaltrust/FunctionGroup", "equals", "(Ljava/lang/Object;)Z"⟩ : MethodName)) ho2 (mvT hZ2 (hw _ (List.mem_of_getElem? (i := 35) rfl))) (mvT hZ2 (hw _ (List.mem_of_getElem? (i := 36) rfl))) (notFace_of_selects (args := #[]) (mvT hZ2 (hw _ (List.mem_of_getElem? (i := 38) rfl)))) (mvT hZ2 (hw _ (List.mem_of_getElem? (i := 38) rfl))) (mvT hZ2 (hw _ (List.mem_of_getElem? (i := 37) rfl))) (by decide) (backOf (W := 0) (own_rm6_s l Z a0 hw [] b3 r1  h4 n0 Z4 TS1.1) hZ2 (hw _ (List.mem_of_getElem? (i := 39) rfl)) (hw _ (List.mem_of_getElem? (i := 28) rfl)) (by decide) (by decide)) q16a q16c (g := (mkF m 228 #[.val (.int pa), .val (.int pb), .val (.int pc'), .val (.int pd), .val (.int fl), .val (.int ln1), .val (.int ln2), .val (.int cpy), .val (.int (((fl.toUInt32 >>> ((5 : Int32) &&& 31).toUInt32).toInt32) &&& (3 : Int32))), .val (.int x1), .val (.int y1), .val (.int x2), .val (.int y2), .val (.ref r1), .val (.ref r2), .val (.ref b3), .val (.ref r1), .val (.int (0 : Int32))] [(.ref r1), (.ref b3)])) rfl (by rw [hml]; rfl) (Steps.refl _) (argsL := [(.ref r1)]) (rest := []) (lenOf own_pd6 rfl) rfl (by show 2 * 0 + _ ≤ _; exact Nat.le_of_eq rfl) (hb hby at_228) (fun _ _ => ⟨rfl, e4, (by decide : 13 + 0 ≤ _), (by decide : 25 + 0 ≤ _)⟩)
          dsimp only [Pt.U, Pt.locs, Pt.cells, Pt.slots] at X16 l16 y16 z16 st16 hQ16
          subst l16 y16 z16
          obtain ⟨rfl, N16q, e16⟩ := hQ16
          have N16 := Fr.app N4 N16q
          refine own_wt (T' := T16) (g' := (mkF m 231 #[.val (.int pa), .val (.int pb), .val (.int pc'), .val (.int pd), .val (.int fl), .val (.int ln1), .val (.int ln2), .val (.int cpy), .val (.int (((fl.toUInt32 >>> ((5 : Int32) &&& 31).toUInt32).toInt32) &&& (3 : Int32))), .val (.int x1), .val (.int y1), .val (.int x2), .val (.int y2), .val (.ref r1), .val (.ref r2), .val (.ref b3), .val (.ref r1), .val (.int (0 : Int32))] [(.int (0 : Int32))])) st16 ?_
          refine own_ww (T' := T16) (g' := (mkF m 233 #[.val (.int pa), .val (.int pb), .val (.int pc'), .val (.int pd), .val (.int fl), .val (.int ln1), .val (.int ln2), .val (.int cpy), .val (.int (((fl.toUInt32 >>> ((5 : Int32) &&& 31).toUInt32).toInt32) &&& (3 : Int32))), .val (.int x1), .val (.int y1), .val (.int x2), .val (.int y2), .val (.ref r1), .val (.ref r2), .val (.ref b3), .val (.ref r1), .val (.int (0 : Int32))] [(.int (0 : Int32)), (.int (0 : Int32))])) (fun _ k_ => XS.iload X16.here hx rfl (hb hby at_231) rfl k_) ?_
          refine own_ww (T' := T16) (g' := (mkF m 236 #[.val (.int pa), .val (.int pb), .val (.int pc'), .val (.int pd), .val (.int fl), .val (.int ln1), .val (.int ln2), .val (.int cpy), .val (.int (((fl.toUInt32 >>> ((5 : Int32) &&& 31).toUInt32).toInt32) &&& (3 : Int32))), .val (.int x1), .val (.int y1), .val (.int x2), .val (.int y2), .val (.ref r1), .val (.ref r2), .val (.ref b3), .val (.ref r1), .val (.int (0 : Int32))] [])) (fun _ k_ => XS.icmpNo X16.here hx rfl (hb hby at_233) rfl (teq rfl).2 k_) ?_
          refine own_ww (T' := T16) (g' := (mkF m 237 #[.val (.int pa), .val (.int pb), .val (.int pc'), .val (.int pd), .val (.int fl), .val (.int ln1), .val (.int ln2), .val (.int cpy), .val (.int (((fl.toUInt32 >>> ((5 : Int32) &&& 31).toUInt32).toInt32) &&& (3 : Int32))), .val (.int x1), .val (.int y1), .val (.int x2), .val (.int y2), .val (.ref r1), .val (.ref r2), .val (.ref b3), .val (.ref r1), .val (.int (0 : Int32))] [(.int (1 : Int32))])) (fun _ k_ => XS.iconst X16.here hx rfl (hb hby at_236) k_) ?_
          refine own_ww (T' := T16) (g' := (mkF m 241 #[.val (.int pa), .val (.int pb), .val (.int pc'), .val (.int pd), .val (.int fl), .val (.int ln1), .val (.int ln2), .val (.int cpy), .val (.int (((fl.toUInt32 >>> ((5 : Int32) &&& 31).toUInt32).toInt32) &&& (3 : Int32))), .val (.int x1), .val (.int y1), .val (.int x2), .val (.int y2), .val (.ref r1), .val (.ref r2), .val (.ref b3), .val (.ref r1), .val (.int (0 : Int32))] [(.int (1 : Int32))])) (fun _ k_ => XS.goto X16.here hx rfl (pc0 := 237) (pc' := 241) rfl (hb hby at_237) (by decide) (by decide) k_) ?_
          obtain ⟨fs, hr, hrun, hended, hRE⟩ := X16.leaveW (own_since hS2 CS4.2.1) (by rw [e16]; exact Nat.le_refl _) (v := some (.int (1 : Int32))) (fun h => by rw [Bd.returns] at h; cases h)
          exact ⟨_, _, retOut X16 hx Bd.returns rfl (Or.inl ⟨rfl, Or.inr (Or.inl rfl), _, rfl⟩) (hb hby at_241) hr, hrun, hended, _, _, rfl, (by show own_Q0 Z pa pb pc' pd fl cs h0 n0 _ T16.heap _; rw [e16]; exact ⟨rfl, N16⟩), (by show CHr Z own_EL s.vm s.heap T16.vm T16.heap; rw [e16, hh]; exact (CB2.trans CS4).trans (CHv.at X16 hZ2 (own_EW hw) CS4.1)), own_rmono hRE (by decide) (by decide)⟩
        · refine own_ww (T' := T4) (g' := (mkF m 217 #[.val (.int pa), .val (.int pb), .val (.int pc'), .val (.int pd), .val (.int fl), .val (.int ln1), .val (.int ln2), .val (.int cpy), .val (.int (((fl.toUInt32 >>> ((5 : Int32) &&& 31).toUInt32).toInt32) &&& (3 : Int32))), .val (.int x1), .val (.int y1), .val (.int x2), .val (.int y2), .val (.ref r1), .val (.ref r2), .val (.ref b3), .unset, .unset] [])) (fun _ k_ => XS.icmpYes X4.here hx rfl (pc0 := 204) (pc' := 217) rfl (hb hby at_204) rfl (feq hc204).2 (by decide) (by decide) k_) ?_
          refine own_ww (T' := T4) (g' := (mkF m 219 #[.val (.int pa), .val (.int pb), .val (.int pc'), .val (.int pd), .val (.int fl), .val (.int ln1), .val (.int ln2), .val (.int cpy), .val (.int (((fl.toUInt32 >>> ((5 : Int32) &&& 31).toUInt32).toInt32) &&& (3 : Int32))), .val (.int x1), .val (.int y1), .val (.int x2), .val (.int y2), .val (.ref r1), .val (.ref r2), .val (.ref b3), .unset, .unset] [(.ref b3)])) (fun _ k_ => XS.aload X4.here hx rfl (hb hby at_217) rfl rfl k_) ?_
          refine own_ww (T' := T4) (g' := (mkF m 221 #[.val (.int pa), .val (.int pb), .val (.int pc'), .val (.int pd), .val (.int fl), .val (.int ln1), .val (.int ln2), .val (.int cpy), .val (.int (((fl.toUInt32 >>> ((5 : Int32) &&& 31).toUInt32).toInt32) &&& (3 : Int32))), .val (.int x1), .val (.int y1), .val (.int x2), .val (.int y2), .val (.ref r1), .val (.ref r2), .val (.ref b3), .val (.ref b3), .unset] [])) (fun _ k_ => XS.astore X4.here hx rfl (hb hby at_219) rfl rfl (l' := #[.val (.int pa), .val (.int pb), .val (.int pc'), .val (.int pd), .val (.int fl), .val (.int ln1), .val (.int ln2), .val (.int cpy), .val (.int (((fl.toUInt32 >>> ((5 : Int32) &&& 31).toUInt32).toInt32) &&& (3 : Int32))), .val (.int x1), .val (.int y1), .val (.int x2), .val (.int y2), .val (.ref r1), .val (.ref r2), .val (.ref b3), .val (.ref b3), .unset]) rfl k_) ?_
          refine own_ww (T' := T4) (g' := (mkF m 222 #[.val (.int pa), .val (.int pb), .val (.int pc'), .val (.int pd), .val (.int fl), .val (.int ln1), .val (.int ln2), .val (.int cpy), .val (.int (((fl.toUInt32 >>> ((5 : Int32) &&& 31).toUInt32).toInt32) &&& (3 : Int32))), .val (.int x1), .val (.int y1), .val (.int x2), .val (.int y2), .val (.ref r1), .val (.ref r2), .val (.ref b3), .val (.ref b3), .unset] [(.int (1 : Int32))])) (fun _ k_ => XS.iconst X4.here hx rfl (hb hby at_221) k_) ?_
          refine own_ww (T' := T4) (g' := (mkF m 224 #[.val (.int pa), .val (.int pb), .val (.int pc'), .val (.int pd), .val (.int fl), .val (.int ln1), .val (.int ln2), .val (.int cpy), .val (.int (((fl.toUInt32 >>> ((5 : Int32) &&& 31).toUInt32).toInt32) &&& (3 : Int32))), .val (.int x1), .val (.int y1), .val (.int x2), .val (.int y2), .val (.ref r1), .val (.ref r2), .val (.ref b3), .val (.ref b3), .val (.int (1 : Int32))] [])) (fun _ k_ => XS.istore X4.here hx rfl (hb hby at_222) rfl (l' := #[.val (.int pa), .val (.int pb), .val (.int pc'), .val (.int pd), .val (.int fl), .val (.int ln1), .val (.int ln2), .val (.int cpy), .val (.int (((fl.toUInt32 >>> ((5 : Int32) &&& 31).toUInt32).toInt32) &&& (3 : Int32))), .val (.int x1), .val (.int y1), .val (.int x2), .val (.int y2), .val (.ref r1), .val (.ref r2), .val (.ref b3), .val (.ref b3), .val (.int (1 : Int32))]) rfl k_) ?_
          refine own_ww (T' := T4) (g' := (mkF m 226 #[.val (.int pa), .val (.int pb), .val (.int pc'), .val (.int pd), .val (.int fl), .val (.int ln1), .val (.int ln2), .val (.int cpy), .val (.int (((fl.toUInt32 >>> ((5 : Int32) &&& 31).toUInt32).toInt32) &&& (3 : Int32))), .val (.int x1), .val (.int y1), .val (.int x2), .val (.int y2), .val (.ref r1), .val (.ref r2), .val (.ref b3), .val (.ref b3), .val (.int (1 : Int32))] [(.ref b3)])) (fun _ k_ => XS.aload X4.here hx rfl (hb hby at_224) rfl rfl k_) ?_
          refine own_ww (T' := T4) (g' := (mkF m 228 #[.val (.int pa), .val (.int pb), .val (.int pc'), .val (.int pd), .val (.int fl), .val (.int ln1), .val (.int ln2), .val (.int cpy), .val (.int (((fl.toUInt32 >>> ((5 : Int32) &&& 31).toUInt32).toInt32) &&& (3 : Int32))), .val (.int x1), .val (.int y1), .val (.int x2), .val (.int y2), .val (.ref r1), .val (.ref r2), .val (.ref b3), .val (.ref b3), .val (.int (1 : Int32))] [(.ref b3), (.ref b3)])) (fun _ k_ => XS.aload X4.here hx rfl (hb hby at_226) rfl rfl k_) ?_
          obtain ⟨cq17, kq17, q17a, q17b, q17c⟩ := isOf hZ2 e4 Eg
          obtain ⟨_, _, ⟨T17, L17, k17, n17⟩, -, X17, ⟨Lc17, hQ17, l17, y17, z17⟩, st17⟩ := X4.virtualBack hx (y := (⟨"com/example/marshal_trust/marshaltrust/FunctionGroup", "equals", "(Ljava/lang/Object;)Z"⟩ : MethodName)) (z := (⟨"com/example/marshal_trust/marshaltrust/FunctionGroup", "equals", "(Ljava/lang/Object;)Z"⟩ : MethodName)) ho2 (mvT hZ2 (hw _ (List.mem_of_getElem? (i := 35) rfl))) (mvT hZ2 (hw _ (List.mem_of_getElem? (i := 36) rfl))) (notFace_of_selects (args := #[]) (mvT hZ2 (hw _ (List.mem_of_getElem? (i := 38) rfl)))) (mvT hZ2 (hw _ (List.mem_of_getElem? (i := 38) rfl))) (mvT hZ2 (hw _ (List.mem_of_getElem? (i := 37) rfl))) (by decide) (backOf (W := 0) (own_rm6_g l Z a0 hw [] b3 b3 r1 r1 _ _ cs h4 n0 Z4 F4 F4 Eg TS1 TS1 (own_mklen _ _ _) (own_mklen _ _ _) hcs S3) hZ2 (hw _ (List.mem_of_getElem? (i := 39) rfl)) (hw _ (List.mem_of_getElem? (i := 28) rfl)) (by decide) (by decide)) q17a q17c (g := (mkF m 228 #[.val (.int pa), .val (.int pb), .val (.int pc'), .val (.int pd), .val (.int fl), .val (.int ln1), .val (.int ln2), .val (.int cpy), .val (.int (((fl.toUInt32 >>> ((5 : Int32) &&& 31).toUInt32).toInt32) &&& (3 : Int32))), .val (.int x1), .val (.int y1), .val (.int x2), .val (.int y2), .val (.ref r1), .val (.ref r2), .val (.ref b3), .val (.ref b3), .val (.int (1 : Int32))] [(.ref b3), (.ref b3)])) rfl (by rw [hml]; rfl) (Steps.refl _) (argsL := [(.ref b3)]) (rest := []) (lenOf own_pd6 rfl) rfl (by show 2 * 0 + _ ≤ _; exact Nat.le_of_eq rfl) (hb hby at_228) (fun _ _ => ⟨rfl, e4, (by decide : 13 + 0 ≤ _), (by decide : 25 + 0 ≤ _)⟩)
          dsimp only [Pt.U, Pt.locs, Pt.cells, Pt.slots] at X17 l17 y17 z17 st17 hQ17
          subst l17 y17 z17
          obtain ⟨rfl, N17q, e17⟩ := hQ17
          have N17 := Fr.app N4 N17q
          refine own_wt (T' := T17) (g' := (mkF m 231 #[.val (.int pa), .val (.int pb), .val (.int pc'), .val (.int pd), .val (.int fl), .val (.int ln1), .val (.int ln2), .val (.int cpy), .val (.int (((fl.toUInt32 >>> ((5 : Int32) &&& 31).toUInt32).toInt32) &&& (3 : Int32))), .val (.int x1), .val (.int y1), .val (.int x2), .val (.int y2), .val (.ref r1), .val (.ref r2), .val (.ref b3), .val (.ref b3), .val (.int (1 : Int32))] [(.int (if (own_mk ln1 x1 y1 = own_mk ln1 x1 y1) then (1 : Int32) else 0))])) st17 ?_
          refine own_ww (T' := T17) (g' := (mkF m 233 #[.val (.int pa), .val (.int pb), .val (.int pc'), .val (.int pd), .val (.int fl), .val (.int ln1), .val (.int ln2), .val (.int cpy), .val (.int (((fl.toUInt32 >>> ((5 : Int32) &&& 31).toUInt32).toInt32) &&& (3 : Int32))), .val (.int x1), .val (.int y1), .val (.int x2), .val (.int y2), .val (.ref r1), .val (.ref r2), .val (.ref b3), .val (.ref b3), .val (.int (1 : Int32))] [(.int (1 : Int32)), (.int (if (own_mk ln1 x1 y1 = own_mk ln1 x1 y1) then (1 : Int32) else 0))])) (fun _ k_ => XS.iload X17.here hx rfl (hb hby at_231) rfl k_) ?_
          refine own_ww (T' := T17) (g' := (mkF m 236 #[.val (.int pa), .val (.int pb), .val (.int pc'), .val (.int pd), .val (.int fl), .val (.int ln1), .val (.int ln2), .val (.int cpy), .val (.int (((fl.toUInt32 >>> ((5 : Int32) &&& 31).toUInt32).toInt32) &&& (3 : Int32))), .val (.int x1), .val (.int y1), .val (.int x2), .val (.int y2), .val (.ref r1), .val (.ref r2), .val (.ref b3), .val (.ref b3), .val (.int (1 : Int32))] [])) (fun _ k_ => XS.icmpNo X17.here hx rfl (hb hby at_233) rfl (teq (if_pos rfl)).2 k_) ?_
          refine own_ww (T' := T17) (g' := (mkF m 237 #[.val (.int pa), .val (.int pb), .val (.int pc'), .val (.int pd), .val (.int fl), .val (.int ln1), .val (.int ln2), .val (.int cpy), .val (.int (((fl.toUInt32 >>> ((5 : Int32) &&& 31).toUInt32).toInt32) &&& (3 : Int32))), .val (.int x1), .val (.int y1), .val (.int x2), .val (.int y2), .val (.ref r1), .val (.ref r2), .val (.ref b3), .val (.ref b3), .val (.int (1 : Int32))] [(.int (1 : Int32))])) (fun _ k_ => XS.iconst X17.here hx rfl (hb hby at_236) k_) ?_
          refine own_ww (T' := T17) (g' := (mkF m 241 #[.val (.int pa), .val (.int pb), .val (.int pc'), .val (.int pd), .val (.int fl), .val (.int ln1), .val (.int ln2), .val (.int cpy), .val (.int (((fl.toUInt32 >>> ((5 : Int32) &&& 31).toUInt32).toInt32) &&& (3 : Int32))), .val (.int x1), .val (.int y1), .val (.int x2), .val (.int y2), .val (.ref r1), .val (.ref r2), .val (.ref b3), .val (.ref b3), .val (.int (1 : Int32))] [(.int (1 : Int32))])) (fun _ k_ => XS.goto X17.here hx rfl (pc0 := 237) (pc' := 241) rfl (hb hby at_237) (by decide) (by decide) k_) ?_
          obtain ⟨fs, hr, hrun, hended, hRE⟩ := X17.leaveW (own_since hS2 CS4.2.1) (by rw [e17]; exact Nat.le_refl _) (v := some (.int (1 : Int32))) (fun h => by rw [Bd.returns] at h; cases h)
          exact ⟨_, _, retOut X17 hx Bd.returns rfl (Or.inl ⟨rfl, Or.inr (Or.inl rfl), _, rfl⟩) (hb hby at_241) hr, hrun, hended, _, _, rfl, (by show own_Q0 Z pa pb pc' pd fl cs h0 n0 _ T17.heap _; rw [e17]; exact ⟨rfl, N17⟩), (by show CHr Z own_EL s.vm s.heap T17.vm T17.heap; rw [e17, hh]; exact (CB2.trans CS4).trans (CHv.at X17 hZ2 (own_EW hw) CS4.1)), own_rmono hRE (by decide) (by decide)⟩
  by_cases hc24 : (((fl.toUInt32 >>> ((4 : Int32) &&& 31).toUInt32).toInt32) &&& (1 : Int32)) = (0 : Int32)
  · refine own_ww (T' := s₁) (g' := (mkF m 31 #[.val (.int pa), .val (.int pb), .val (.int pc'), .val (.int pd), .val (.int fl), .val (.int ln1), .val (.int ln2), .unset, .unset, .unset, .unset, .unset, .unset, .unset, .unset, .unset, .unset, .unset] [])) (fun _ k_ => XS.ifYes X0.here hx rfl (pc0 := 24) (pc' := 31) rfl (hb hby at_24) rfl ((if0 _ _).trans (teq hc24).1) (by decide) (by decide) k_) ?_
    refine own_ww (T' := s₁) (g' := (mkF m 32 #[.val (.int pa), .val (.int pb), .val (.int pc'), .val (.int pd), .val (.int fl), .val (.int ln1), .val (.int ln2), .unset, .unset, .unset, .unset, .unset, .unset, .unset, .unset, .unset, .unset, .unset] [(.int (0 : Int32))])) (fun _ k_ => XS.iconst X0.here hx rfl (hb hby at_31) k_) ?_
    refine own_ww (T' := s₁) (g' := (mkF m 34 #[.val (.int pa), .val (.int pb), .val (.int pc'), .val (.int pd), .val (.int fl), .val (.int ln1), .val (.int ln2), .val (.int (0 : Int32)), .unset, .unset, .unset, .unset, .unset, .unset, .unset, .unset, .unset, .unset] [])) (fun _ k_ => XS.istore X0.here hx rfl (hb hby at_32) rfl (l' := #[.val (.int pa), .val (.int pb), .val (.int pc'), .val (.int pd), .val (.int fl), .val (.int ln1), .val (.int ln2), .val (.int (0 : Int32)), .unset, .unset, .unset, .unset, .unset, .unset, .unset, .unset, .unset, .unset]) rfl k_) ?_
    refine own_ww (T' := s₁) (g' := (mkF m 36 #[.val (.int pa), .val (.int pb), .val (.int pc'), .val (.int pd), .val (.int fl), .val (.int ln1), .val (.int ln2), .val (.int (0 : Int32)), .unset, .unset, .unset, .unset, .unset, .unset, .unset, .unset, .unset, .unset] [(.int fl)])) (fun _ k_ => XS.iload X0.here hx rfl (hb hby at_34) rfl k_) ?_
    refine own_ww (T' := s₁) (g' := (mkF m 37 #[.val (.int pa), .val (.int pb), .val (.int pc'), .val (.int pd), .val (.int fl), .val (.int ln1), .val (.int ln2), .val (.int (0 : Int32)), .unset, .unset, .unset, .unset, .unset, .unset, .unset, .unset, .unset, .unset] [(.int (5 : Int32)), (.int fl)])) (fun _ k_ => XS.iconst X0.here hx rfl (hb hby at_36) k_) ?_
    refine own_ww (T' := s₁) (g' := (mkF m 38 #[.val (.int pa), .val (.int pb), .val (.int pc'), .val (.int pd), .val (.int fl), .val (.int ln1), .val (.int ln2), .val (.int (0 : Int32)), .unset, .unset, .unset, .unset, .unset, .unset, .unset, .unset, .unset, .unset] [(.int ((fl.toUInt32 >>> ((5 : Int32) &&& 31).toUInt32).toInt32))])) (fun _ k_ => XS.iushr X0.here hx rfl (hb hby at_37) rfl k_) ?_
    refine own_ww (T' := s₁) (g' := (mkF m 39 #[.val (.int pa), .val (.int pb), .val (.int pc'), .val (.int pd), .val (.int fl), .val (.int ln1), .val (.int ln2), .val (.int (0 : Int32)), .unset, .unset, .unset, .unset, .unset, .unset, .unset, .unset, .unset, .unset] [(.int (3 : Int32)), (.int ((fl.toUInt32 >>> ((5 : Int32) &&& 31).toUInt32).toInt32))])) (fun _ k_ => XS.iconst X0.here hx rfl (hb hby at_38) k_) ?_
    refine own_ww (T' := s₁) (g' := (mkF m 40 #[.val (.int pa), .val (.int pb), .val (.int pc'), .val (.int pd), .val (.int fl), .val (.int ln1), .val (.int ln2), .val (.int (0 : Int32)), .unset, .unset, .unset, .unset, .unset, .unset, .unset, .unset, .unset, .unset] [(.int (((fl.toUInt32 >>> ((5 : Int32) &&& 31).toUInt32).toInt32) &&& (3 : Int32)))])) (fun _ k_ => XS.iand X0.here hx rfl (hb hby at_39) rfl k_) ?_
    refine own_ww (T' := s₁) (g' := (mkF m 42 #[.val (.int pa), .val (.int pb), .val (.int pc'), .val (.int pd), .val (.int fl), .val (.int ln1), .val (.int ln2), .val (.int (0 : Int32)), .val (.int (((fl.toUInt32 >>> ((5 : Int32) &&& 31).toUInt32).toInt32) &&& (3 : Int32))), .unset, .unset, .unset, .unset, .unset, .unset, .unset, .unset, .unset] [])) (fun _ k_ => XS.istore X0.here hx rfl (hb hby at_40) rfl (l' := #[.val (.int pa), .val (.int pb), .val (.int pc'), .val (.int pd), .val (.int fl), .val (.int ln1), .val (.int ln2), .val (.int (0 : Int32)), .val (.int (((fl.toUInt32 >>> ((5 : Int32) &&& 31).toUInt32).toInt32) &&& (3 : Int32))), .unset, .unset, .unset, .unset, .unset, .unset, .unset, .unset, .unset]) rfl k_) ?_
    refine own_ww (T' := s₁) (g' := (mkF m 43 #[.val (.int pa), .val (.int pb), .val (.int pc'), .val (.int pd), .val (.int fl), .val (.int ln1), .val (.int ln2), .val (.int (0 : Int32)), .val (.int (((fl.toUInt32 >>> ((5 : Int32) &&& 31).toUInt32).toInt32) &&& (3 : Int32))), .unset, .unset, .unset, .unset, .unset, .unset, .unset, .unset, .unset] [(.int pa)])) (fun _ k_ => XS.iloadN X0.here hx rfl (hb hby at_42) rfl k_) ?_
    refine own_ww (T' := s₁) (g' := (mkF m 46 #[.val (.int pa), .val (.int pb), .val (.int pc'), .val (.int pd), .val (.int fl), .val (.int ln1), .val (.int ln2), .val (.int (0 : Int32)), .val (.int (((fl.toUInt32 >>> ((5 : Int32) &&& 31).toUInt32).toInt32) &&& (3 : Int32))), .unset, .unset, .unset, .unset, .unset, .unset, .unset, .unset, .unset] [(.int (255 : Int32)), (.int pa)])) (fun _ k_ => XS.sipush X0.here hx rfl (hb hby at_43) k_) ?_
    refine own_ww (T' := s₁) (g' := (mkF m 47 #[.val (.int pa), .val (.int pb), .val (.int pc'), .val (.int pd), .val (.int fl), .val (.int ln1), .val (.int ln2), .val (.int (0 : Int32)), .val (.int (((fl.toUInt32 >>> ((5 : Int32) &&& 31).toUInt32).toInt32) &&& (3 : Int32))), .unset, .unset, .unset, .unset, .unset, .unset, .unset, .unset, .unset] [(.int (pa &&& (255 : Int32)))])) (fun _ k_ => XS.iand X0.here hx rfl (hb hby at_46) rfl k_) ?_
    refine own_ww (T' := s₁) (g' := (mkF m 48 #[.val (.int pa), .val (.int pb), .val (.int pc'), .val (.int pd), .val (.int fl), .val (.int ln1), .val (.int ln2), .val (.int (0 : Int32)), .val (.int (((fl.toUInt32 >>> ((5 : Int32) &&& 31).toUInt32).toInt32) &&& (3 : Int32))), .unset, .unset, .unset, .unset, .unset, .unset, .unset, .unset, .unset] [(.int ((pa &&& (255 : Int32)).toUInt32.toUInt16.toUInt32.toInt32))])) (fun _ k_ => XS.i2c X0.here hx rfl (hb hby at_47) rfl k_) ?_
    refine own_ww (T' := s₁) (g' := (mkF m 50 #[.val (.int pa), .val (.int pb), .val (.int pc'), .val (.int pd), .val (.int fl), .val (.int ln1), .val (.int ln2), .val (.int (0 : Int32)), .val (.int (((fl.toUInt32 >>> ((5 : Int32) &&& 31).toUInt32).toInt32) &&& (3 : Int32))), .val (.int ((pa &&& (255 : Int32)).toUInt32.toUInt16.toUInt32.toInt32)), .unset, .unset, .unset, .unset, .unset, .unset, .unset, .unset] [])) (fun _ k_ => XS.istore X0.here hx rfl (hb hby at_48) rfl (l' := #[.val (.int pa), .val (.int pb), .val (.int pc'), .val (.int pd), .val (.int fl), .val (.int ln1), .val (.int ln2), .val (.int (0 : Int32)), .val (.int (((fl.toUInt32 >>> ((5 : Int32) &&& 31).toUInt32).toInt32) &&& (3 : Int32))), .val (.int ((pa &&& (255 : Int32)).toUInt32.toUInt16.toUInt32.toInt32)), .unset, .unset, .unset, .unset, .unset, .unset, .unset, .unset]) rfl k_) ?_
    refine own_ww (T' := s₁) (g' := (mkF m 51 #[.val (.int pa), .val (.int pb), .val (.int pc'), .val (.int pd), .val (.int fl), .val (.int ln1), .val (.int ln2), .val (.int (0 : Int32)), .val (.int (((fl.toUInt32 >>> ((5 : Int32) &&& 31).toUInt32).toInt32) &&& (3 : Int32))), .val (.int ((pa &&& (255 : Int32)).toUInt32.toUInt16.toUInt32.toInt32)), .unset, .unset, .unset, .unset, .unset, .unset, .unset, .unset] [(.int pb)])) (fun _ k_ => XS.iloadN X0.here hx rfl (hb hby at_50) rfl k_) ?_
    refine own_ww (T' := s₁) (g' := (mkF m 54 #[.val (.int pa), .val (.int pb), .val (.int pc'), .val (.int pd), .val (.int fl), .val (.int ln1), .val (.int ln2), .val (.int (0 : Int32)), .val (.int (((fl.toUInt32 >>> ((5 : Int32) &&& 31).toUInt32).toInt32) &&& (3 : Int32))), .val (.int ((pa &&& (255 : Int32)).toUInt32.toUInt16.toUInt32.toInt32)), .unset, .unset, .unset, .unset, .unset, .unset, .unset, .unset] [(.int (255 : Int32)), (.int pb)])) (fun _ k_ => XS.sipush X0.here hx rfl (hb hby at_51) k_) ?_
    refine own_ww (T' := s₁) (g' := (mkF m 55 #[.val (.int pa), .val (.int pb), .val (.int pc'), .val (.int pd), .val (.int fl), .val (.int ln1), .val (.int ln2), .val (.int (0 : Int32)), .val (.int (((fl.toUInt32 >>> ((5 : Int32) &&& 31).toUInt32).toInt32) &&& (3 : Int32))), .val (.int ((pa &&& (255 : Int32)).toUInt32.toUInt16.toUInt32.toInt32)), .unset, .unset, .unset, .unset, .unset, .unset, .unset, .unset] [(.int (pb &&& (255 : Int32)))])) (fun _ k_ => XS.iand X0.here hx rfl (hb hby at_54) rfl k_) ?_
    refine own_ww (T' := s₁) (g' := (mkF m 56 #[.val (.int pa), .val (.int pb), .val (.int pc'), .val (.int pd), .val (.int fl), .val (.int ln1), .val (.int ln2), .val (.int (0 : Int32)), .val (.int (((fl.toUInt32 >>> ((5 : Int32) &&& 31).toUInt32).toInt32) &&& (3 : Int32))), .val (.int ((pa &&& (255 : Int32)).toUInt32.toUInt16.toUInt32.toInt32)), .unset, .unset, .unset, .unset, .unset, .unset, .unset, .unset] [(.int ((pb &&& (255 : Int32)).toUInt32.toUInt16.toUInt32.toInt32))])) (fun _ k_ => XS.i2c X0.here hx rfl (hb hby at_55) rfl k_) ?_
    refine own_ww (T' := s₁) (g' := (mkF m 58 #[.val (.int pa), .val (.int pb), .val (.int pc'), .val (.int pd), .val (.int fl), .val (.int ln1), .val (.int ln2), .val (.int (0 : Int32)), .val (.int (((fl.toUInt32 >>> ((5 : Int32) &&& 31).toUInt32).toInt32) &&& (3 : Int32))), .val (.int ((pa &&& (255 : Int32)).toUInt32.toUInt16.toUInt32.toInt32)), .val (.int ((pb &&& (255 : Int32)).toUInt32.toUInt16.toUInt32.toInt32)), .unset, .unset, .unset, .unset, .unset, .unset, .unset] [])) (fun _ k_ => XS.istore X0.here hx rfl (hb hby at_56) rfl (l' := #[.val (.int pa), .val (.int pb), .val (.int pc'), .val (.int pd), .val (.int fl), .val (.int ln1), .val (.int ln2), .val (.int (0 : Int32)), .val (.int (((fl.toUInt32 >>> ((5 : Int32) &&& 31).toUInt32).toInt32) &&& (3 : Int32))), .val (.int ((pa &&& (255 : Int32)).toUInt32.toUInt16.toUInt32.toInt32)), .val (.int ((pb &&& (255 : Int32)).toUInt32.toUInt16.toUInt32.toInt32)), .unset, .unset, .unset, .unset, .unset, .unset, .unset]) rfl k_) ?_
    refine own_ww (T' := s₁) (g' := (mkF m 60 #[.val (.int pa), .val (.int pb), .val (.int pc'), .val (.int pd), .val (.int fl), .val (.int ln1), .val (.int ln2), .val (.int (0 : Int32)), .val (.int (((fl.toUInt32 >>> ((5 : Int32) &&& 31).toUInt32).toInt32) &&& (3 : Int32))), .val (.int ((pa &&& (255 : Int32)).toUInt32.toUInt16.toUInt32.toInt32)), .val (.int ((pb &&& (255 : Int32)).toUInt32.toUInt16.toUInt32.toInt32)), .unset, .unset, .unset, .unset, .unset, .unset, .unset] [(.int (0 : Int32))])) (fun _ k_ => XS.iload X0.here hx rfl (hb hby at_58) rfl k_) ?_
    refine own_ww (T' := s₁) (g' := (mkF m 68 #[.val (.int pa), .val (.int pb), .val (.int pc'), .val (.int pd), .val (.int fl), .val (.int ln1), .val (.int ln2), .val (.int (0 : Int32)), .val (.int (((fl.toUInt32 >>> ((5 : Int32) &&& 31).toUInt32).toInt32) &&& (3 : Int32))), .val (.int ((pa &&& (255 : Int32)).toUInt32.toUInt16.toUInt32.toInt32)), .val (.int ((pb &&& (255 : Int32)).toUInt32.toUInt16.toUInt32.toInt32)), .unset, .unset, .unset, .unset, .unset, .unset, .unset] [])) (fun _ k_ => XS.ifYes X0.here hx rfl (pc0 := 60) (pc' := 68) rfl (hb hby at_60) rfl ((if0 _ _).trans (teq (by decide)).1) (by decide) (by decide) k_) ?_
    refine own_ww (T' := s₁) (g' := (mkF m 69 #[.val (.int pa), .val (.int pb), .val (.int pc'), .val (.int pd), .val (.int fl), .val (.int ln1), .val (.int ln2), .val (.int (0 : Int32)), .val (.int (((fl.toUInt32 >>> ((5 : Int32) &&& 31).toUInt32).toInt32) &&& (3 : Int32))), .val (.int ((pa &&& (255 : Int32)).toUInt32.toUInt16.toUInt32.toInt32)), .val (.int ((pb &&& (255 : Int32)).toUInt32.toUInt16.toUInt32.toInt32)), .unset, .unset, .unset, .unset, .unset, .unset, .unset] [(.int pc')])) (fun _ k_ => XS.iloadN X0.here hx rfl (hb hby at_68) rfl k_) ?_
    refine own_ww (T' := s₁) (g' := (mkF m 72 #[.val (.int pa), .val (.int pb), .val (.int pc'), .val (.int pd), .val (.int fl), .val (.int ln1), .val (.int ln2), .val (.int (0 : Int32)), .val (.int (((fl.toUInt32 >>> ((5 : Int32) &&& 31).toUInt32).toInt32) &&& (3 : Int32))), .val (.int ((pa &&& (255 : Int32)).toUInt32.toUInt16.toUInt32.toInt32)), .val (.int ((pb &&& (255 : Int32)).toUInt32.toUInt16.toUInt32.toInt32)), .unset, .unset, .unset, .unset, .unset, .unset, .unset] [(.int (255 : Int32)), (.int pc')])) (fun _ k_ => XS.sipush X0.here hx rfl (hb hby at_69) k_) ?_
    refine own_ww (T' := s₁) (g' := (mkF m 73 #[.val (.int pa), .val (.int pb), .val (.int pc'), .val (.int pd), .val (.int fl), .val (.int ln1), .val (.int ln2), .val (.int (0 : Int32)), .val (.int (((fl.toUInt32 >>> ((5 : Int32) &&& 31).toUInt32).toInt32) &&& (3 : Int32))), .val (.int ((pa &&& (255 : Int32)).toUInt32.toUInt16.toUInt32.toInt32)), .val (.int ((pb &&& (255 : Int32)).toUInt32.toUInt16.toUInt32.toInt32)), .unset, .unset, .unset, .unset, .unset, .unset, .unset] [(.int (pc' &&& (255 : Int32)))])) (fun _ k_ => XS.iand X0.here hx rfl (hb hby at_72) rfl k_) ?_
    refine own_ww (T' := s₁) (g' := (mkF m 74 #[.val (.int pa), .val (.int pb), .val (.int pc'), .val (.int pd), .val (.int fl), .val (.int ln1), .val (.int ln2), .val (.int (0 : Int32)), .val (.int (((fl.toUInt32 >>> ((5 : Int32) &&& 31).toUInt32).toInt32) &&& (3 : Int32))), .val (.int ((pa &&& (255 : Int32)).toUInt32.toUInt16.toUInt32.toInt32)), .val (.int ((pb &&& (255 : Int32)).toUInt32.toUInt16.toUInt32.toInt32)), .unset, .unset, .unset, .unset, .unset, .unset, .unset] [(.int ((pc' &&& (255 : Int32)).toUInt32.toUInt16.toUInt32.toInt32))])) (fun _ k_ => XS.i2c X0.here hx rfl (hb hby at_73) rfl k_) ?_
    refine own_ww (T' := s₁) (g' := (mkF m 76 #[.val (.int pa), .val (.int pb), .val (.int pc'), .val (.int pd), .val (.int fl), .val (.int ln1), .val (.int ln2), .val (.int (0 : Int32)), .val (.int (((fl.toUInt32 >>> ((5 : Int32) &&& 31).toUInt32).toInt32) &&& (3 : Int32))), .val (.int ((pa &&& (255 : Int32)).toUInt32.toUInt16.toUInt32.toInt32)), .val (.int ((pb &&& (255 : Int32)).toUInt32.toUInt16.toUInt32.toInt32)), .val (.int ((pc' &&& (255 : Int32)).toUInt32.toUInt16.toUInt32.toInt32)), .unset, .unset, .unset, .unset, .unset, .unset] [])) (fun _ k_ => XS.istore X0.here hx rfl (hb hby at_74) rfl (l' := #[.val (.int pa), .val (.int pb), .val (.int pc'), .val (.int pd), .val (.int fl), .val (.int ln1), .val (.int ln2), .val (.int (0 : Int32)), .val (.int (((fl.toUInt32 >>> ((5 : Int32) &&& 31).toUInt32).toInt32) &&& (3 : Int32))), .val (.int ((pa &&& (255 : Int32)).toUInt32.toUInt16.toUInt32.toInt32)), .val (.int ((pb &&& (255 : Int32)).toUInt32.toUInt16.toUInt32.toInt32)), .val (.int ((pc' &&& (255 : Int32)).toUInt32.toUInt16.toUInt32.toInt32)), .unset, .unset, .unset, .unset, .unset, .unset]) rfl k_) ?_
    refine own_ww (T' := s₁) (g' := (mkF m 78 #[.val (.int pa), .val (.int pb), .val (.int pc'), .val (.int pd), .val (.int fl), .val (.int ln1), .val (.int ln2), .val (.int (0 : Int32)), .val (.int (((fl.toUInt32 >>> ((5 : Int32) &&& 31).toUInt32).toInt32) &&& (3 : Int32))), .val (.int ((pa &&& (255 : Int32)).toUInt32.toUInt16.toUInt32.toInt32)), .val (.int ((pb &&& (255 : Int32)).toUInt32.toUInt16.toUInt32.toInt32)), .val (.int ((pc' &&& (255 : Int32)).toUInt32.toUInt16.toUInt32.toInt32)), .unset, .unset, .unset, .unset, .unset, .unset] [(.int (0 : Int32))])) (fun _ k_ => XS.iload X0.here hx rfl (hb hby at_76) rfl k_) ?_
    refine own_ww (T' := s₁) (g' := (mkF m 86 #[.val (.int pa), .val (.int pb), .val (.int pc'), .val (.int pd), .val (.int fl), .val (.int ln1), .val (.int ln2), .val (.int (0 : Int32)), .val (.int (((fl.toUInt32 >>> ((5 : Int32) &&& 31).toUInt32).toInt32) &&& (3 : Int32))), .val (.int ((pa &&& (255 : Int32)).toUInt32.toUInt16.toUInt32.toInt32)), .val (.int ((pb &&& (255 : Int32)).toUInt32.toUInt16.toUInt32.toInt32)), .val (.int ((pc' &&& (255 : Int32)).toUInt32.toUInt16.toUInt32.toInt32)), .unset, .unset, .unset, .unset, .unset, .unset] [])) (fun _ k_ => XS.ifYes X0.here hx rfl (pc0 := 78) (pc' := 86) rfl (hb hby at_78) rfl ((if0 _ _).trans (teq (by decide)).1) (by decide) (by decide) k_) ?_
    refine own_ww (T' := s₁) (g' := (mkF m 87 #[.val (.int pa), .val (.int pb), .val (.int pc'), .val (.int pd), .val (.int fl), .val (.int ln1), .val (.int ln2), .val (.int (0 : Int32)), .val (.int (((fl.toUInt32 >>> ((5 : Int32) &&& 31).toUInt32).toInt32) &&& (3 : Int32))), .val (.int ((pa &&& (255 : Int32)).toUInt32.toUInt16.toUInt32.toInt32)), .val (.int ((pb &&& (255 : Int32)).toUInt32.toUInt16.toUInt32.toInt32)), .val (.int ((pc' &&& (255 : Int32)).toUInt32.toUInt16.toUInt32.toInt32)), .unset, .unset, .unset, .unset, .unset, .unset] [(.int pd)])) (fun _ k_ => XS.iloadN X0.here hx rfl (hb hby at_86) rfl k_) ?_
    refine own_ww (T' := s₁) (g' := (mkF m 90 #[.val (.int pa), .val (.int pb), .val (.int pc'), .val (.int pd), .val (.int fl), .val (.int ln1), .val (.int ln2), .val (.int (0 : Int32)), .val (.int (((fl.toUInt32 >>> ((5 : Int32) &&& 31).toUInt32).toInt32) &&& (3 : Int32))), .val (.int ((pa &&& (255 : Int32)).toUInt32.toUInt16.toUInt32.toInt32)), .val (.int ((pb &&& (255 : Int32)).toUInt32.toUInt16.toUInt32.toInt32)), .val (.int ((pc' &&& (255 : Int32)).toUInt32.toUInt16.toUInt32.toInt32)), .unset, .unset, .unset, .unset, .unset, .unset] [(.int (255 : Int32)), (.int pd)])) (fun _ k_ => XS.sipush X0.here hx rfl (hb hby at_87) k_) ?_
    refine own_ww (T' := s₁) (g' := (mkF m 91 #[.val (.int pa), .val (.int pb), .val (.int pc'), .val (.int pd), .val (.int fl), .val (.int ln1), .val (.int ln2), .val (.int (0 : Int32)), .val (.int (((fl.toUInt32 >>> ((5 : Int32) &&& 31).toUInt32).toInt32) &&& (3 : Int32))), .val (.int ((pa &&& (255 : Int32)).toUInt32.toUInt16.toUInt32.toInt32)), .val (.int ((pb &&& (255 : Int32)).toUInt32.toUInt16.toUInt32.toInt32)), .val (.int ((pc' &&& (255 : Int32)).toUInt32.toUInt16.toUInt32.toInt32)), .unset, .unset, .unset, .unset, .unset, .unset] [(.int (pd &&& (255 : Int32)))])) (fun _ k_ => XS.iand X0.here hx rfl (hb hby at_90) rfl k_) ?_
    refine own_ww (T' := s₁) (g' := (mkF m 92 #[.val (.int pa), .val (.int pb), .val (.int pc'), .val (.int pd), .val (.int fl), .val (.int ln1), .val (.int ln2), .val (.int (0 : Int32)), .val (.int (((fl.toUInt32 >>> ((5 : Int32) &&& 31).toUInt32).toInt32) &&& (3 : Int32))), .val (.int ((pa &&& (255 : Int32)).toUInt32.toUInt16.toUInt32.toInt32)), .val (.int ((pb &&& (255 : Int32)).toUInt32.toUInt16.toUInt32.toInt32)), .val (.int ((pc' &&& (255 : Int32)).toUInt32.toUInt16.toUInt32.toInt32)), .unset, .unset, .unset, .unset, .unset, .unset] [(.int ((pd &&& (255 : Int32)).toUInt32.toUInt16.toUInt32.toInt32))])) (fun _ k_ => XS.i2c X0.here hx rfl (hb hby at_91) rfl k_) ?_
    refine own_ww (T' := s₁) (g' := (mkF m 94 #[.val (.int pa), .val (.int pb), .val (.int pc'), .val (.int pd), .val (.int fl), .val (.int ln1), .val (.int ln2), .val (.int (0 : Int32)), .val (.int (((fl.toUInt32 >>> ((5 : Int32) &&& 31).toUInt32).toInt32) &&& (3 : Int32))), .val (.int ((pa &&& (255 : Int32)).toUInt32.toUInt16.toUInt32.toInt32)), .val (.int ((pb &&& (255 : Int32)).toUInt32.toUInt16.toUInt32.toInt32)), .val (.int ((pc' &&& (255 : Int32)).toUInt32.toUInt16.toUInt32.toInt32)), .val (.int ((pd &&& (255 : Int32)).toUInt32.toUInt16.toUInt32.toInt32)), .unset, .unset, .unset, .unset, .unset] [])) (fun _ k_ => XS.istore X0.here hx rfl (hb hby at_92) rfl (l' := #[.val (.int pa), .val (.int pb), .val (.int pc'), .val (.int pd), .val (.int fl), .val (.int ln1), .val (.int ln2), .val (.int (0 : Int32)), .val (.int (((fl.toUInt32 >>> ((5 : Int32) &&& 31).toUInt32).toInt32) &&& (3 : Int32))), .val (.int ((pa &&& (255 : Int32)).toUInt32.toUInt16.toUInt32.toInt32)), .val (.int ((pb &&& (255 : Int32)).toUInt32.toUInt16.toUInt32.toInt32)), .val (.int ((pc' &&& (255 : Int32)).toUInt32.toUInt16.toUInt32.toInt32)), .val (.int ((pd &&& (255 : Int32)).toUInt32.toUInt16.toUInt32.toInt32)), .unset, .unset, .unset, .unset, .unset]) rfl k_) ?_
    exact J94 _ _ _ _ X0 e0 N0 hZ hown (own_since hS0 CB0.2.1) (CB0) (0 : Int32) ((pa &&& (255 : Int32)).toUInt32.toUInt16.toUInt32.toInt32) ((pb &&& (255 : Int32)).toUInt32.toUInt16.toUInt32.toInt32) ((pc' &&& (255 : Int32)).toUInt32.toUInt16.toUInt32.toInt32) ((pd &&& (255 : Int32)).toUInt32.toUInt16.toUInt32.toInt32) ⟨own_ch1 pa, own_ch2 pa, own_ch0 pa⟩ ⟨own_ch1 pb, own_ch2 pb, own_ch0 pb⟩ ⟨own_ch1 pc', own_ch2 pc', own_ch0 pc'⟩ ⟨own_ch1 pd, own_ch2 pd, own_ch0 pd⟩ S
  · refine own_ww (T' := s₁) (g' := (mkF m 27 #[.val (.int pa), .val (.int pb), .val (.int pc'), .val (.int pd), .val (.int fl), .val (.int ln1), .val (.int ln2), .unset, .unset, .unset, .unset, .unset, .unset, .unset, .unset, .unset, .unset, .unset] [])) (fun _ k_ => XS.ifNo X0.here hx rfl (hb hby at_24) rfl ((if0 _ _).trans (feq hc24).1) k_) ?_
    refine own_ww (T' := s₁) (g' := (mkF m 28 #[.val (.int pa), .val (.int pb), .val (.int pc'), .val (.int pd), .val (.int fl), .val (.int ln1), .val (.int ln2), .unset, .unset, .unset, .unset, .unset, .unset, .unset, .unset, .unset, .unset, .unset] [(.int (1 : Int32))])) (fun _ k_ => XS.iconst X0.here hx rfl (hb hby at_27) k_) ?_
    refine own_ww (T' := s₁) (g' := (mkF m 32 #[.val (.int pa), .val (.int pb), .val (.int pc'), .val (.int pd), .val (.int fl), .val (.int ln1), .val (.int ln2), .unset, .unset, .unset, .unset, .unset, .unset, .unset, .unset, .unset, .unset, .unset] [(.int (1 : Int32))])) (fun _ k_ => XS.goto X0.here hx rfl (pc0 := 28) (pc' := 32) rfl (hb hby at_28) (by decide) (by decide) k_) ?_
    refine own_ww (T' := s₁) (g' := (mkF m 34 #[.val (.int pa), .val (.int pb), .val (.int pc'), .val (.int pd), .val (.int fl), .val (.int ln1), .val (.int ln2), .val (.int (1 : Int32)), .unset, .unset, .unset, .unset, .unset, .unset, .unset, .unset, .unset, .unset] [])) (fun _ k_ => XS.istore X0.here hx rfl (hb hby at_32) rfl (l' := #[.val (.int pa), .val (.int pb), .val (.int pc'), .val (.int pd), .val (.int fl), .val (.int ln1), .val (.int ln2), .val (.int (1 : Int32)), .unset, .unset, .unset, .unset, .unset, .unset, .unset, .unset, .unset, .unset]) rfl k_) ?_
    refine own_ww (T' := s₁) (g' := (mkF m 36 #[.val (.int pa), .val (.int pb), .val (.int pc'), .val (.int pd), .val (.int fl), .val (.int ln1), .val (.int ln2), .val (.int (1 : Int32)), .unset, .unset, .unset, .unset, .unset, .unset, .unset, .unset, .unset, .unset] [(.int fl)])) (fun _ k_ => XS.iload X0.here hx rfl (hb hby at_34) rfl k_) ?_
    refine own_ww (T' := s₁) (g' := (mkF m 37 #[.val (.int pa), .val (.int pb), .val (.int pc'), .val (.int pd), .val (.int fl), .val (.int ln1), .val (.int ln2), .val (.int (1 : Int32)), .unset, .unset, .unset, .unset, .unset, .unset, .unset, .unset, .unset, .unset] [(.int (5 : Int32)), (.int fl)])) (fun _ k_ => XS.iconst X0.here hx rfl (hb hby at_36) k_) ?_
    refine own_ww (T' := s₁) (g' := (mkF m 38 #[.val (.int pa), .val (.int pb), .val (.int pc'), .val (.int pd), .val (.int fl), .val (.int ln1), .val (.int ln2), .val (.int (1 : Int32)), .unset, .unset, .unset, .unset, .unset, .unset, .unset, .unset, .unset, .unset] [(.int ((fl.toUInt32 >>> ((5 : Int32) &&& 31).toUInt32).toInt32))])) (fun _ k_ => XS.iushr X0.here hx rfl (hb hby at_37) rfl k_) ?_
    refine own_ww (T' := s₁) (g' := (mkF m 39 #[.val (.int pa), .val (.int pb), .val (.int pc'), .val (.int pd), .val (.int fl), .val (.int ln1), .val (.int ln2), .val (.int (1 : Int32)), .unset, .unset, .unset, .unset, .unset, .unset, .unset, .unset, .unset, .unset] [(.int (3 : Int32)), (.int ((fl.toUInt32 >>> ((5 : Int32) &&& 31).toUInt32).toInt32))])) (fun _ k_ => XS.iconst X0.here hx rfl (hb hby at_38) k_) ?_
    refine own_ww (T' := s₁) (g' := (mkF m 40 #[.val (.int pa), .val (.int pb), .val (.int pc'), .val (.int pd), .val (.int fl), .val (.int ln1), .val (.int ln2), .val (.int (1 : Int32)), .unset, .unset, .unset, .unset, .unset, .unset, .unset, .unset, .unset, .unset] [(.int (((fl.toUInt32 >>> ((5 : Int32) &&& 31).toUInt32).toInt32) &&& (3 : Int32)))])) (fun _ k_ => XS.iand X0.here hx rfl (hb hby at_39) rfl k_) ?_
    refine own_ww (T' := s₁) (g' := (mkF m 42 #[.val (.int pa), .val (.int pb), .val (.int pc'), .val (.int pd), .val (.int fl), .val (.int ln1), .val (.int ln2), .val (.int (1 : Int32)), .val (.int (((fl.toUInt32 >>> ((5 : Int32) &&& 31).toUInt32).toInt32) &&& (3 : Int32))), .unset, .unset, .unset, .unset, .unset, .unset, .unset, .unset, .unset] [])) (fun _ k_ => XS.istore X0.here hx rfl (hb hby at_40) rfl (l' := #[.val (.int pa), .val (.int pb), .val (.int pc'), .val (.int pd), .val (.int fl), .val (.int ln1), .val (.int ln2), .val (.int (1 : Int32)), .val (.int (((fl.toUInt32 >>> ((5 : Int32) &&& 31).toUInt32).toInt32) &&& (3 : Int32))), .unset, .unset, .unset, .unset, .unset, .unset, .unset, .unset, .unset]) rfl k_) ?_
    refine own_ww (T' := s₁) (g' := (mkF m 43 #[.val (.int pa), .val (.int pb), .val (.int pc'), .val (.int pd), .val (.int fl), .val (.int ln1), .val (.int ln2), .val (.int (1 : Int32)), .val (.int (((fl.toUInt32 >>> ((5 : Int32) &&& 31).toUInt32).toInt32) &&& (3 : Int32))), .unset, .unset, .unset, .unset, .unset, .unset, .unset, .unset, .unset] [(.int pa)])) (fun _ k_ => XS.iloadN X0.here hx rfl (hb hby at_42) rfl k_) ?_
    refine own_ww (T' := s₁) (g' := (mkF m 46 #[.val (.int pa), .val (.int pb), .val (.int pc'), .val (.int pd), .val (.int fl), .val (.int ln1), .val (.int ln2), .val (.int (1 : Int32)), .val (.int (((fl.toUInt32 >>> ((5 : Int32) &&& 31).toUInt32).toInt32) &&& (3 : Int32))), .unset, .unset, .unset, .unset, .unset, .unset, .unset, .unset, .unset] [(.int (255 : Int32)), (.int pa)])) (fun _ k_ => XS.sipush X0.here hx rfl (hb hby at_43) k_) ?_
    refine own_ww (T' := s₁) (g' := (mkF m 47 #[.val (.int pa), .val (.int pb), .val (.int pc'), .val (.int pd), .val (.int fl), .val (.int ln1), .val (.int ln2), .val (.int (1 : Int32)), .val (.int (((fl.toUInt32 >>> ((5 : Int32) &&& 31).toUInt32).toInt32) &&& (3 : Int32))), .unset, .unset, .unset, .unset, .unset, .unset, .unset, .unset, .unset] [(.int (pa &&& (255 : Int32)))])) (fun _ k_ => XS.iand X0.here hx rfl (hb hby at_46) rfl k_) ?_
    refine own_ww (T' := s₁) (g' := (mkF m 48 #[.val (.int pa), .val (.int pb), .val (.int pc'), .val (.int pd), .val (.int fl), .val (.int ln1), .val (.int ln2), .val (.int (1 : Int32)), .val (.int (((fl.toUInt32 >>> ((5 : Int32) &&& 31).toUInt32).toInt32) &&& (3 : Int32))), .unset, .unset, .unset, .unset, .unset, .unset, .unset, .unset, .unset] [(.int ((pa &&& (255 : Int32)).toUInt32.toUInt16.toUInt32.toInt32))])) (fun _ k_ => XS.i2c X0.here hx rfl (hb hby at_47) rfl k_) ?_
    refine own_ww (T' := s₁) (g' := (mkF m 50 #[.val (.int pa), .val (.int pb), .val (.int pc'), .val (.int pd), .val (.int fl), .val (.int ln1), .val (.int ln2), .val (.int (1 : Int32)), .val (.int (((fl.toUInt32 >>> ((5 : Int32) &&& 31).toUInt32).toInt32) &&& (3 : Int32))), .val (.int ((pa &&& (255 : Int32)).toUInt32.toUInt16.toUInt32.toInt32)), .unset, .unset, .unset, .unset, .unset, .unset, .unset, .unset] [])) (fun _ k_ => XS.istore X0.here hx rfl (hb hby at_48) rfl (l' := #[.val (.int pa), .val (.int pb), .val (.int pc'), .val (.int pd), .val (.int fl), .val (.int ln1), .val (.int ln2), .val (.int (1 : Int32)), .val (.int (((fl.toUInt32 >>> ((5 : Int32) &&& 31).toUInt32).toInt32) &&& (3 : Int32))), .val (.int ((pa &&& (255 : Int32)).toUInt32.toUInt16.toUInt32.toInt32)), .unset, .unset, .unset, .unset, .unset, .unset, .unset, .unset]) rfl k_) ?_
    refine own_ww (T' := s₁) (g' := (mkF m 51 #[.val (.int pa), .val (.int pb), .val (.int pc'), .val (.int pd), .val (.int fl), .val (.int ln1), .val (.int ln2), .val (.int (1 : Int32)), .val (.int (((fl.toUInt32 >>> ((5 : Int32) &&& 31).toUInt32).toInt32) &&& (3 : Int32))), .val (.int ((pa &&& (255 : Int32)).toUInt32.toUInt16.toUInt32.toInt32)), .unset, .unset, .unset, .unset, .unset, .unset, .unset, .unset] [(.int pb)])) (fun _ k_ => XS.iloadN X0.here hx rfl (hb hby at_50) rfl k_) ?_
    refine own_ww (T' := s₁) (g' := (mkF m 54 #[.val (.int pa), .val (.int pb), .val (.int pc'), .val (.int pd), .val (.int fl), .val (.int ln1), .val (.int ln2), .val (.int (1 : Int32)), .val (.int (((fl.toUInt32 >>> ((5 : Int32) &&& 31).toUInt32).toInt32) &&& (3 : Int32))), .val (.int ((pa &&& (255 : Int32)).toUInt32.toUInt16.toUInt32.toInt32)), .unset, .unset, .unset, .unset, .unset, .unset, .unset, .unset] [(.int (255 : Int32)), (.int pb)])) (fun _ k_ => XS.sipush X0.here hx rfl (hb hby at_51) k_) ?_
    refine own_ww (T' := s₁) (g' := (mkF m 55 #[.val (.int pa), .val (.int pb), .val (.int pc'), .val (.int pd), .val (.int fl), .val (.int ln1), .val (.int ln2), .val (.int (1 : Int32)), .val (.int (((fl.toUInt32 >>> ((5 : Int32) &&& 31).toUInt32).toInt32) &&& (3 : Int32))), .val (.int ((pa &&& (255 : Int32)).toUInt32.toUInt16.toUInt32.toInt32)), .unset, .unset, .unset, .unset, .unset, .unset, .unset, .unset] [(.int (pb &&& (255 : Int32)))])) (fun _ k_ => XS.iand X0.here hx rfl (hb hby at_54) rfl k_) ?_
    refine own_ww (T' := s₁) (g' := (mkF m 56 #[.val (.int pa), .val (.int pb), .val (.int pc'), .val (.int pd), .val (.int fl), .val (.int ln1), .val (.int ln2), .val (.int (1 : Int32)), .val (.int (((fl.toUInt32 >>> ((5 : Int32) &&& 31).toUInt32).toInt32) &&& (3 : Int32))), .val (.int ((pa &&& (255 : Int32)).toUInt32.toUInt16.toUInt32.toInt32)), .unset, .unset, .unset, .unset, .unset, .unset, .unset, .unset] [(.int ((pb &&& (255 : Int32)).toUInt32.toUInt16.toUInt32.toInt32))])) (fun _ k_ => XS.i2c X0.here hx rfl (hb hby at_55) rfl k_) ?_
    refine own_ww (T' := s₁) (g' := (mkF m 58 #[.val (.int pa), .val (.int pb), .val (.int pc'), .val (.int pd), .val (.int fl), .val (.int ln1), .val (.int ln2), .val (.int (1 : Int32)), .val (.int (((fl.toUInt32 >>> ((5 : Int32) &&& 31).toUInt32).toInt32) &&& (3 : Int32))), .val (.int ((pa &&& (255 : Int32)).toUInt32.toUInt16.toUInt32.toInt32)), .val (.int ((pb &&& (255 : Int32)).toUInt32.toUInt16.toUInt32.toInt32)), .unset, .unset, .unset, .unset, .unset, .unset, .unset] [])) (fun _ k_ => XS.istore X0.here hx rfl (hb hby at_56) rfl (l' := #[.val (.int pa), .val (.int pb), .val (.int pc'), .val (.int pd), .val (.int fl), .val (.int ln1), .val (.int ln2), .val (.int (1 : Int32)), .val (.int (((fl.toUInt32 >>> ((5 : Int32) &&& 31).toUInt32).toInt32) &&& (3 : Int32))), .val (.int ((pa &&& (255 : Int32)).toUInt32.toUInt16.toUInt32.toInt32)), .val (.int ((pb &&& (255 : Int32)).toUInt32.toUInt16.toUInt32.toInt32)), .unset, .unset, .unset, .unset, .unset, .unset, .unset]) rfl k_) ?_
    refine own_ww (T' := s₁) (g' := (mkF m 60 #[.val (.int pa), .val (.int pb), .val (.int pc'), .val (.int pd), .val (.int fl), .val (.int ln1), .val (.int ln2), .val (.int (1 : Int32)), .val (.int (((fl.toUInt32 >>> ((5 : Int32) &&& 31).toUInt32).toInt32) &&& (3 : Int32))), .val (.int ((pa &&& (255 : Int32)).toUInt32.toUInt16.toUInt32.toInt32)), .val (.int ((pb &&& (255 : Int32)).toUInt32.toUInt16.toUInt32.toInt32)), .unset, .unset, .unset, .unset, .unset, .unset, .unset] [(.int (1 : Int32))])) (fun _ k_ => XS.iload X0.here hx rfl (hb hby at_58) rfl k_) ?_
    refine own_ww (T' := s₁) (g' := (mkF m 63 #[.val (.int pa), .val (.int pb), .val (.int pc'), .val (.int pd), .val (.int fl), .val (.int ln1), .val (.int ln2), .val (.int (1 : Int32)), .val (.int (((fl.toUInt32 >>> ((5 : Int32) &&& 31).toUInt32).toInt32) &&& (3 : Int32))), .val (.int ((pa &&& (255 : Int32)).toUInt32.toUInt16.toUInt32.toInt32)), .val (.int ((pb &&& (255 : Int32)).toUInt32.toUInt16.toUInt32.toInt32)), .unset, .unset, .unset, .unset, .unset, .unset, .unset] [])) (fun _ k_ => XS.ifNo X0.here hx rfl (hb hby at_60) rfl ((if0 _ _).trans (feq (by decide)).1) k_) ?_
    refine own_ww (T' := s₁) (g' := (mkF m 65 #[.val (.int pa), .val (.int pb), .val (.int pc'), .val (.int pd), .val (.int fl), .val (.int ln1), .val (.int ln2), .val (.int (1 : Int32)), .val (.int (((fl.toUInt32 >>> ((5 : Int32) &&& 31).toUInt32).toInt32) &&& (3 : Int32))), .val (.int ((pa &&& (255 : Int32)).toUInt32.toUInt16.toUInt32.toInt32)), .val (.int ((pb &&& (255 : Int32)).toUInt32.toUInt16.toUInt32.toInt32)), .unset, .unset, .unset, .unset, .unset, .unset, .unset] [(.int ((pa &&& (255 : Int32)).toUInt32.toUInt16.toUInt32.toInt32))])) (fun _ k_ => XS.iload X0.here hx rfl (hb hby at_63) rfl k_) ?_
    refine own_ww (T' := s₁) (g' := (mkF m 74 #[.val (.int pa), .val (.int pb), .val (.int pc'), .val (.int pd), .val (.int fl), .val (.int ln1), .val (.int ln2), .val (.int (1 : Int32)), .val (.int (((fl.toUInt32 >>> ((5 : Int32) &&& 31).toUInt32).toInt32) &&& (3 : Int32))), .val (.int ((pa &&& (255 : Int32)).toUInt32.toUInt16.toUInt32.toInt32)), .val (.int ((pb &&& (255 : Int32)).toUInt32.toUInt16.toUInt32.toInt32)), .unset, .unset, .unset, .unset, .unset, .unset, .unset] [(.int ((pa &&& (255 : Int32)).toUInt32.toUInt16.toUInt32.toInt32))])) (fun _ k_ => XS.goto X0.here hx rfl (pc0 := 65) (pc' := 74) rfl (hb hby at_65) (by decide) (by decide) k_) ?_
    refine own_ww (T' := s₁) (g' := (mkF m 76 #[.val (.int pa), .val (.int pb), .val (.int pc'), .val (.int pd), .val (.int fl), .val (.int ln1), .val (.int ln2), .val (.int (1 : Int32)), .val (.int (((fl.toUInt32 >>> ((5 : Int32) &&& 31).toUInt32).toInt32) &&& (3 : Int32))), .val (.int ((pa &&& (255 : Int32)).toUInt32.toUInt16.toUInt32.toInt32)), .val (.int ((pb &&& (255 : Int32)).toUInt32.toUInt16.toUInt32.toInt32)), .val (.int ((pa &&& (255 : Int32)).toUInt32.toUInt16.toUInt32.toInt32)), .unset, .unset, .unset, .unset, .unset, .unset] [])) (fun _ k_ => XS.istore X0.here hx rfl (hb hby at_74) rfl (l' := #[.val (.int pa), .val (.int pb), .val (.int pc'), .val (.int pd), .val (.int fl), .val (.int ln1), .val (.int ln2), .val (.int (1 : Int32)), .val (.int (((fl.toUInt32 >>> ((5 : Int32) &&& 31).toUInt32).toInt32) &&& (3 : Int32))), .val (.int ((pa &&& (255 : Int32)).toUInt32.toUInt16.toUInt32.toInt32)), .val (.int ((pb &&& (255 : Int32)).toUInt32.toUInt16.toUInt32.toInt32)), .val (.int ((pa &&& (255 : Int32)).toUInt32.toUInt16.toUInt32.toInt32)), .unset, .unset, .unset, .unset, .unset, .unset]) rfl k_) ?_
    refine own_ww (T' := s₁) (g' := (mkF m 78 #[.val (.int pa), .val (.int pb), .val (.int pc'), .val (.int pd), .val (.int fl), .val (.int ln1), .val (.int ln2), .val (.int (1 : Int32)), .val (.int (((fl.toUInt32 >>> ((5 : Int32) &&& 31).toUInt32).toInt32) &&& (3 : Int32))), .val (.int ((pa &&& (255 : Int32)).toUInt32.toUInt16.toUInt32.toInt32)), .val (.int ((pb &&& (255 : Int32)).toUInt32.toUInt16.toUInt32.toInt32)), .val (.int ((pa &&& (255 : Int32)).toUInt32.toUInt16.toUInt32.toInt32)), .unset, .unset, .unset, .unset, .unset, .unset] [(.int (1 : Int32))])) (fun _ k_ => XS.iload X0.here hx rfl (hb hby at_76) rfl k_) ?_
    refine own_ww (T' := s₁) (g' := (mkF m 81 #[.val (.int pa), .val (.int pb), .val (.int pc'), .val (.int pd), .val (.int fl), .val (.int ln1), .val (.int ln2), .val (.int (1 : Int32)), .val (.int (((fl.toUInt32 >>> ((5 : Int32) &&& 31).toUInt32).toInt32) &&& (3 : Int32))), .val (.int ((pa &&& (255 : Int32)).toUInt32.toUInt16.toUInt32.toInt32)), .val (.int ((pb &&& (255 : Int32)).toUInt32.toUInt16.toUInt32.toInt32)), .val (.int ((pa &&& (255 : Int32)).toUInt32.toUInt16.toUInt32.toInt32)), .unset, .unset, .unset, .unset, .unset, .unset] [])) (fun _ k_ => XS.ifNo X0.here hx rfl (hb hby at_78) rfl ((if0 _ _).trans (feq (by decide)).1) k_) ?_
    refine own_ww (T' := s₁) (g' := (mkF m 83 #[.val (.int pa), .val (.int pb), .val (.int pc'), .val (.int pd), .val (.int fl), .val (.int ln1), .val (.int ln2), .val (.int (1 : Int32)), .val (.int (((fl.toUInt32 >>> ((5 : Int32) &&& 31).toUInt32).toInt32) &&& (3 : Int32))), .val (.int ((pa &&& (255 : Int32)).toUInt32.toUInt16.toUInt32.toInt32)), .val (.int ((pb &&& (255 : Int32)).toUInt32.toUInt16.toUInt32.toInt32)), .val (.int ((pa &&& (255 : Int32)).toUInt32.toUInt16.toUInt32.toInt32)), .unset, .unset, .unset, .unset, .unset, .unset] [(.int ((pb &&& (255 : Int32)).toUInt32.toUInt16.toUInt32.toInt32))])) (fun _ k_ => XS.iload X0.here hx rfl (hb hby at_81) rfl k_) ?_
    refine own_ww (T' := s₁) (g' := (mkF m 92 #[.val (.int pa), .val (.int pb), .val (.int pc'), .val (.int pd), .val (.int fl), .val (.int ln1), .val (.int ln2), .val (.int (1 : Int32)), .val (.int (((fl.toUInt32 >>> ((5 : Int32) &&& 31).toUInt32).toInt32) &&& (3 : Int32))), .val (.int ((pa &&& (255 : Int32)).toUInt32.toUInt16.toUInt32.toInt32)), .val (.int ((pb &&& (255 : Int32)).toUInt32.toUInt16.toUInt32.toInt32)), .val (.int ((pa &&& (255 : Int32)).toUInt32.toUInt16.toUInt32.toInt32)), .unset, .unset, .unset, .unset, .unset, .unset] [(.int ((pb &&& (255 : Int32)).toUInt32.toUInt16.toUInt32.toInt32))])) (fun _ k_ => XS.goto X0.here hx rfl (pc0 := 83) (pc' := 92) rfl (hb hby at_83) (by decide) (by decide) k_) ?_
    refine own_ww (T' := s₁) (g' := (mkF m 94 #[.val (.int pa), .val (.int pb), .val (.int pc'), .val (.int pd), .val (.int fl), .val (.int ln1), .val (.int ln2), .val (.int (1 : Int32)), .val (.int (((fl.toUInt32 >>> ((5 : Int32) &&& 31).toUInt32).toInt32) &&& (3 : Int32))), .val (.int ((pa &&& (255 : Int32)).toUInt32.toUInt16.toUInt32.toInt32)), .val (.int ((pb &&& (255 : Int32)).toUInt32.toUInt16.toUInt32.toInt32)), .val (.int ((pa &&& (255 : Int32)).toUInt32.toUInt16.toUInt32.toInt32)), .val (.int ((pb &&& (255 : Int32)).toUInt32.toUInt16.toUInt32.toInt32)), .unset, .unset, .unset, .unset, .unset] [])) (fun _ k_ => XS.istore X0.here hx rfl (hb hby at_92) rfl (l' := #[.val (.int pa), .val (.int pb), .val (.int pc'), .val (.int pd), .val (.int fl), .val (.int ln1), .val (.int ln2), .val (.int (1 : Int32)), .val (.int (((fl.toUInt32 >>> ((5 : Int32) &&& 31).toUInt32).toInt32) &&& (3 : Int32))), .val (.int ((pa &&& (255 : Int32)).toUInt32.toUInt16.toUInt32.toInt32)), .val (.int ((pb &&& (255 : Int32)).toUInt32.toUInt16.toUInt32.toInt32)), .val (.int ((pa &&& (255 : Int32)).toUInt32.toUInt16.toUInt32.toInt32)), .val (.int ((pb &&& (255 : Int32)).toUInt32.toUInt16.toUInt32.toInt32)), .unset, .unset, .unset, .unset, .unset]) rfl k_) ?_
    exact J94 _ _ _ _ X0 e0 N0 hZ hown (own_since hS0 CB0.2.1) (CB0) (1 : Int32) ((pa &&& (255 : Int32)).toUInt32.toUInt16.toUInt32.toInt32) ((pb &&& (255 : Int32)).toUInt32.toUInt16.toUInt32.toInt32) ((pa &&& (255 : Int32)).toUInt32.toUInt16.toUInt32.toInt32) ((pb &&& (255 : Int32)).toUInt32.toUInt16.toUInt32.toInt32) ⟨own_ch1 pa, own_ch2 pa, own_ch0 pa⟩ ⟨own_ch1 pb, own_ch2 pb, own_ch0 pb⟩ ⟨own_ch1 pa, own_ch2 pa, own_ch0 pa⟩ ⟨own_ch1 pb, own_ch2 pb, own_ch0 pb⟩ S
theorem own_cs {args : Array Value} {Z : State} {t : Term} {k : Int32} (ev : t.eval args Z none [] Z = some (.int k)) (h : (Jvm.Cond.not (Jvm.Cond.eq t (Term.int 0))).value args Z none Z [] = some true) : ¬ k = (0 : Int32) := by
  have h1 := not_v h
  have e2 : (Term.int 0).eval args Z none [] Z = some (.int 0) := rfl
  simp only [Cond.value, ev, e2] at h1
  simpa using h1
set_option maxRecDepth 65536 in
set_option maxHeartbeats 40000000 in
theorem comes_1 {Post : Tables → Env → Array Value → State → Outcome → State → Prop} (hpost : ∀ tb e args s v u, (limb_1_1.after args s (.returned v) u = true ∧ limb_1_2.after args s (.returned v) u = true ∧ True) → ReturnedEndW s (.returned v) u (Jvm.fieldLocs frame_1_writes args s ++ Jvm.arrayLocs frame_1_arrays args s ++ Jvm.staticLocs frame_1_statics s) 32 1152 → Post tb e args s (.returned v) u) :
    ArmFor flags0 classFile x code maxLocals ret World_1 tables_1 room_1 Calls_1 rest_1 Pre_1 Post := by
  intro l hfl _ _ p e ha hc hk s m args below hf hA hF happ hP
  obtain ⟨hcalls, hrest, hpre⟩ := hP
  obtain ⟨-, -, -, hnamed, -, -, -, hat⟩ := (Spec.applies_iff hf).mp happ
  obtain ⟨hg, hn⟩ := and_e (Cond.before_iff.mp (show (Jvm.Cond.and given_1 narrow_1).before args s = true from hpre))
  obtain ⟨hcount, hr0⟩ := and_e hg
  obtain ⟨ga0, hr1⟩ := and_e hr0
  obtain ⟨ga1, hr2⟩ := and_e hr1
  obtain ⟨ga2, hr3⟩ := and_e hr2
  obtain ⟨ga3, hr4⟩ := and_e hr3
  have ga4 := hr4
  obtain ⟨w0, w1, w2, w3, w4, rfl⟩ : ∃ w0 w1 w2 w3 w4 : Value, args = #[w0, w1, w2, w3, w4] := by
    have hs : args.size = 5 := by simpa [Cond.value, given_1] using hcount
    obtain ⟨L⟩ := args
    match L, hs with
    | [w0, w1, w2, w3, w4], _ => exact ⟨w0, w1, w2, w3, w4, rfl⟩
  have hw := fun d (hd : d ∈ tables_1) => atoms_spec (ws := Jvm.Cond.code x code maxLocals ret :: tables_1) hat d (List.mem_cons_of_mem _ hd)
  obtain ⟨i0, ei0⟩ := is_v ga0
  obtain rfl : w0 = (.int i0) := Option.some.inj ei0
  obtain ⟨i1, ei1⟩ := is_v ga1
  obtain rfl : w1 = (.int i1) := Option.some.inj ei1
  obtain ⟨i2, ei2⟩ := is_v ga2
  obtain rfl : w2 = (.int i2) := Option.some.inj ei2
  obtain ⟨i3, ei3⟩ := is_v ga3
  obtain rfl : w3 = (.int i3) := Option.some.inj ei3
  obtain ⟨i4, ei4⟩ := is_v ga4
  obtain rfl : w4 = (.int i4) := Option.some.inj ei4
  obtain ⟨hsets, hown0⟩ := atoms_of _ (rest_1_c_eq ▸ (show rest_1_c.before _ s = true from hrest))
  have hcw0 := hsets _ (List.mem_of_getElem? (i := 2) rfl)
  obtain ⟨cs, ecs⟩ := is_v (Cond.before_iff.mp (hsets _ (List.mem_of_getElem? (i := 1) rfl)))
  have S := Sta.start ecs (Or.inl (hsets _ (List.mem_of_getElem? (i := 0) rfl)))
  have hcs : ¬ cs = (0 : Int32) := own_cs ecs (Cond.before_iff.mp hcw0)
  have hCH : CHv s own_EL s.vm s.heap := CHv.start (own_EW hw) (fun p hp => hcalls.1 p hp) hcw0 (hw _ (List.mem_of_getElem? (i := 19) rfl)) (hw _ (List.mem_of_getElem? (i := 6) rfl))
  obtain ⟨n, o, h1, h2, h3, _, L, rfl, ⟨rfl, N⟩, -, hq⟩ := own_rm0 l s _ hw tables_1 i0 i1 i2 i3 i4 cs s.heap s.heap.size (Nat.le_refl _) hcs S p e ha hc hk s m _ below hf ((Spec.applies_iff_loose hf).mp happ).1 ⟨rfl, State.Warmed39.refl s, rfl, hCH⟩ trivial
  refine ⟨n, _, h1, h2, h3, hpost _ _ _ _ _ _ ⟨Cond.after_iff.mpr rfl, Cond.after_iff.mpr (eq_i res_at (Term.int_eval (1)) rfl), trivial⟩ ⟨hq.1, hq.2.1, hq.2.2.1, (hq.2.2.2.sift fun y hy => Or.inr (N y hy)).mono (by decide) (by decide)⟩⟩
theorem main_1_1 : Claimed_1_1 := comes_1 fun _ _ _ _ _ _ h hF => ⟨h.1, hF⟩
theorem main_1_2 : Claimed_1_2 := comes_1 fun _ _ _ _ _ _ h hF => ⟨h.2.1, hF⟩
end Jvm.Pilot.@@N@@
namespace Jvm.Pilot.@@N@@
open Jvm Jvm.ClassFile Sem Op Lib Jvm.Free Jvm.Stand Jvm.Pilot.@@N@@.Jvm.D
/-! MADE BY PROGRAM (witnessworld.py) out of the Statement's table words and the real class files: 20 classes; the members and pool entries that the words name. The judged class is class 1, her method 1. -/
namespace start1
open Jvm.ClassFile
def u (s : String) : CpInfo := .utf8 (stringToUtf16 s)
/-- a pool by its gaps: so many unusable entries, then the entry; so many at the end -/
def gap : Nat → List CpInfo → List CpInfo
  | 0, r => r
  | n + 1, r => .unusable :: gap n r
def poolList (es : List (Nat × CpInfo)) (last : Nat) : List CpInfo := es.foldr (fun e r => gap e.1 (e.2 :: r)) (gap last [])
def pool (es : List (Nat × CpInfo)) (last : Nat) : Array CpInfo := ⟨poolList es last⟩
def fileOf (pool : Array CpInfo) (this : Nat) (attrs : Array Attribute := #[]) (ms : Array MethodInfo := #[]) (fl : Nat := 33) (sup : Nat := 0) (ifs : Array Nat := #[]) (fds : Array FieldInfo := #[]) : ClassFile where
  minorVersion := 0
  majorVersion := 65
  constantPool := pool
  accessFlags := fl
  thisClass := this
  superClass := sup
  interfaces := ifs
  fields := fds
  methods := ms
  attributes := attrs
def plain (name : String) (sup : Option ClassId) : Class where
  name := name
  kind := .ordinary
  loader := none
  accessFlags := 33
  super := sup
  interfaces := #[]
  cf := none
  fields := #[]
  methods := #[]
  instanceTypes := #[]
  staticTypes := #[]
  resolved := #[]
  callSites := []
  init := .initialized
  statics := none
  mirror := none

def pool0 : Array CpInfo := pool [(5, u "<init>"), (0, u "()V"), (1, .class_ 10), (1, u "java/lang/Object")] 113

def k0c0 : Code := { maxStack := 0, maxLocals := 1, code := object_method_1_code, exceptionTable := #[], attributes := #[] }
def k0m0 : Method := { name := "<init>", desc := "()V", sig := { parameters := [], returnType := none }, accessFlags := 1, code := some k0c0 }
/-- java/lang/Object -/
def k0 : Class := { plain "java/lang/Object" none with
  accessFlags := 33
  interfaces := #[]
  cf := some (fileOf pool0 8 #[] #[{ accessFlags := 1, nameIndex := 5, descriptorIndex := 6, attributes := #[] }] 33 0 #[] #[])
  fields := #[]
  methods := #[k0m0]
  instanceTypes := #[]
  staticTypes := #[]
  resolved := Array.replicate 124 none
  statics := none }

def pool1 : Array CpInfo := pool [(2, .class_ 4), (1, u "java/lang/Object"), (0, u "<init>"), (0, u "()V"), (0, .methodref 8 9), (0, .class_ 10), (0, .nameAndType 11 12), (0, u "com/example/marshal_trust/marshaltrust/FunctionGroupEqualsPinLaw"), (0, u "make"), (0, u "(ICC)Ljava/lang/String;"), (0, .class_ 14), (0, u "com/example/marshal_trust/marshaltrust/FunctionGroup"), (0, .methodref 13 16), (0, .nameAndType 5 17), (0, u "(Ljava/lang/String;)V"), (0, .methodref 13 19), (0, .nameAndType 20 21), (0, u "equals"), (0, u "(Ljava/lang/Object;)Z"), (0, .class_ 23), (0, u "java/lang/String"), (0, .methodref 22 25), (0, .nameAndType 5 26), (0, u "([C)V"), (2, u "law"), (0, u "(IIIII)Z")] 5

def k1m0 : Method := { name := "<init>", desc := "()V", sig := { parameters := [], returnType := none }, accessFlags := 1, code := none }
def k1c1 : Code := { maxStack := 3, maxLocals := 18, code := code, exceptionTable := #[], attributes := #[] }
def k1m1 : Method := { name := "law", desc := "(IIIII)Z", sig := { parameters := [.int, .int, .int, .int, .int], returnType := some .boolean }, accessFlags := 9, code := some k1c1 }
def k1c2 : Code := { maxStack := 3, maxLocals := 4, code := method_3_code, exceptionTable := #[], attributes := #[] }
def k1m2 : Method := { name := "make", desc := "(ICC)Ljava/lang/String;", sig := { parameters := [.int, .char, .char], returnType := some (.object "java/lang/String") }, accessFlags := 10, code := some k1c2 }
/-- com/example/marshal_trust/marshaltrust/FunctionGroupEqualsPinLaw -/
def k1 : Class := { plain "com/example/marshal_trust/marshaltrust/FunctionGroupEqualsPinLaw" (some 0) with
  accessFlags := 49
  interfaces := #[]
  cf := some (fileOf pool1 8 #[] #[{ accessFlags := 1, nameIndex := 5, descriptorIndex := 6, attributes := #[] }, { accessFlags := 9, nameIndex := 29, descriptorIndex := 30, attributes := #[] }, { accessFlags := 10, nameIndex := 11, descriptorIndex := 12, attributes := #[] }] 49 2 #[] #[])
  fields := #[]
  methods := #[k1m0, k1m1, k1m2]
  instanceTypes := #[]
  staticTypes := #[]
  resolved := Array.replicate 36 none
  statics := none }

def pool2 : Array CpInfo := pool [(1, .class_ 2), (0, u "java/io/Serializable"), (0, .class_ 4), (0, u "java/lang/Object")] 2

/-- java/io/Serializable -/
def k2 : Class := { plain "java/io/Serializable" (some 0) with
  accessFlags := 1537
  interfaces := #[]
  cf := some (fileOf pool2 1 #[] #[] 1537 3 #[] #[])
  fields := #[]
  methods := #[]
  instanceTypes := #[]
  staticTypes := #[]
  resolved := Array.replicate 7 none
  statics := none }

def pool3 : Array CpInfo := pool [(1, .class_ 2), (0, u "java/lang/Comparable"), (0, .class_ 4), (0, u "java/lang/Object")] 7

/-- java/lang/Comparable -/
def k3 : Class := { plain "java/lang/Comparable" (some 0) with
  accessFlags := 1537
  interfaces := #[]
  cf := some (fileOf pool3 1 #[] #[] 1537 3 #[] #[])
  fields := #[]
  methods := #[]
  instanceTypes := #[]
  staticTypes := #[]
  resolved := Array.replicate 12 none
  statics := none }

def pool4 : Array CpInfo := pool [(2, .class_ 4), (1, u "java/lang/CharSequence"), (42, .class_ 48), (0, u "java/lang/CharSequence$1CodePointIterator"), (10, .class_ 60), (0, u "java/lang/CharSequence$1CharIterator"), (5, .class_ 67), (0, u "java/lang/Object")] 63

/-- java/lang/CharSequence -/
def k4 : Class := { plain "java/lang/CharSequence" (some 0) with
  accessFlags := 1537
  interfaces := #[]
  cf := some (fileOf pool4 2 #[.nestMembers #[47, 59]] #[] 1537 66 #[] #[])
  fields := #[]
  methods := #[]
  instanceTypes := #[]
  staticTypes := #[]
  resolved := Array.replicate 131 none
  statics := none }

def pool5 : Array CpInfo := pool [(1, .class_ 2), (0, u "java/lang/constant/Constable"), (0, .class_ 4), (0, u "java/lang/Object")] 6

/-- java/lang/constant/Constable -/
def k5 : Class := { plain "java/lang/constant/Constable" (some 0) with
  accessFlags := 1537
  interfaces := #[]
  cf := some (fileOf pool5 1 #[] #[] 1537 3 #[] #[])
  fields := #[]
  methods := #[]
  instanceTypes := #[]
  staticTypes := #[]
  resolved := Array.replicate 11 none
  statics := none }

def pool6 : Array CpInfo := pool [(1, .class_ 2), (0, u "java/lang/constant/ConstantDesc"), (0, .class_ 4), (0, u "java/lang/Object")] 32

/-- java/lang/constant/ConstantDesc -/
def k6 : Class := { plain "java/lang/constant/ConstantDesc" (some 0) with
  accessFlags := 1537
  interfaces := #[]
  cf := some (fileOf pool6 1 #[] #[] 1537 3 #[] #[])
  fields := #[]
  methods := #[]
  instanceTypes := #[]
  staticTypes := #[]
  resolved := Array.replicate 37 none
  statics := none }

def pool7 : Array CpInfo := pool [(1, .methodref 2 3), (0, .class_ 4), (0, .nameAndType 5 6), (0, u "java/lang/Object"), (0, u "<init>"), (0, u "()V"), (0, .string 8), (0, u ""), (0, .fieldref 10 11), (0, .class_ 12), (0, .nameAndType 13 14), (0, u "java/lang/String"), (0, u "value"), (0, u "[B"), (0, .fieldref 10 16), (0, .nameAndType 17 18), (0, u "coder"), (0, u "B"), (2, u "hash"), (0, u "I"), (2, u "hashIsZero"), (0, u "Z"), (0, .methodref 10 28), (0, .nameAndType 5 29), (0, u "([CIILjava/lang/Void;)V"), (8, .fieldref 10 39), (0, .nameAndType 40 26), (0, u "COMPACT_STRINGS"), (1, .class_ 44), (1, u "java/lang/StringUTF16"), (0, u "compress"), (1, .methodref 42 48), (0, .nameAndType 49 50), (0, u "coderFromArrayLen"), (0, u "([BI)B"), (56, .class_ 109), (1, u "java/lang/StringLatin1"), (67, .methodref 42 178), (0, .nameAndType 45 179), (0, u "([CII)[B"), (361, .methodref 107 542), (0, .nameAndType 543 544), (0, u "equals"), (0, u "([B[B)Z"), (28, u "(Ljava/lang/Object;)Z"), (1, .class_ 576), (0, u "java/lang/CharSequence"), (22, u "CASE_INSENSITIVE_ORDER"), (0, u "Ljava/util/Comparator;"), (409, u "([C)V"), (90, u "serialPersistentFields"), (0, u "[Ljava/io/ObjectStreamField;"), (0, .class_ 1104), (0, u "java/lang/String$CaseInsensitiveComparator"), (1, .class_ 1107), (0, u "java/io/Serializable"), (0, .class_ 1109), (0, u "java/lang/Comparable"), (0, .class_ 1111), (0, u "java/lang/constant/Constable"), (0, .class_ 1113), (0, u "java/lang/constant/ConstantDesc"), (2, u "serialVersionUID"), (0, u "J"), (3, u "REPL"), (0, u "C"), (2, u "LATIN1"), (1, u "UTF16")] 323

def k7m0 : Method := { name := "<init>", desc := "()V", sig := { parameters := [], returnType := none }, accessFlags := 1, code := none }
def k7c1 : Code := { maxStack := 5, maxLocals := 2, code := jdk_42_method_3_code, exceptionTable := #[], attributes := #[] }
def k7m1 : Method := { name := "<init>", desc := "([C)V", sig := { parameters := [(.array .char)], returnType := none }, accessFlags := 1, code := some k7c1 }
def k7c2 : Code := { maxStack := 2, maxLocals := 3, code := jdk_42_method_66_code, exceptionTable := #[], attributes := #[] }
def k7m2 : Method := { name := "equals", desc := "(Ljava/lang/Object;)Z", sig := { parameters := [(.object "java/lang/Object")], returnType := some .boolean }, accessFlags := 1, code := some k7c2 }
def k7c3 : Code := { maxStack := 4, maxLocals := 6, code := jdk_42_method_149_code, exceptionTable := #[], attributes := #[] }
def k7m3 : Method := { name := "<init>", desc := "([CIILjava/lang/Void;)V", sig := { parameters := [(.array .char), .int, .int, (.object "java/lang/Void")], returnType := none }, accessFlags := 2, code := some k7c3 }
/-- java/lang/String -/
def k7 : Class := { plain "java/lang/String" (some 0) with
  accessFlags := 49
  interfaces := #[2, 3, 4, 5, 6]
  cf := some (fileOf pool7 10 #[.nestMembers #[1103]] #[{ accessFlags := 1, nameIndex := 5, descriptorIndex := 6, attributes := #[] }, { accessFlags := 1, nameIndex := 5, descriptorIndex := 1010, attributes := #[] }, { accessFlags := 1, nameIndex := 543, descriptorIndex := 573, attributes := #[] }, { accessFlags := 2, nameIndex := 5, descriptorIndex := 29, attributes := #[] }] 49 2 #[1106, 1108, 575, 1110, 1112] #[{ accessFlags := 18, nameIndex := 13, descriptorIndex := 14, attributes := #[] }, { accessFlags := 18, nameIndex := 17, descriptorIndex := 18, attributes := #[] }, { accessFlags := 2, nameIndex := 21, descriptorIndex := 22, attributes := #[] }, { accessFlags := 2, nameIndex := 25, descriptorIndex := 26, attributes := #[] }, { accessFlags := 26, nameIndex := 1116, descriptorIndex := 1117, attributes := #[] }, { accessFlags := 24, nameIndex := 40, descriptorIndex := 26, attributes := #[] }, { accessFlags := 26, nameIndex := 1101, descriptorIndex := 1102, attributes := #[] }, { accessFlags := 26, nameIndex := 1121, descriptorIndex := 1122, attributes := #[] }, { accessFlags := 25, nameIndex := 599, descriptorIndex := 600, attributes := #[] }, { accessFlags := 24, nameIndex := 1125, descriptorIndex := 18, attributes := #[] }, { accessFlags := 24, nameIndex := 1127, descriptorIndex := 18, attributes := #[] }])
  fields := #[{ name := "value", type := (.array .byte), accessFlags := 18, slot := 0, constantValue := 0 }, { name := "coder", type := .byte, accessFlags := 18, slot := 1, constantValue := 0 }, { name := "hash", type := .int, accessFlags := 2, slot := 2, constantValue := 0 }, { name := "hashIsZero", type := .boolean, accessFlags := 2, slot := 3, constantValue := 0 }, { name := "serialVersionUID", type := .long, accessFlags := 26, slot := 0, constantValue := 0 }, { name := "COMPACT_STRINGS", type := .boolean, accessFlags := 24, slot := 1, constantValue := 0 }, { name := "serialPersistentFields", type := (.array (.object "java/io/ObjectStreamField")), accessFlags := 26, slot := 2, constantValue := 0 }, { name := "REPL", type := .char, accessFlags := 26, slot := 3, constantValue := 0 }, { name := "CASE_INSENSITIVE_ORDER", type := (.object "java/util/Comparator"), accessFlags := 25, slot := 4, constantValue := 0 }, { name := "LATIN1", type := .byte, accessFlags := 24, slot := 5, constantValue := 0 }, { name := "UTF16", type := .byte, accessFlags := 24, slot := 6, constantValue := 0 }]
  methods := #[k7m0, k7m1, k7m2, k7m3]
  instanceTypes := #[(.array .byte), .byte, .int, .boolean]
  staticTypes := #[.long, .boolean, (.array (.object "java/io/ObjectStreamField")), .char, (.object "java/util/Comparator"), .byte, .byte]
  resolved := Array.replicate 1451 none
  statics := some 0 }

def pool8 : Array CpInfo := pool [(1, .methodref 2 3), (0, .class_ 4), (0, .nameAndType 5 6), (0, u "java/lang/Object"), (0, u "<init>"), (0, u "()V"), (0, .fieldref 8 9), (0, .class_ 10), (0, .nameAndType 11 12), (0, u "com/example/marshal_trust/marshaltrust/FunctionGroup"), (0, u "label"), (0, u "Ljava/lang/String;"), (0, .methodref 14 15), (0, .class_ 16), (0, .nameAndType 17 18), (0, u "java/lang/String"), (0, u "equals"), (0, u "(Ljava/lang/Object;)Z"), (8, u "(Ljava/lang/String;)V"), (2, u "PHONE_CALL"), (0, u "Lcom/example/marshal_trust/marshaltrust/FunctionGroup;"), (4, u "NET_ACCESS"), (4, u "MESSAGING"), (4, u "APPLICATION_AUTO_INVOCATION"), (4, u "LOCAL_CONNECTIVITY"), (4, u "MULTIMEDIA_RECORDING"), (4, u "READ_USER_DATA_ACCESS"), (4, u "WRITE_USER_DATA_ACCESS")] 8

def k8c0 : Code := { maxStack := 2, maxLocals := 2, code := prog_12_method_1_code, exceptionTable := #[], attributes := #[] }
def k8m0 : Method := { name := "<init>", desc := "(Ljava/lang/String;)V", sig := { parameters := [(.object "java/lang/String")], returnType := none }, accessFlags := 0, code := some k8c0 }
def k8c1 : Code := { maxStack := 2, maxLocals := 2, code := prog_12_method_3_code, exceptionTable := #[], attributes := #[] }
def k8m1 : Method := { name := "equals", desc := "(Ljava/lang/Object;)Z", sig := { parameters := [(.object "java/lang/Object")], returnType := some .boolean }, accessFlags := 1, code := some k8c1 }
/-- com/example/marshal_trust/marshaltrust/FunctionGroup -/
def k8 : Class := { plain "com/example/marshal_trust/marshaltrust/FunctionGroup" (some 0) with
  accessFlags := 49
  interfaces := #[]
  cf := some (fileOf pool8 8 #[] #[{ accessFlags := 0, nameIndex := 5, descriptorIndex := 27, attributes := #[] }, { accessFlags := 1, nameIndex := 17, descriptorIndex := 18, attributes := #[] }] 49 2 #[] #[{ accessFlags := 25, nameIndex := 30, descriptorIndex := 31, attributes := #[] }, { accessFlags := 25, nameIndex := 36, descriptorIndex := 31, attributes := #[] }, { accessFlags := 25, nameIndex := 41, descriptorIndex := 31, attributes := #[] }, { accessFlags := 25, nameIndex := 46, descriptorIndex := 31, attributes := #[] }, { accessFlags := 25, nameIndex := 51, descriptorIndex := 31, attributes := #[] }, { accessFlags := 25, nameIndex := 56, descriptorIndex := 31, attributes := #[] }, { accessFlags := 25, nameIndex := 61, descriptorIndex := 31, attributes := #[] }, { accessFlags := 25, nameIndex := 66, descriptorIndex := 31, attributes := #[] }, { accessFlags := 18, nameIndex := 11, descriptorIndex := 12, attributes := #[] }])
  fields := #[{ name := "PHONE_CALL", type := (.object "com/example/marshal_trust/marshaltrust/FunctionGroup"), accessFlags := 25, slot := 0, constantValue := 0 }, { name := "NET_ACCESS", type := (.object "com/example/marshal_trust/marshaltrust/FunctionGroup"), accessFlags := 25, slot := 1, constantValue := 0 }, { name := "MESSAGING", type := (.object "com/example/marshal_trust/marshaltrust/FunctionGroup"), accessFlags := 25, slot := 2, constantValue := 0 }, { name := "APPLICATION_AUTO_INVOCATION", type := (.object "com/example/marshal_trust/marshaltrust/FunctionGroup"), accessFlags := 25, slot := 3, constantValue := 0 }, { name := "LOCAL_CONNECTIVITY", type := (.object "com/example/marshal_trust/marshaltrust/FunctionGroup"), accessFlags := 25, slot := 4, constantValue := 0 }, { name := "MULTIMEDIA_RECORDING", type := (.object "com/example/marshal_trust/marshaltrust/FunctionGroup"), accessFlags := 25, slot := 5, constantValue := 0 }, { name := "READ_USER_DATA_ACCESS", type := (.object "com/example/marshal_trust/marshaltrust/FunctionGroup"), accessFlags := 25, slot := 6, constantValue := 0 }, { name := "WRITE_USER_DATA_ACCESS", type := (.object "com/example/marshal_trust/marshaltrust/FunctionGroup"), accessFlags := 25, slot := 7, constantValue := 0 }, { name := "label", type := (.object "java/lang/String"), accessFlags := 18, slot := 0, constantValue := 0 }]
  methods := #[k8m0, k8m1]
  instanceTypes := #[(.object "java/lang/String")]
  staticTypes := #[(.object "com/example/marshal_trust/marshaltrust/FunctionGroup"), (.object "com/example/marshal_trust/marshaltrust/FunctionGroup"), (.object "com/example/marshal_trust/marshaltrust/FunctionGroup"), (.object "com/example/marshal_trust/marshaltrust/FunctionGroup"), (.object "com/example/marshal_trust/marshaltrust/FunctionGroup"), (.object "com/example/marshal_trust/marshaltrust/FunctionGroup"), (.object "com/example/marshal_trust/marshaltrust/FunctionGroup"), (.object "com/example/marshal_trust/marshaltrust/FunctionGroup")]
  resolved := Array.replicate 75 none
  statics := none }

def pool9 : Array CpInfo := pool [(4, .class_ 6), (1, u "java/lang/Object"), (0, u "<init>"), (0, u "()V"), (5, .class_ 16), (1, u "java/lang/StringLatin1"), (104, u "$assertionsDisabled"), (0, u "Z"), (98, .class_ 223), (1, u "java/lang/StringLatin1$LinesSpliterator"), (57, u "equals"), (0, u "([B[B)Z"), (107, .class_ 391), (0, u "java/lang/StringLatin1$CharsSpliterator")] 3

def k9m0 : Method := { name := "<init>", desc := "()V", sig := { parameters := [], returnType := none }, accessFlags := 0, code := none }
def k9c1 : Code := { maxStack := 3, maxLocals := 3, code := jdk_43_method_13_code, exceptionTable := #[], attributes := #[] }
def k9m1 : Method := { name := "equals", desc := "([B[B)Z", sig := { parameters := [(.array .byte), (.array .byte)], returnType := some .boolean }, accessFlags := 9, code := some k9c1 }
/-- java/lang/StringLatin1 -/
def k9 : Class := { plain "java/lang/StringLatin1" (some 0) with
  accessFlags := 48
  interfaces := #[]
  cf := some (fileOf pool9 14 #[.nestMembers #[390, 221]] #[{ accessFlags := 0, nameIndex := 7, descriptorIndex := 8, attributes := #[] }, { accessFlags := 9, nameIndex := 281, descriptorIndex := 282, attributes := #[] }] 48 4 #[] #[{ accessFlags := 4120, nameIndex := 121, descriptorIndex := 122, attributes := #[] }])
  fields := #[{ name := "$assertionsDisabled", type := .boolean, accessFlags := 4120, slot := 0, constantValue := 0 }]
  methods := #[k9m0, k9m1]
  instanceTypes := #[]
  staticTypes := #[.boolean]
  resolved := Array.replicate 395 none
  statics := none }

def pool10 : Array CpInfo := pool [(6, .class_ 8), (1, u "java/lang/Object"), (0, u "<init>"), (0, u "()V"), (1, .class_ 14), (1, u "java/lang/StringUTF16"), (31, u "$assertionsDisabled"), (0, u "Z"), (13, u "HI_BYTE_SHIFT"), (0, u "I"), (2, u "LO_BYTE_SHIFT"), (49, .methodref 12 116), (0, .nameAndType 117 118), (0, u "compress"), (0, u "([CI[BII)I"), (3, u "([CII)[B"), (138, u "coderFromArrayLen"), (0, u "([BI)B"), (106, .class_ 371), (1, u "java/lang/StringUTF16$LinesSpliterator"), (58, u "MAX_LENGTH"), (196, .class_ 628), (0, u "java/lang/StringUTF16$CodePointsSpliterator"), (0, .class_ 630), (0, u "java/lang/StringUTF16$CharsSpliterator")] 4

def k10m0 : Method := { name := "<init>", desc := "()V", sig := { parameters := [], returnType := none }, accessFlags := 0, code := none }
def k10c1 : Code := { maxStack := 2, maxLocals := 2, code := jdk_52_method_15_code, exceptionTable := #[], attributes := #[] }
def k10m1 : Method := { name := "coderFromArrayLen", desc := "([BI)B", sig := { parameters := [(.array .byte), .int], returnType := some .byte }, accessFlags := 8, code := some k10c1 }
def k10c2 : Code := { maxStack := 5, maxLocals := 6, code := jdk_52_method_16_code, exceptionTable := #[], attributes := #[] }
def k10m2 : Method := { name := "compress", desc := "([CII)[B", sig := { parameters := [(.array .char), .int, .int], returnType := some (.array .byte) }, accessFlags := 9, code := some k10c2 }
def k10c3 : Code := { maxStack := 3, maxLocals := 7, code := jdk_52_method_21_code, exceptionTable := #[], attributes := #[] }
def k10m3 : Method := { name := "compress", desc := "([CI[BII)I", sig := { parameters := [(.array .char), .int, (.array .byte), .int, .int], returnType := some .int }, accessFlags := 9, code := some k10c3 }
/-- java/lang/StringUTF16 -/
def k10 : Class := { plain "java/lang/StringUTF16" (some 0) with
  accessFlags := 48
  interfaces := #[]
  cf := some (fileOf pool10 12 #[.nestMembers #[627, 629, 369]] #[{ accessFlags := 0, nameIndex := 9, descriptorIndex := 10, attributes := #[] }, { accessFlags := 8, nameIndex := 261, descriptorIndex := 262, attributes := #[] }, { accessFlags := 9, nameIndex := 117, descriptorIndex := 122, attributes := #[] }, { accessFlags := 9, nameIndex := 117, descriptorIndex := 118, attributes := #[] }] 48 6 #[] #[{ accessFlags := 26, nameIndex := 61, descriptorIndex := 62, attributes := #[] }, { accessFlags := 26, nameIndex := 65, descriptorIndex := 62, attributes := #[] }, { accessFlags := 24, nameIndex := 430, descriptorIndex := 62, attributes := #[] }, { accessFlags := 4120, nameIndex := 46, descriptorIndex := 47, attributes := #[] }])
  fields := #[{ name := "HI_BYTE_SHIFT", type := .int, accessFlags := 26, slot := 0, constantValue := 0 }, { name := "LO_BYTE_SHIFT", type := .int, accessFlags := 26, slot := 1, constantValue := 0 }, { name := "MAX_LENGTH", type := .int, accessFlags := 24, slot := 2, constantValue := 0 }, { name := "$assertionsDisabled", type := .boolean, accessFlags := 4120, slot := 3, constantValue := 0 }]
  methods := #[k10m0, k10m1, k10m2, k10m3]
  instanceTypes := #[]
  staticTypes := #[.int, .int, .int, .boolean]
  resolved := Array.replicate 635 none
  statics := none }

def pool11 : Array CpInfo := pool [(2, .class_ 4), (1, u "java/lang/Object"), (0, u "<init>"), (0, u "()V"), (17, .class_ 26), (1, u "jdk/internal/util/Preconditions"), (28, .class_ 56), (0, u "jdk/internal/util/Preconditions$4"), (57, .class_ 115), (0, u "jdk/internal/util/Preconditions$1"), (7, u "SIOOBE_FORMATTER"), (0, u "Ljava/util/function/BiFunction;"), (0, .class_ 126), (0, u "jdk/internal/util/Preconditions$2"), (3, u "AIOOBE_FORMATTER"), (0, .class_ 132), (0, u "jdk/internal/util/Preconditions$3"), (3, u "IOOBE_FORMATTER")] 57

def k11m0 : Method := { name := "<init>", desc := "()V", sig := { parameters := [], returnType := none }, accessFlags := 1, code := none }
/-- jdk/internal/util/Preconditions -/
def k11 : Class := { plain "jdk/internal/util/Preconditions" (some 0) with
  accessFlags := 33
  interfaces := #[]
  cf := some (fileOf pool11 24 #[.nestMembers #[55, 131, 125, 114]] #[{ accessFlags := 1, nameIndex := 5, descriptorIndex := 6, attributes := #[] }] 33 2 #[] #[{ accessFlags := 25, nameIndex := 123, descriptorIndex := 124, attributes := #[] }, { accessFlags := 25, nameIndex := 130, descriptorIndex := 124, attributes := #[] }, { accessFlags := 25, nameIndex := 136, descriptorIndex := 124, attributes := #[] }])
  fields := #[{ name := "SIOOBE_FORMATTER", type := (.object "java/util/function/BiFunction"), accessFlags := 25, slot := 0, constantValue := 0 }, { name := "AIOOBE_FORMATTER", type := (.object "java/util/function/BiFunction"), accessFlags := 25, slot := 1, constantValue := 0 }, { name := "IOOBE_FORMATTER", type := (.object "java/util/function/BiFunction"), accessFlags := 25, slot := 2, constantValue := 0 }]
  methods := #[k11m0]
  instanceTypes := #[]
  staticTypes := #[(.object "java/util/function/BiFunction"), (.object "java/util/function/BiFunction"), (.object "java/util/function/BiFunction")]
  resolved := Array.replicate 194 none
  statics := some 1 }

def pool12 : Array CpInfo := pool [(9, u "<init>"), (6, .class_ 18), (1, u "java/lang/Object"), (0, u "()V"), (1, .class_ 23), (1, u "jdk/internal/util/ArraysSupport"), (0, u "LOG2_ARRAY_LONG_INDEX_SCALE"), (0, u "I"), (2, u "U"), (0, u "Ljdk/internal/misc/Unsafe;"), (8, u "BIG_ENDIAN"), (0, u "Z"), (8, u "LOG2_BYTE_BIT_SIZE"), (4, u "LOG2_ARRAY_INT_INDEX_SCALE"), (54, u "JLA"), (0, u "Ljdk/internal/access/JavaLangAccess;"), (11, u "LOG2_ARRAY_BOOLEAN_INDEX_SCALE"), (9, u "LOG2_ARRAY_BYTE_INDEX_SCALE"), (5, u "LOG2_ARRAY_CHAR_INDEX_SCALE"), (5, u "LOG2_ARRAY_SHORT_INDEX_SCALE"), (18, u "LOG2_ARRAY_FLOAT_INDEX_SCALE"), (24, u "LOG2_ARRAY_DOUBLE_INDEX_SCALE"), (89, u "T_BOOLEAN"), (2, u "T_CHAR"), (1, u "T_FLOAT"), (1, u "T_DOUBLE"), (1, u "T_BYTE"), (1, u "T_SHORT"), (1, u "T_INT"), (1, u "T_LONG"), (1, u "SOFT_MAX_ARRAY_LENGTH")] 83

def k12m0 : Method := { name := "<init>", desc := "()V", sig := { parameters := [], returnType := none }, accessFlags := 2, code := none }
/-- jdk/internal/util/ArraysSupport -/
def k12 : Class := { plain "jdk/internal/util/ArraysSupport" (some 0) with
  accessFlags := 33
  interfaces := #[]
  cf := some (fileOf pool12 21 #[] #[{ accessFlags := 2, nameIndex := 9, descriptorIndex := 19, attributes := #[] }] 33 16 #[] #[{ accessFlags := 24, nameIndex := 28, descriptorIndex := 29, attributes := #[] }, { accessFlags := 26, nameIndex := 38, descriptorIndex := 39, attributes := #[] }, { accessFlags := 25, nameIndex := 121, descriptorIndex := 25, attributes := #[] }, { accessFlags := 25, nameIndex := 131, descriptorIndex := 25, attributes := #[] }, { accessFlags := 25, nameIndex := 137, descriptorIndex := 25, attributes := #[] }, { accessFlags := 25, nameIndex := 143, descriptorIndex := 25, attributes := #[] }, { accessFlags := 25, nameIndex := 53, descriptorIndex := 25, attributes := #[] }, { accessFlags := 25, nameIndex := 24, descriptorIndex := 25, attributes := #[] }, { accessFlags := 25, nameIndex := 162, descriptorIndex := 25, attributes := #[] }, { accessFlags := 25, nameIndex := 187, descriptorIndex := 25, attributes := #[] }, { accessFlags := 26, nameIndex := 48, descriptorIndex := 25, attributes := #[] }, { accessFlags := 25, nameIndex := 277, descriptorIndex := 25, attributes := #[] }, { accessFlags := 25, nameIndex := 280, descriptorIndex := 25, attributes := #[] }, { accessFlags := 25, nameIndex := 282, descriptorIndex := 25, attributes := #[] }, { accessFlags := 25, nameIndex := 284, descriptorIndex := 25, attributes := #[] }, { accessFlags := 25, nameIndex := 286, descriptorIndex := 25, attributes := #[] }, { accessFlags := 25, nameIndex := 288, descriptorIndex := 25, attributes := #[] }, { accessFlags := 25, nameIndex := 290, descriptorIndex := 25, attributes := #[] }, { accessFlags := 25, nameIndex := 292, descriptorIndex := 25, attributes := #[] }, { accessFlags := 26, nameIndex := 108, descriptorIndex := 109, attributes := #[] }, { accessFlags := 25, nameIndex := 294, descriptorIndex := 25, attributes := #[] }])
  fields := #[{ name := "U", type := (.object "jdk/internal/misc/Unsafe"), accessFlags := 24, slot := 0, constantValue := 0 }, { name := "BIG_ENDIAN", type := .boolean, accessFlags := 26, slot := 1, constantValue := 0 }, { name := "LOG2_ARRAY_BOOLEAN_INDEX_SCALE", type := .int, accessFlags := 25, slot := 2, constantValue := 0 }, { name := "LOG2_ARRAY_BYTE_INDEX_SCALE", type := .int, accessFlags := 25, slot := 3, constantValue := 0 }, { name := "LOG2_ARRAY_CHAR_INDEX_SCALE", type := .int, accessFlags := 25, slot := 4, constantValue := 0 }, { name := "LOG2_ARRAY_SHORT_INDEX_SCALE", type := .int, accessFlags := 25, slot := 5, constantValue := 0 }, { name := "LOG2_ARRAY_INT_INDEX_SCALE", type := .int, accessFlags := 25, slot := 6, constantValue := 0 }, { name := "LOG2_ARRAY_LONG_INDEX_SCALE", type := .int, accessFlags := 25, slot := 7, constantValue := 0 }, { name := "LOG2_ARRAY_FLOAT_INDEX_SCALE", type := .int, accessFlags := 25, slot := 8, constantValue := 0 }, { name := "LOG2_ARRAY_DOUBLE_INDEX_SCALE", type := .int, accessFlags := 25, slot := 9, constantValue := 0 }, { name := "LOG2_BYTE_BIT_SIZE", type := .int, accessFlags := 26, slot := 10, constantValue := 0 }, { name := "T_BOOLEAN", type := .int, accessFlags := 25, slot := 11, constantValue := 0 }, { name := "T_CHAR", type := .int, accessFlags := 25, slot := 12, constantValue := 0 }, { name := "T_FLOAT", type := .int, accessFlags := 25, slot := 13, constantValue := 0 }, { name := "T_DOUBLE", type := .int, accessFlags := 25, slot := 14, constantValue := 0 }, { name := "T_BYTE", type := .int, accessFlags := 25, slot := 15, constantValue := 0 }, { name := "T_SHORT", type := .int, accessFlags := 25, slot := 16, constantValue := 0 }, { name := "T_INT", type := .int, accessFlags := 25, slot := 17, constantValue := 0 }, { name := "T_LONG", type := .int, accessFlags := 25, slot := 18, constantValue := 0 }, { name := "JLA", type := (.object "jdk/internal/access/JavaLangAccess"), accessFlags := 26, slot := 19, constantValue := 0 }, { name := "SOFT_MAX_ARRAY_LENGTH", type := .int, accessFlags := 25, slot := 20, constantValue := 0 }]
  methods := #[k12m0]
  instanceTypes := #[]
  staticTypes := #[(.object "jdk/internal/misc/Unsafe"), .boolean, .int, .int, .int, .int, .int, .int, .int, .int, .int, .int, .int, .int, .int, .int, .int, .int, .int, (.object "jdk/internal/access/JavaLangAccess"), .int]
  resolved := Array.replicate 378 none
  statics := none }

def pool13 : Array CpInfo := pool [(1, u "java/lang/Cloneable"), (0, .class_ 1), (0, u "java/lang/Object"), (0, .class_ 3)] 3

/-- java/lang/Cloneable -/
def k13 : Class := { plain "java/lang/Cloneable" (some 0) with
  accessFlags := 1537
  interfaces := #[]
  cf := some (fileOf pool13 2 #[] #[] 1537 4 #[] #[])
  fields := #[]
  methods := #[]
  instanceTypes := #[]
  staticTypes := #[]
  resolved := Array.replicate 8 none
  statics := none }

/-- the primitive byte -/
def k14 : Class := { plain "byte" none with kind := .primitive 'B', accessFlags := 0x411 }
/-- [B -/
def k15 : Class := { plain "[B" (some 0) with kind := .array 14 .byte, interfaces := #[13, 2], accessFlags := 1041 }

/-- the primitive char -/
def k16 : Class := { plain "char" none with kind := .primitive 'C', accessFlags := 0x411 }
/-- [C -/
def k17 : Class := { plain "[C" (some 0) with kind := .array 16 .char, interfaces := #[13, 2], accessFlags := 1041 }

/-- the primitive int -/
def k18 : Class := { plain "int" none with kind := .primitive 'I', accessFlags := 0x411 }
/-- [I -/
def k19 : Class := { plain "[I" (some 0) with kind := .array 18 .int, interfaces := #[13, 2], accessFlags := 1041 }

def heap : Heap := #[{ cls := 7, slots := #[.long 0, .int 1, .null, .int 0, .null, .int 0, .int 0], vm := .statics 7 },
  { cls := 11, slots := #[.null, .null, .null], vm := .statics 11 }]
def classes : Array Class := #[k0, k1, k2, k3, k4, k5, k6, k7, k8, k9, k10, k11, k12, k13, k14, k15, k16, k17, k18, k19]
def interned : List (Array UInt16 × Addr) := []
def slotsUsed : Nat := 10
def theMethod : MethodId := ⟨1, 1⟩
def args0 : Array Value := #[.int 5, .int 7, .int 9, .int 3, .int 37]
def aboutOver (below : List Frame) : State where
  vm := { classes := classes, interned := interned.toArray }
  heap := heap
  slotsUsed := slotsUsed
  threads := #[{ frames := .invoking theMethod args0 :: below }]
def below0 : List Frame := [.native { method := ⟨0, 0⟩, args := #[] }]
def about1 : State := aboutOver below0
def p0 : Program := .bare "" "" ""
def e0 : Env := launch0.env 0 0 0
theorem w_frames : about1.frames = Frame.invoking theMethod args0 :: below0 := rfl
set_option maxRecDepth 65536 in
theorem w_args : argsFit about1.vm theMethod args0 = true := by decide +kernel
set_option maxRecDepth 65536 in
theorem w_heap : heapFits about1 = true := by decide +kernel
set_option maxRecDepth 65536 in
theorem w_runnable : about1.curStatus? = some .runnable := by decide +kernel
set_option maxRecDepth 65536 in
theorem w_alone : about1.alone = true := by decide +kernel
set_option maxRecDepth 65536 in
theorem w_named : about1.methodNamed? x = some theMethod := by decide +kernel
set_option maxRecDepth 65536 in
theorem w_hears : about1.hears theMethod below0 = true := by decide +kernel
set_option maxRecDepth 65536 in
theorem w_ripe : about1.ripe theMethod args0 below0 = true := by decide +kernel
theorem w_running : about1.status = .running := rfl
set_option maxRecDepth 65536 in
theorem w_room : about1.hasRoom e0.platform room_1 = true :=
  launch0.hasRoom_least _ room_1 (by decide +kernel) (by decide +kernel) (by decide +kernel) (by decide +kernel) (by decide +kernel) (by decide +kernel)
theorem allAtoms_all (ts : List Jvm.Cond) (a : Array Jvm.Value) (st : Jvm.State) : (allAtoms ts).before a st = ts.all (fun c => c.before a st) := by
  induction ts with
  | nil => rfl
  | cons c t ih =>
    show (Jvm.Cond.and c (allAtoms t)).before a st = _
    rw [Jvm.Cond.before_and, ih, List.all_cons]
def words1 : List Jvm.Cond := Jvm.Cond.code x code maxLocals ret :: tables_1
/-- a 'code' word, met by the world's own term for the bytes: nothing is compared byte by byte -/
theorem code_word {y : MethodName} {bytes : ByteArray} {mx : Nat} {rt : Option FieldType} {a : Array Value} {s : State} {m : MethodId} {meth : Method} {c : Code} (h1 : s.methodNamed? y = some m) (h2 : s.vm.method? m = some meth) (h3 : meth.code = some c) (h4 : c.code = bytes)
    (h5 : (c.maxLocals == mx && c.exceptionTable.isEmpty && decide (c.maxStack ≤ mostOperands) && decide (meth.sig.returnType = rt) && !meth.locks && decide (parseMethodDescriptor y.desc = some meth.sig)) = true) : (Jvm.Cond.code y bytes mx rt).before a s = true := by
  simp only [Bool.and_eq_true, beq_iff_eq, Bool.not_eq_true', decide_eq_true_eq] at h5
  obtain ⟨⟨⟨⟨⟨g1, g2⟩, g3⟩, g4⟩, g5⟩, g6⟩ := h5
  simp [Cond.before, Cond.holds, Cond.value, h1, h2, h3, h4, g1, g2, g3, g4, g5, g6]
def isCode : Jvm.Cond → Bool
  | .code _ _ _ _ => true
  | _ => false
theorem all_split {L : List Jvm.Cond} {P : Jvm.Cond → Bool} (h1 : L.all (fun c => isCode c || P c) = true) (h2 : ∀ c ∈ L.filter isCode, P c = true) : L.all P = true := by
  refine List.all_eq_true.mpr fun c hc => ?_
  have h := List.all_eq_true.mp h1 c hc
  rcases Bool.eq_false_or_eq_true (isCode c) with hi | hi
  · exact h2 c (List.mem_filter.mpr ⟨hc, hi⟩)
  · simpa [hi] using h
set_option maxRecDepth 65536 in
theorem w_c0 : (Jvm.Cond.code x code maxLocals ret).before args0 about1 = true := code_word (m := ⟨1, 1⟩) (meth := k1m1) (c := k1c1) (by decide +kernel) rfl rfl rfl (by decide +kernel)
set_option maxRecDepth 65536 in
theorem w_c1 : (Jvm.Cond.code ({ cls := "com/example/marshal_trust/marshaltrust/FunctionGroupEqualsPinLaw", name := "make", desc := "(ICC)Ljava/lang/String;" } : Jvm.MethodName) method_3_code (4 : Nat) (Option.some (Jvm.ClassFile.FieldType.object "java/lang/String"))).before args0 about1 = true := code_word (m := ⟨1, 2⟩) (meth := k1m2) (c := k1c2) (by decide +kernel) rfl rfl rfl (by decide +kernel)
set_option maxRecDepth 65536 in
theorem w_c2 : (Jvm.Cond.code ({ cls := "java/lang/String", name := "<init>", desc := "([C)V" } : Jvm.MethodName) jdk_42_method_3_code (2 : Nat) (Option.none : Option Jvm.ClassFile.FieldType)).before args0 about1 = true := code_word (m := ⟨7, 1⟩) (meth := k7m1) (c := k7c1) (by decide +kernel) rfl rfl rfl (by decide +kernel)
set_option maxRecDepth 65536 in
theorem w_c3 : (Jvm.Cond.code ({ cls := "java/lang/String", name := "<init>", desc := "([CIILjava/lang/Void;)V" } : Jvm.MethodName) jdk_42_method_149_code (6 : Nat) (Option.none : Option Jvm.ClassFile.FieldType)).before args0 about1 = true := code_word (m := ⟨7, 3⟩) (meth := k7m3) (c := k7c3) (by decide +kernel) rfl rfl rfl (by decide +kernel)
set_option maxRecDepth 65536 in
theorem w_c4 : (Jvm.Cond.code ({ cls := "java/lang/Object", name := "<init>", desc := "()V" } : Jvm.MethodName) object_method_1_code (1 : Nat) (Option.none : Option Jvm.ClassFile.FieldType)).before args0 about1 = true := code_word (m := ⟨0, 0⟩) (meth := k0m0) (c := k0c0) (by decide +kernel) rfl rfl rfl (by decide +kernel)
set_option maxRecDepth 65536 in
theorem w_c5 : (Jvm.Cond.code ({ cls := "com/example/marshal_trust/marshaltrust/FunctionGroup", name := "<init>", desc := "(Ljava/lang/String;)V" } : Jvm.MethodName) prog_12_method_1_code (2 : Nat) (Option.none : Option Jvm.ClassFile.FieldType)).before args0 about1 = true := code_word (m := ⟨8, 0⟩) (meth := k8m0) (c := k8c0) (by decide +kernel) rfl rfl rfl (by decide +kernel)
set_option maxRecDepth 65536 in
theorem w_c6 : (Jvm.Cond.code ({ cls := "com/example/marshal_trust/marshaltrust/FunctionGroup", name := "equals", desc := "(Ljava/lang/Object;)Z" } : Jvm.MethodName) prog_12_method_3_code (2 : Nat) (Option.some Jvm.ClassFile.FieldType.boolean)).before args0 about1 = true := code_word (m := ⟨8, 1⟩) (meth := k8m1) (c := k8c1) (by decide +kernel) rfl rfl rfl (by decide +kernel)
set_option maxRecDepth 65536 in
theorem w_c7 : (Jvm.Cond.code ({ cls := "java/lang/String", name := "equals", desc := "(Ljava/lang/Object;)Z" } : Jvm.MethodName) jdk_42_method_66_code (3 : Nat) (Option.some Jvm.ClassFile.FieldType.boolean)).before args0 about1 = true := code_word (m := ⟨7, 2⟩) (meth := k7m2) (c := k7c2) (by decide +kernel) rfl rfl rfl (by decide +kernel)
set_option maxRecDepth 65536 in
theorem w_c8 : (Jvm.Cond.code ({ cls := "java/lang/StringLatin1", name := "equals", desc := "([B[B)Z" } : Jvm.MethodName) jdk_43_method_13_code (3 : Nat) (Option.some Jvm.ClassFile.FieldType.boolean)).before args0 about1 = true := code_word (m := ⟨9, 1⟩) (meth := k9m1) (c := k9c1) (by decide +kernel) rfl rfl rfl (by decide +kernel)
set_option maxRecDepth 65536 in
theorem w_c9 : (Jvm.Cond.code ({ cls := "java/lang/StringUTF16", name := "compress", desc := "([CII)[B" } : Jvm.MethodName) jdk_52_method_16_code (6 : Nat) (Option.some (Jvm.ClassFile.FieldType.array Jvm.ClassFile.FieldType.byte))).before args0 about1 = true := code_word (m := ⟨10, 2⟩) (meth := k10m2) (c := k10c2) (by decide +kernel) rfl rfl rfl (by decide +kernel)
set_option maxRecDepth 65536 in
theorem w_c10 : (Jvm.Cond.code ({ cls := "java/lang/StringUTF16", name := "compress", desc := "([CI[BII)I" } : Jvm.MethodName) jdk_52_method_21_code (7 : Nat) (Option.some Jvm.ClassFile.FieldType.int)).before args0 about1 = true := code_word (m := ⟨10, 3⟩) (meth := k10m3) (c := k10c3) (by decide +kernel) rfl rfl rfl (by decide +kernel)
set_option maxRecDepth 65536 in
theorem w_c11 : (Jvm.Cond.code ({ cls := "java/lang/StringUTF16", name := "coderFromArrayLen", desc := "([BI)B" } : Jvm.MethodName) jdk_52_method_15_code (2 : Nat) (Option.some Jvm.ClassFile.FieldType.byte)).before args0 about1 = true := code_word (m := ⟨10, 1⟩) (meth := k10m1) (c := k10c1) (by decide +kernel) rfl rfl rfl (by decide +kernel)
def codes1 : List Jvm.Cond := [Jvm.Cond.code x code maxLocals ret, Jvm.Cond.code ({ cls := "com/example/marshal_trust/marshaltrust/FunctionGroupEqualsPinLaw", name := "make", desc := "(ICC)Ljava/lang/String;" } : Jvm.MethodName) method_3_code (4 : Nat) (Option.some (Jvm.ClassFile.FieldType.object "java/lang/String")), Jvm.Cond.code ({ cls := "java/lang/String", name := "<init>", desc := "([C)V" } : Jvm.MethodName) jdk_42_method_3_code (2 : Nat) (Option.none : Option Jvm.ClassFile.FieldType), Jvm.Cond.code ({ cls := "java/lang/String", name := "<init>", desc := "([CIILjava/lang/Void;)V" } : Jvm.MethodName) jdk_42_method_149_code (6 : Nat) (Option.none : Option Jvm.ClassFile.FieldType), Jvm.Cond.code ({ cls := "java/lang/Object", name := "<init>", desc := "()V" } : Jvm.MethodName) object_method_1_code (1 : Nat) (Option.none : Option Jvm.ClassFile.FieldType), Jvm.Cond.code ({ cls := "com/example/marshal_trust/marshaltrust/FunctionGroup", name := "<init>", desc := "(Ljava/lang/String;)V" } : Jvm.MethodName) prog_12_method_1_code (2 : Nat) (Option.none : Option Jvm.ClassFile.FieldType), Jvm.Cond.code ({ cls := "com/example/marshal_trust/marshaltrust/FunctionGroup", name := "equals", desc := "(Ljava/lang/Object;)Z" } : Jvm.MethodName) prog_12_method_3_code (2 : Nat) (Option.some Jvm.ClassFile.FieldType.boolean), Jvm.Cond.code ({ cls := "java/lang/String", name := "equals", desc := "(Ljava/lang/Object;)Z" } : Jvm.MethodName) jdk_42_method_66_code (3 : Nat) (Option.some Jvm.ClassFile.FieldType.boolean), Jvm.Cond.code ({ cls := "java/lang/StringLatin1", name := "equals", desc := "([B[B)Z" } : Jvm.MethodName) jdk_43_method_13_code (3 : Nat) (Option.some Jvm.ClassFile.FieldType.boolean), Jvm.Cond.code ({ cls := "java/lang/StringUTF16", name := "compress", desc := "([CII)[B" } : Jvm.MethodName) jdk_52_method_16_code (6 : Nat) (Option.some (Jvm.ClassFile.FieldType.array Jvm.ClassFile.FieldType.byte)), Jvm.Cond.code ({ cls := "java/lang/StringUTF16", name := "compress", desc := "([CI[BII)I" } : Jvm.MethodName) jdk_52_method_21_code (7 : Nat) (Option.some Jvm.ClassFile.FieldType.int), Jvm.Cond.code ({ cls := "java/lang/StringUTF16", name := "coderFromArrayLen", desc := "([BI)B" } : Jvm.MethodName) jdk_52_method_15_code (2 : Nat) (Option.some Jvm.ClassFile.FieldType.byte)]
set_option maxRecDepth 65536 in
theorem codes_eq : words1.filter isCode = codes1 := rfl
theorem w_codes : ∀ c ∈ words1.filter isCode, c.before args0 about1 = true := by
  rw [codes_eq]
  intro c hc
  simp only [codes1, List.mem_cons, List.not_mem_nil, or_false] at hc
  rcases hc with rfl | rfl | rfl | rfl | rfl | rfl | rfl | rfl | rfl | rfl | rfl | rfl
  · exact w_c0
  · exact w_c1
  · exact w_c2
  · exact w_c3
  · exact w_c4
  · exact w_c5
  · exact w_c6
  · exact w_c7
  · exact w_c8
  · exact w_c9
  · exact w_c10
  · exact w_c11
set_option maxRecDepth 65536 in
theorem w_t1 : (words1.take 24).all (fun c => isCode c || c.before args0 about1) = true := by decide +kernel
set_option maxRecDepth 65536 in
theorem w_t2 : ((words1.drop 24).take 24).all (fun c => isCode c || c.before args0 about1) = true := by decide +kernel
set_option maxRecDepth 65536 in
theorem w_t3 : ((words1.drop 24).drop 24).all (fun c => isCode c || c.before args0 about1) = true := by decide +kernel
theorem w_tables : (allAtoms (Jvm.Cond.code x code maxLocals ret :: tables_1)).before args0 about1 = true := by
  rw [allAtoms_all]
  show words1.all (fun c => c.before args0 about1) = true
  refine all_split ?_ w_codes
  rw [← List.take_append_drop 24 words1, List.all_append, w_t1, ← List.take_append_drop 24 (words1.drop 24), List.all_append, w_t2, w_t3]
  rfl
set_option maxRecDepth 65536 in
theorem w_rest : rest_1_c.before args0 about1 = true := by decide +kernel
set_option maxRecDepth 65536 in
theorem w_case : (Jvm.Cond.and given_1 narrow_1).before args0 about1 = true := by decide +kernel
set_option maxRecDepth 65536 in
theorem w_consts : constsHeld consts_1 about1 := Jvm.Lit.constsHeldB_iff.mp (by decide +kernel)
theorem w_applies : (headSpec (Jvm.Cond.code x code maxLocals ret :: tables_1) room_1).applies x e0.platform about1 = true :=
  (Spec.applies_iff w_frames).mpr ⟨w_running, w_runnable, w_alone, w_named, w_hears, w_ripe, w_room, w_tables⟩
theorem atStart : AtStart classFile x code maxLocals ret World_1 tables_1 room_1 Calls_1 rest_1 Pre_1 launch0 p0 e0 about1 theMethod args0 below0 :=
  ⟨lists_1, trivial, launch0.admits_env _ _ _, launch0.least_env, fairChoices_fair.cas, fairChoices_fair.clock, w_frames, w_args, w_heap, w_applies, ⟨w_consts, trivial⟩, w_rest, w_case⟩
end start1
theorem witness_1 : WitnessClaimed_1 := ⟨start1.p0, start1.e0, start1.about1, start1.theMethod, start1.args0, start1.below0, start1.atStart⟩
end Jvm.Pilot.@@N@@
