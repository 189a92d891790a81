import JvmDerived
import JvmDerived.Pilot.@@N@@Statement
import JvmDerived.Pilot.@@N@@Code
set_option linter.unusedVariables false
set_option linter.unusedSimpArgs false
namespace Jvm.Pilot.@@N@@
open Jvm Jvm.ClassFile Sem Op Lib Jvm.Free Jvm.Stand Jvm.LawKit Jvm.RoadKit Bundle Jvm.Pilot.@@N@@.Jvm.D
/-- what is left to show at a frame of the walk: the run from there ends as the contract says -/
def own_G (p : Program) (e : Env) (below : List Frame) (s : State) (Q : Option Value → Heap → List Loc → Prop) (ce sl : Nat) (T : State) (g : JFrame) : Prop :=
  ∃ s₂ o, Steps p.tables e below (T.setTop g) s₂ ∧ s₂.status = .running ∧ Ended s₂ below o ∧ ∃ v L, o = .returned v ∧ Q v s₂.heap L ∧ FrameEnd s o s₂ L ce sl
theorem own_w {p : Program} {e : Env} {below : List Frame} {s : State} {Q : Option Value → Heap → List Loc → Prop} {ce sl : Nat} {T T' : State} {g g' : JFrame}
    (st : ∀ target, Steps p.tables e below (T'.setTop g') target → Steps p.tables e below (T.setTop g) target) (k : own_G p e below s Q ce sl T' g') : own_G p e below s Q ce sl T g := by
  obtain ⟨u, o, a, r⟩ := k
  exact ⟨u, o, st u a, r⟩
theorem own_t {p : Program} {e : Env} {below : List Frame} {s : State} {Q : Option Value → Heap → List Loc → Prop} {ce sl : Nat} {T T' : State} {g g' : JFrame}
    (st : Steps p.tables e below (T.setTop g) (T'.setTop g')) (k : own_G p e below s Q ce sl T' g') : own_G p e below s Q ce sl T g := own_w (fun _ k => st.trans k) k
theorem own_sta {Z : State} {h h' : Heap} {C n d : String} {v : Value} {a : Addr} (F : Sta Z h C n d v) (K : Keep h h' [a]) (na : ∀ cell : Cell, h[a]? = some cell → cell.vm.isStatics = false) : Sta Z h' C n d v := by
  obtain ⟨cf, i, k, f, st, cell, h1, h2, h3, h4, h5, h6, h7⟩ := F
  refine ⟨cf, i, k, f, st, cell, h1, h2, h3, h4, K.2.1 st cell h5 (fun q => ?_), h6, h7⟩
  have e : st = a := List.mem_singleton.mp q
  subst e
  rw [na _ h5] at h6; cases h6
theorem own_nb {P : Prop} [Decidable P] : narrow .boolean (.int (if P then (1 : Int32) else 0)) = .int (if P then (1 : Int32) else 0) := by split <;> rfl
theorem own_ite0 {P : Prop} [Decidable P] : ((if P then (1 : Int32) else 0) = 0) = ¬ P := by by_cases h : P <;> simp [h]
theorem own_ord {args : Array Value} {Z : State} {t : Term} {C n d : String} {k : Int32} {a : Addr} (ev : t.eval args Z none [] Z = some (.ref a)) (h : (Jvm.Cond.eq (Term.field t C n d) (Term.int k)).value args Z none Z [] = some true) : Fld Z Z.heap a C n d (.int k) := by
  apply Fld.start
  have e := fld_at (C := C) (n := n) (dd := d) ev
  rw [← e]
  obtain ⟨x, y, h1, h2, -, h4⟩ := cmp_v (Or.inl h)
  obtain rfl : (Value.int k) = y := Option.some.inj h2
  obtain ⟨z, rfl⟩ := h4
  rw [h1]
  have e2 : (Term.int k).eval args Z none [] Z = some (.int k) := rfl
  simp only [Cond.value, h1, e2] at h
  have q : z = k := by simpa using h
  rw [q]
theorem own_d1_0 : decode prog_14_method_5_code 0 = .ok (.aload_n 0, 1) := by decide +kernel
theorem own_d1_1 : decode prog_14_method_5_code 1 = .ok (.getstatic 3, 3) := by decide +kernel
theorem own_d1_4 : decode prog_14_method_5_code 4 = .ok (.if_acmp .ne 9, 3) := by decide +kernel
theorem own_d1_7 : decode prog_14_method_5_code 7 = .ok (.getstatic 7, 3) := by decide +kernel
theorem own_d1_10 : decode prog_14_method_5_code 10 = .ok (.goto 6, 3) := by decide +kernel
theorem own_d1_16 : decode prog_14_method_5_code 16 = .ok (.areturn, 1) := by decide +kernel
theorem own_d1_13 : decode prog_14_method_5_code 13 = .ok (.getstatic 3, 3) := by decide +kernel
theorem own_pn_com_example_pagequilt_pagequilt_Direction : plainName "com/example/pagequilt/pagequilt/Direction" = true := by first | (simp [plainName, overriddenIn]; done) | decide +kernel
theorem own_rm1_ef (m : MethodId) (a : Addr) : entryFrame m #[(.ref a)] 1 = mkF m 0 #[.val (.ref a)] [] := by first | (simp [entryFrame, mkF, argsToLocals, Value.category]; done) | rfl
def own_Q1 (Z : State) (a : Addr) (cA : Addr) (cD : Addr) (r : Addr) (h0 : Heap) (n0 : Nat) (v_ : Option Value) (h : Heap) (L_ : List Loc) : Prop := v_ = some (.ref r) ∧ Fr n0 L_ ∧ (h = h0)
set_option maxRecDepth 65536 in
set_option maxHeartbeats 40000000 in
theorem own_rm1 (l : Launch) (Z : State) (a0 : Array Value) (hw : ∀ d ∈ tables_1, d.before a0 Z = true) (ws : List Jvm.Cond) (a : Addr) (cA : Addr) (cD : Addr) (r : Addr) (h0 : Heap) (n0 : Nat) (Z0 : n0 ≤ h0.size) (SA : Sta Z h0 "com/example/pagequilt/pagequilt/Direction" "ASCENDING" "Lcom/example/pagequilt/pagequilt/Direction;" (.ref cA)) (SD : Sta Z h0 "com/example/pagequilt/pagequilt/Direction" "DESCENDING" "Lcom/example/pagequilt/pagequilt/Direction;" (.ref cD)) (h1 : a = cA → cD = r) (h2 : ¬ a = cA → cA = r) :
    MetFree l (⟨"com/example/pagequilt/pagequilt/Direction", "reversed", "()Lcom/example/pagequilt/pagequilt/Direction;"⟩ : MethodName) (head1 (Jvm.Cond.code (⟨"com/example/pagequilt/pagequilt/Direction", "reversed", "()Lcom/example/pagequilt/pagequilt/Direction;"⟩ : MethodName) prog_14_method_5_code 1 (some (.object "com/example/pagequilt/pagequilt/Direction")) :: ws) ({ frames := 0, cells := 0, slots := 0, locals := 0 } : Room)) (fun a_ U_ => a_ = #[(.ref a)] ∧ Z.Warmed39 U_.vm ∧ U_.heap = h0) (fun _ _ _ _ _ => True) (fun _ U_ o_ V_ => ∃ v_ L_, o_ = .returned v_ ∧ own_Q1 Z a cA cD r h0 n0 v_ V_.heap L_ ∧ FrameEnd U_ o_ V_ L_ ({ frames := 0, cells := 0, slots := 0, locals := 0 } : Room).cells ({ frames := 0, cells := 0, slots := 0, locals := 0 } : Room).slots) := by
  refine MetFree.of_bodySF (plainFor_of_name own_pn_com_example_pagequilt_pagequilt_Direction) hisR ?_
  intro p e s m args below meth c s₁ Bd hml0 hP hK
  obtain ⟨rfl, hZ, hh⟩ := hP
  have hx := Bd.exec
  have hby := Bd.bytes
  have hml : c.maxLocals = 1 := hml0
  have hown : s.vm.findClass "com/example/pagequilt/pagequilt/Direction" = some m.cls := findClass_of_methodNamed Bd.named
  have hnm := (name_of_methodNamed Bd.named Bd.method).1
  have X0 : Stand p l e ({ frames := 0, cells := 0, slots := 0, locals := 0 } : Room) s m #[(.ref a)] below meth c s₁ [] 0 0 := Stand.of_body Bd
  have e0 : s₁.heap = h0 := by rw [← hh, Bd.state]; rfl
  have N0 := Fr.nil n0
  show own_G p e below s (own_Q1 Z a cA cD r h0 n0) ({ frames := 0, cells := 0, slots := 0, locals := 0 } : Room).cells ({ frames := 0, cells := 0, slots := 0, locals := 0 } : Room).slots s₁ (entryFrame m #[(.ref a)] 1)
  rw [own_rm1_ef]
  refine own_w (T' := s₁) (g' := (mkF m 1 #[.val (.ref a)] [(.ref a)])) (fun _ k_ => XS.aloadN X0.here hx rfl (hb hby own_d1_0) rfl rfl k_) ?_
  obtain ⟨T1, X1, e1, st1⟩ := getS2 X0 hx hZ hown (host := "") (Or.inl (hw _ (List.mem_of_getElem? (i := 8) rfl))) Via.refl e0 SA (g := (mkF m 1 #[.val (.ref a)] [(.ref a)])) rfl (hb hby own_d1_1)
  refine own_w (T' := T1) (g' := (mkF m 4 #[.val (.ref a)] [(.ref cA), (.ref a)])) st1 ?_
  by_cases hc4 : a = cA
  · refine own_w (T' := T1) (g' := (mkF m 7 #[.val (.ref a)] [])) (fun _ k_ => Jvm.RoadKit.acmp (g := (mkF m 4 #[.val (.ref a)] [(.ref cA), (.ref a)])) X1 hx rfl rfl rfl (pc0 := 4) (pc' := 7) (same := true) rfl (hb hby own_d1_4) rfl (decide_eq_true (congrArg Value.ref hc4)) (by decide) (by decide) k_) ?_
    obtain ⟨T2, X2, e2, st2⟩ := getS2 X1 hx hZ hown (host := "") (Or.inl (hw _ (List.mem_of_getElem? (i := 9) rfl))) Via.refl e1 SD (g := (mkF m 7 #[.val (.ref a)] [])) rfl (hb hby own_d1_7)
    refine own_w (T' := T2) (g' := (mkF m 10 #[.val (.ref a)] [(.ref cD)])) st2 ?_
    refine own_w (T' := T2) (g' := (mkF m 16 #[.val (.ref a)] [(.ref cD)])) (fun _ k_ => XS.goto X2.here hx rfl (pc0 := 10) (pc' := 16) rfl (hb hby own_d1_10) (by decide) (by decide) k_) ?_
    obtain ⟨fs, hr, hrun, hended, hW, hsame⟩ := X2.leave (v := some (.ref cD)) (fun h => by rw [Bd.returns] at h; cases h)
    exact ⟨_, _, retOut X2 hx Bd.returns rfl (Or.inr (Or.inr (Or.inr (Or.inr ⟨rfl, rfl, rfl⟩)))) (hb hby own_d1_16) hr, hrun, hended, _, _, rfl, (by show own_Q1 Z a cA cD r h0 n0 _ T2.heap _; rw [e2]; exact ⟨(by rw [h1 hc4]), N0, rfl⟩), ⟨_, rfl⟩, hW, hsame.mono (by decide) (by decide)⟩
  · refine own_w (T' := T1) (g' := (mkF m 13 #[.val (.ref a)] [])) (fun _ k_ => Jvm.RoadKit.acmp (g := (mkF m 4 #[.val (.ref a)] [(.ref cA), (.ref a)])) X1 hx rfl rfl rfl (pc0 := 4) (pc' := 13) (same := false) rfl (hb hby own_d1_4) rfl (decide_eq_false fun q => hc4 (Value.ref.inj q)) (by decide) (by decide) k_) ?_
    obtain ⟨T3, X3, e3, st3⟩ := getS2 X1 hx hZ hown (host := "") (Or.inl (hw _ (List.mem_of_getElem? (i := 8) rfl))) Via.refl e1 SA (g := (mkF m 13 #[.val (.ref a)] [])) rfl (hb hby own_d1_13)
    refine own_w (T' := T3) (g' := (mkF m 16 #[.val (.ref a)] [(.ref cA)])) st3 ?_
    obtain ⟨fs, hr, hrun, hended, hW, hsame⟩ := X3.leave (v := some (.ref cA)) (fun h => by rw [Bd.returns] at h; cases h)
    exact ⟨_, _, retOut X3 hx Bd.returns rfl (Or.inr (Or.inr (Or.inr (Or.inr ⟨rfl, rfl, rfl⟩)))) (hb hby own_d1_16) hr, hrun, hended, _, _, rfl, (by show own_Q1 Z a cA cD r h0 n0 _ T3.heap _; rw [e3]; exact ⟨(by rw [h2 hc4]), N0, rfl⟩), ⟨_, rfl⟩, hW, hsame.mono (by decide) (by decide)⟩
theorem own_pd0 : parseMethodDescriptor "()Lcom/example/pagequilt/pagequilt/Direction;" = some ⟨[], some (.object "com/example/pagequilt/pagequilt/Direction")⟩ := by decide +kernel
theorem own_pn_com_example_pagequilt_pagequilt_DirectionReversedPinLaw : plainName "com/example/pagequilt/pagequilt/DirectionReversedPinLaw" = true := by first | (simp [plainName, overriddenIn]; done) | decide +kernel
theorem own_rm0_ef (m : MethodId) (f : Int32) : entryFrame m #[(.int f)] maxLocals = mkF m 0 #[.val (.int f), .unset, .unset] [] := by first | (simp [entryFrame, mkF, argsToLocals, Value.category, maxLocals]; done) | rfl
def own_Q0 (Z : State) (f : Int32) (cA : Addr) (cD : Addr) (h0 : Heap) (n0 : Nat) (v_ : Option Value) (h : Heap) (L_ : List Loc) : Prop := v_ = some (.int (1 : Int32)) ∧ Fr n0 L_
set_option maxRecDepth 65536 in
set_option maxHeartbeats 40000000 in
theorem own_rm0 (l : Launch) (Z : State) (a0 : Array Value) (hw : ∀ d ∈ tables_1, d.before a0 Z = true) (ws : List Jvm.Cond) (f : Int32) (cA : Addr) (cD : Addr) (h0 : Heap) (n0 : Nat) (Z0 : n0 ≤ h0.size) (SA : Sta Z h0 "com/example/pagequilt/pagequilt/Direction" "ASCENDING" "Lcom/example/pagequilt/pagequilt/Direction;" (.ref cA)) (SD : Sta Z h0 "com/example/pagequilt/pagequilt/Direction" "DESCENDING" "Lcom/example/pagequilt/pagequilt/Direction;" (.ref cD)) (EA : Exa Z h0 cA "com/example/pagequilt/pagequilt/Direction") (ED : Exa Z h0 cD "com/example/pagequilt/pagequilt/Direction") (ne : cA ≠ cD) :
    MetFree l x (head1 (Jvm.Cond.code x code maxLocals ret :: ws) room_1) (fun a_ U_ => a_ = #[(.int f)] ∧ Z.Warmed39 U_.vm ∧ U_.heap = h0) (fun _ _ _ _ _ => True) (fun _ U_ o_ V_ => ∃ v_ L_, o_ = .returned v_ ∧ own_Q0 Z f cA cD h0 n0 v_ V_.heap L_ ∧ FrameEnd U_ o_ V_ L_ room_1.cells room_1.slots) := by
  refine MetFree.of_bodySF (plainFor_of_name own_pn_com_example_pagequilt_pagequilt_DirectionReversedPinLaw) hisR ?_
  intro p e s m args below meth c s₁ Bd hml0 hP hK
  obtain ⟨rfl, hZ, hh⟩ := hP
  have hx := Bd.exec
  have hby := Bd.bytes
  have hml : c.maxLocals = 3 := hml0
  have hown : s.vm.findClass "com/example/pagequilt/pagequilt/DirectionReversedPinLaw" = some m.cls := findClass_of_methodNamed Bd.named
  have hnm := (name_of_methodNamed Bd.named Bd.method).1
  have X0 : Stand p l e room_1 s m #[(.int f)] below meth c s₁ [] 0 0 := Stand.of_body Bd
  have e0 : s₁.heap = h0 := by rw [← hh, Bd.state]; rfl
  have N0 := Fr.nil n0
  show own_G p e below s (own_Q0 Z f cA cD h0 n0) room_1.cells room_1.slots s₁ (entryFrame m #[(.int f)] maxLocals)
  rw [own_rm0_ef]
  refine own_w (T' := s₁) (g' := (mkF m 1 #[.val (.int f), .unset, .unset] [(.int f)])) (fun _ k_ => XS.iloadN X0.here hx rfl (hb hby at_0) rfl k_) ?_
  refine own_w (T' := s₁) (g' := (mkF m 2 #[.val (.int f), .unset, .unset] [(.int (1 : Int32)), (.int f)])) (fun _ k_ => XS.iconst X0.here hx rfl (hb hby at_1) k_) ?_
  refine own_w (T' := s₁) (g' := (mkF m 3 #[.val (.int f), .unset, .unset] [(.int (f &&& (1 : Int32)))])) (fun _ k_ => XS.iand X0.here hx rfl (hb hby at_2) rfl k_) ?_
  by_cases hc3 : (f &&& (1 : Int32)) = (0 : Int32)
  · refine own_w (T' := s₁) (g' := (mkF m 12 #[.val (.int f), .unset, .unset] [])) (fun _ k_ => XS.ifYes X0.here hx rfl (pc0 := 3) (pc' := 12) rfl (hb hby at_3) rfl ((if0 _ _).trans (teq hc3).1) (by decide) (by decide) k_) ?_
    obtain ⟨T1, X1, e1, st1⟩ := getS2 X0 hx hZ hown (host := "") (Or.inl (hw _ (List.mem_of_getElem? (i := 0) rfl))) Via.refl e0 SA (g := (mkF m 12 #[.val (.int f), .unset, .unset] [])) rfl (hb hby at_12)
    refine own_w (T' := T1) (g' := (mkF m 15 #[.val (.int f), .unset, .unset] [(.ref cA)])) st1 ?_
    refine own_w (T' := T1) (g' := (mkF m 16 #[.val (.int f), .val (.ref cA), .unset] [])) (fun _ k_ => XS.astoreN X1.here hx rfl (hb hby at_15) rfl rfl (l' := #[.val (.int f), .val (.ref cA), .unset]) rfl k_) ?_
    refine own_w (T' := T1) (g' := (mkF m 17 #[.val (.int f), .val (.ref cA), .unset] [(.ref cA)])) (fun _ k_ => XS.aloadN X1.here hx rfl (hb hby at_16) rfl rfl k_) ?_
    obtain ⟨cq2, kq2, q2a, q2b, q2c⟩ := isOf hZ e1 EA
    obtain ⟨_, _, ⟨T2, L2, k2, n2⟩, -, X2, ⟨Lc2, hQ2, l2, y2, z2⟩, st2⟩ := X1.virtualBack hx (y := (⟨"com/example/pagequilt/pagequilt/Direction", "reversed", "()Lcom/example/pagequilt/pagequilt/Direction;"⟩ : MethodName)) (z := (⟨"com/example/pagequilt/pagequilt/Direction", "reversed", "()Lcom/example/pagequilt/pagequilt/Direction;"⟩ : MethodName)) hown (mvT hZ (hw _ (List.mem_of_getElem? (i := 3) rfl))) (mvT hZ (hw _ (List.mem_of_getElem? (i := 4) rfl))) (notFace_of_selects (args := #[]) (mvT hZ (hw _ (List.mem_of_getElem? (i := 6) rfl)))) (mvT hZ (hw _ (List.mem_of_getElem? (i := 6) rfl))) (mvT hZ (hw _ (List.mem_of_getElem? (i := 5) rfl))) (by decide) (backOf (W := 0) (own_rm1 l Z a0 hw [] cA cA cD cD h0 n0 Z0 SA SD (fun _ => rfl) (fun q => absurd rfl q)) hZ (hw _ (List.mem_of_getElem? (i := 7) rfl)) (hw _ (List.mem_of_getElem? (i := 1) rfl)) (by decide) (by decide)) q2a q2c (g := (mkF m 17 #[.val (.int f), .val (.ref cA), .unset] [(.ref cA)])) rfl (by rw [hml]; rfl) (Steps.refl _) (argsL := []) (rest := []) (lenOf own_pd0 rfl) rfl (by show 2 * 0 + _ ≤ _; exact Nat.le_of_eq rfl) (hb hby at_17) (fun _ _ => ⟨rfl, e1, (by decide : 0 + 0 ≤ _), (by decide : 0 + 0 ≤ _)⟩)
    dsimp only [Pt.U, Pt.locs, Pt.cells, Pt.slots] at X2 l2 y2 z2 st2 hQ2
    subst l2 y2 z2
    obtain ⟨rfl, N2q, e2⟩ := hQ2
    have N2 := Fr.app N0 N2q
    refine own_t (T' := T2) (g' := (mkF m 20 #[.val (.int f), .val (.ref cA), .unset] [(.ref cD)])) st2 ?_
    refine own_w (T' := T2) (g' := (mkF m 21 #[.val (.int f), .val (.ref cA), .val (.ref cD)] [])) (fun _ k_ => XS.astoreN X2.here hx rfl (hb hby at_20) rfl rfl (l' := #[.val (.int f), .val (.ref cA), .val (.ref cD)]) rfl k_) ?_
    refine own_w (T' := T2) (g' := (mkF m 22 #[.val (.int f), .val (.ref cA), .val (.ref cD)] [(.ref cD)])) (fun _ k_ => XS.aloadN X2.here hx rfl (hb hby at_21) rfl rfl k_) ?_
    refine own_w (T' := T2) (g' := (mkF m 27 #[.val (.int f), .val (.ref cA), .val (.ref cD)] [])) (fun _ k_ => XS.ifnonnullYes X2.here hx rfl (pc0 := 22) (pc' := 27) rfl (hb hby at_22) rfl (by decide) (by decide) k_) ?_
    refine own_w (T' := T2) (g' := (mkF m 28 #[.val (.int f), .val (.ref cA), .val (.ref cD)] [(.ref cD)])) (fun _ k_ => XS.aloadN X2.here hx rfl (hb hby at_27) rfl rfl k_) ?_
    refine own_w (T' := T2) (g' := (mkF m 29 #[.val (.int f), .val (.ref cA), .val (.ref cD)] [(.ref cA), (.ref cD)])) (fun _ k_ => XS.aloadN X2.here hx rfl (hb hby at_28) rfl rfl k_) ?_
    refine own_w (T' := T2) (g' := (mkF m 34 #[.val (.int f), .val (.ref cA), .val (.ref cD)] [])) (fun _ k_ => Jvm.RoadKit.acmp (g := (mkF m 29 #[.val (.int f), .val (.ref cA), .val (.ref cD)] [(.ref cA), (.ref cD)])) X2 hx rfl rfl rfl (pc0 := 29) (pc' := 34) (same := false) rfl (hb hby at_29) rfl (decide_eq_false fun q => (Ne.symm ne) (Value.ref.inj q)) (by decide) (by decide) k_) ?_
    refine own_w (T' := T2) (g' := (mkF m 35 #[.val (.int f), .val (.ref cA), .val (.ref cD)] [(.ref cD)])) (fun _ k_ => XS.aloadN X2.here hx rfl (hb hby at_34) rfl rfl k_) ?_
    obtain ⟨cq3, kq3, q3a, q3b, q3c⟩ := isOf hZ e2 ED
    obtain ⟨_, _, ⟨T3, L3, k3, n3⟩, -, X3, ⟨Lc3, hQ3, l3, y3, z3⟩, st3⟩ := X2.virtualBack hx (y := (⟨"com/example/pagequilt/pagequilt/Direction", "reversed", "()Lcom/example/pagequilt/pagequilt/Direction;"⟩ : MethodName)) (z := (⟨"com/example/pagequilt/pagequilt/Direction", "reversed", "()Lcom/example/pagequilt/pagequilt/Direction;"⟩ : MethodName)) hown (mvT hZ (hw _ (List.mem_of_getElem? (i := 3) rfl))) (mvT hZ (hw _ (List.mem_of_getElem? (i := 4) rfl))) (notFace_of_selects (args := #[]) (mvT hZ (hw _ (List.mem_of_getElem? (i := 6) rfl)))) (mvT hZ (hw _ (List.mem_of_getElem? (i := 6) rfl))) (mvT hZ (hw _ (List.mem_of_getElem? (i := 5) rfl))) (by decide) (backOf (W := 0) (own_rm1 l Z a0 hw [] cD cA cD cA h0 n0 Z0 SA SD (fun q => absurd q.symm ne) (fun _ => rfl)) hZ (hw _ (List.mem_of_getElem? (i := 7) rfl)) (hw _ (List.mem_of_getElem? (i := 1) rfl)) (by decide) (by decide)) q3a q3c (g := (mkF m 35 #[.val (.int f), .val (.ref cA), .val (.ref cD)] [(.ref cD)])) rfl (by rw [hml]; rfl) (Steps.refl _) (argsL := []) (rest := []) (lenOf own_pd0 rfl) rfl (by show 2 * 0 + _ ≤ _; exact Nat.le_of_eq rfl) (hb hby at_35) (fun _ _ => ⟨rfl, e2, (by decide : 0 + 0 ≤ _), (by decide : 0 + 0 ≤ _)⟩)
    dsimp only [Pt.U, Pt.locs, Pt.cells, Pt.slots] at X3 l3 y3 z3 st3 hQ3
    subst l3 y3 z3
    obtain ⟨rfl, N3q, e3⟩ := hQ3
    have N3 := Fr.app N2 N3q
    refine own_t (T' := T3) (g' := (mkF m 38 #[.val (.int f), .val (.ref cA), .val (.ref cD)] [(.ref cA)])) st3 ?_
    refine own_w (T' := T3) (g' := (mkF m 39 #[.val (.int f), .val (.ref cA), .val (.ref cD)] [(.ref cA), (.ref cA)])) (fun _ k_ => XS.aloadN X3.here hx rfl (hb hby at_38) rfl rfl k_) ?_
    refine own_w (T' := T3) (g' := (mkF m 42 #[.val (.int f), .val (.ref cA), .val (.ref cD)] [])) (fun _ k_ => Jvm.RoadKit.acmp (g := (mkF m 39 #[.val (.int f), .val (.ref cA), .val (.ref cD)] [(.ref cA), (.ref cA)])) X3 hx rfl rfl rfl (pc0 := 39) (pc' := 42) (same := true) rfl (hb hby at_39) rfl (decide_eq_true (congrArg Value.ref rfl)) (by decide) (by decide) k_) ?_
    refine own_w (T' := T3) (g' := (mkF m 43 #[.val (.int f), .val (.ref cA), .val (.ref cD)] [(.int (1 : Int32))])) (fun _ k_ => XS.iconst X3.here hx rfl (hb hby at_42) k_) ?_
    refine own_w (T' := T3) (g' := (mkF m 47 #[.val (.int f), .val (.ref cA), .val (.ref cD)] [(.int (1 : Int32))])) (fun _ k_ => XS.goto X3.here hx rfl (pc0 := 43) (pc' := 47) rfl (hb hby at_43) (by decide) (by decide) k_) ?_
    obtain ⟨fs, hr, hrun, hended, hW, hsame⟩ := X3.leave (v := some (.int (1 : Int32))) (fun h => by rw [Bd.returns] at h; cases h)
    exact ⟨_, _, retOut X3 hx Bd.returns rfl (Or.inl ⟨rfl, Or.inr (Or.inl rfl), _, rfl⟩) (hb hby at_47) hr, hrun, hended, _, _, rfl, (by show own_Q0 Z f cA cD h0 n0 _ T3.heap _; rw [e3]; exact ⟨rfl, N3⟩), ⟨_, rfl⟩, hW, hsame.mono (by decide) (by decide)⟩
  · refine own_w (T' := s₁) (g' := (mkF m 6 #[.val (.int f), .unset, .unset] [])) (fun _ k_ => XS.ifNo X0.here hx rfl (hb hby at_3) rfl ((if0 _ _).trans (feq hc3).1) k_) ?_
    obtain ⟨T4, X4, e4, st4⟩ := getS2 X0 hx hZ hown (host := "") (Or.inl (hw _ (List.mem_of_getElem? (i := 11) rfl))) Via.refl e0 SD (g := (mkF m 6 #[.val (.int f), .unset, .unset] [])) rfl (hb hby at_6)
    refine own_w (T' := T4) (g' := (mkF m 9 #[.val (.int f), .unset, .unset] [(.ref cD)])) st4 ?_
    refine own_w (T' := T4) (g' := (mkF m 15 #[.val (.int f), .unset, .unset] [(.ref cD)])) (fun _ k_ => XS.goto X4.here hx rfl (pc0 := 9) (pc' := 15) rfl (hb hby at_9) (by decide) (by decide) k_) ?_
    refine own_w (T' := T4) (g' := (mkF m 16 #[.val (.int f), .val (.ref cD), .unset] [])) (fun _ k_ => XS.astoreN X4.here hx rfl (hb hby at_15) rfl rfl (l' := #[.val (.int f), .val (.ref cD), .unset]) rfl k_) ?_
    refine own_w (T' := T4) (g' := (mkF m 17 #[.val (.int f), .val (.ref cD), .unset] [(.ref cD)])) (fun _ k_ => XS.aloadN X4.here hx rfl (hb hby at_16) rfl rfl k_) ?_
    obtain ⟨cq5, kq5, q5a, q5b, q5c⟩ := isOf hZ e4 ED
    obtain ⟨_, _, ⟨T5, L5, k5, n5⟩, -, X5, ⟨Lc5, hQ5, l5, y5, z5⟩, st5⟩ := X4.virtualBack hx (y := (⟨"com/example/pagequilt/pagequilt/Direction", "reversed", "()Lcom/example/pagequilt/pagequilt/Direction;"⟩ : MethodName)) (z := (⟨"com/example/pagequilt/pagequilt/Direction", "reversed", "()Lcom/example/pagequilt/pagequilt/Direction;"⟩ : MethodName)) hown (mvT hZ (hw _ (List.mem_of_getElem? (i := 3) rfl))) (mvT hZ (hw _ (List.mem_of_getElem? (i := 4) rfl))) (notFace_of_selects (args := #[]) (mvT hZ (hw _ (List.mem_of_getElem? (i := 6) rfl)))) (mvT hZ (hw _ (List.mem_of_getElem? (i := 6) rfl))) (mvT hZ (hw _ (List.mem_of_getElem? (i := 5) rfl))) (by decide) (backOf (W := 0) (own_rm1 l Z a0 hw [] cD cA cD cA h0 n0 Z0 SA SD (fun q => absurd q.symm ne) (fun _ => rfl)) hZ (hw _ (List.mem_of_getElem? (i := 7) rfl)) (hw _ (List.mem_of_getElem? (i := 1) rfl)) (by decide) (by decide)) q5a q5c (g := (mkF m 17 #[.val (.int f), .val (.ref cD), .unset] [(.ref cD)])) rfl (by rw [hml]; rfl) (Steps.refl _) (argsL := []) (rest := []) (lenOf own_pd0 rfl) rfl (by show 2 * 0 + _ ≤ _; exact Nat.le_of_eq rfl) (hb hby at_17) (fun _ _ => ⟨rfl, e4, (by decide : 0 + 0 ≤ _), (by decide : 0 + 0 ≤ _)⟩)
    dsimp only [Pt.U, Pt.locs, Pt.cells, Pt.slots] at X5 l5 y5 z5 st5 hQ5
    subst l5 y5 z5
    obtain ⟨rfl, N5q, e5⟩ := hQ5
    have N5 := Fr.app N0 N5q
    refine own_t (T' := T5) (g' := (mkF m 20 #[.val (.int f), .val (.ref cD), .unset] [(.ref cA)])) st5 ?_
    refine own_w (T' := T5) (g' := (mkF m 21 #[.val (.int f), .val (.ref cD), .val (.ref cA)] [])) (fun _ k_ => XS.astoreN X5.here hx rfl (hb hby at_20) rfl rfl (l' := #[.val (.int f), .val (.ref cD), .val (.ref cA)]) rfl k_) ?_
    refine own_w (T' := T5) (g' := (mkF m 22 #[.val (.int f), .val (.ref cD), .val (.ref cA)] [(.ref cA)])) (fun _ k_ => XS.aloadN X5.here hx rfl (hb hby at_21) rfl rfl k_) ?_
    refine own_w (T' := T5) (g' := (mkF m 27 #[.val (.int f), .val (.ref cD), .val (.ref cA)] [])) (fun _ k_ => XS.ifnonnullYes X5.here hx rfl (pc0 := 22) (pc' := 27) rfl (hb hby at_22) rfl (by decide) (by decide) k_) ?_
    refine own_w (T' := T5) (g' := (mkF m 28 #[.val (.int f), .val (.ref cD), .val (.ref cA)] [(.ref cA)])) (fun _ k_ => XS.aloadN X5.here hx rfl (hb hby at_27) rfl rfl k_) ?_
    refine own_w (T' := T5) (g' := (mkF m 29 #[.val (.int f), .val (.ref cD), .val (.ref cA)] [(.ref cD), (.ref cA)])) (fun _ k_ => XS.aloadN X5.here hx rfl (hb hby at_28) rfl rfl k_) ?_
    refine own_w (T' := T5) (g' := (mkF m 34 #[.val (.int f), .val (.ref cD), .val (.ref cA)] [])) (fun _ k_ => Jvm.RoadKit.acmp (g := (mkF m 29 #[.val (.int f), .val (.ref cD), .val (.ref cA)] [(.ref cD), (.ref cA)])) X5 hx rfl rfl rfl (pc0 := 29) (pc' := 34) (same := false) rfl (hb hby at_29) rfl (decide_eq_false fun q => ne (Value.ref.inj q)) (by decide) (by decide) k_) ?_
    refine own_w (T' := T5) (g' := (mkF m 35 #[.val (.int f), .val (.ref cD), .val (.ref cA)] [(.ref cA)])) (fun _ k_ => XS.aloadN X5.here hx rfl (hb hby at_34) rfl rfl k_) ?_
    obtain ⟨cq6, kq6, q6a, q6b, q6c⟩ := isOf hZ e5 EA
    obtain ⟨_, _, ⟨T6, L6, k6, n6⟩, -, X6, ⟨Lc6, hQ6, l6, y6, z6⟩, st6⟩ := X5.virtualBack hx (y := (⟨"com/example/pagequilt/pagequilt/Direction", "reversed", "()Lcom/example/pagequilt/pagequilt/Direction;"⟩ : MethodName)) (z := (⟨"com/example/pagequilt/pagequilt/Direction", "reversed", "()Lcom/example/pagequilt/pagequilt/Direction;"⟩ : MethodName)) hown (mvT hZ (hw _ (List.mem_of_getElem? (i := 3) rfl))) (mvT hZ (hw _ (List.mem_of_getElem? (i := 4) rfl))) (notFace_of_selects (args := #[]) (mvT hZ (hw _ (List.mem_of_getElem? (i := 6) rfl)))) (mvT hZ (hw _ (List.mem_of_getElem? (i := 6) rfl))) (mvT hZ (hw _ (List.mem_of_getElem? (i := 5) rfl))) (by decide) (backOf (W := 0) (own_rm1 l Z a0 hw [] cA cA cD cD h0 n0 Z0 SA SD (fun _ => rfl) (fun q => absurd rfl q)) hZ (hw _ (List.mem_of_getElem? (i := 7) rfl)) (hw _ (List.mem_of_getElem? (i := 1) rfl)) (by decide) (by decide)) q6a q6c (g := (mkF m 35 #[.val (.int f), .val (.ref cD), .val (.ref cA)] [(.ref cA)])) rfl (by rw [hml]; rfl) (Steps.refl _) (argsL := []) (rest := []) (lenOf own_pd0 rfl) rfl (by show 2 * 0 + _ ≤ _; exact Nat.le_of_eq rfl) (hb hby at_35) (fun _ _ => ⟨rfl, e5, (by decide : 0 + 0 ≤ _), (by decide : 0 + 0 ≤ _)⟩)
    dsimp only [Pt.U, Pt.locs, Pt.cells, Pt.slots] at X6 l6 y6 z6 st6 hQ6
    subst l6 y6 z6
    obtain ⟨rfl, N6q, e6⟩ := hQ6
    have N6 := Fr.app N5 N6q
    refine own_t (T' := T6) (g' := (mkF m 38 #[.val (.int f), .val (.ref cD), .val (.ref cA)] [(.ref cD)])) st6 ?_
    refine own_w (T' := T6) (g' := (mkF m 39 #[.val (.int f), .val (.ref cD), .val (.ref cA)] [(.ref cD), (.ref cD)])) (fun _ k_ => XS.aloadN X6.here hx rfl (hb hby at_38) rfl rfl k_) ?_
    refine own_w (T' := T6) (g' := (mkF m 42 #[.val (.int f), .val (.ref cD), .val (.ref cA)] [])) (fun _ k_ => Jvm.RoadKit.acmp (g := (mkF m 39 #[.val (.int f), .val (.ref cD), .val (.ref cA)] [(.ref cD), (.ref cD)])) X6 hx rfl rfl rfl (pc0 := 39) (pc' := 42) (same := true) rfl (hb hby at_39) rfl (decide_eq_true (congrArg Value.ref rfl)) (by decide) (by decide) k_) ?_
    refine own_w (T' := T6) (g' := (mkF m 43 #[.val (.int f), .val (.ref cD), .val (.ref cA)] [(.int (1 : Int32))])) (fun _ k_ => XS.iconst X6.here hx rfl (hb hby at_42) k_) ?_
    refine own_w (T' := T6) (g' := (mkF m 47 #[.val (.int f), .val (.ref cD), .val (.ref cA)] [(.int (1 : Int32))])) (fun _ k_ => XS.goto X6.here hx rfl (pc0 := 43) (pc' := 47) rfl (hb hby at_43) (by decide) (by decide) k_) ?_
    obtain ⟨fs, hr, hrun, hended, hW, hsame⟩ := X6.leave (v := some (.int (1 : Int32))) (fun h => by rw [Bd.returns] at h; cases h)
    exact ⟨_, _, retOut X6 hx Bd.returns rfl (Or.inl ⟨rfl, Or.inr (Or.inl rfl), _, rfl⟩) (hb hby at_47) hr, hrun, hended, _, _, rfl, (by show own_Q0 Z f cA cD h0 n0 _ T6.heap _; rw [e6]; exact ⟨rfl, N6⟩), ⟨_, rfl⟩, hW, hsame.mono (by decide) (by decide)⟩
set_option maxRecDepth 65536 in
set_option maxHeartbeats 40000000 in
theorem comes_1 {Post : Tables → Env → Array Value → State → Outcome → State → Prop} (hpost : ∀ tb e args s v u, (limb_1_1.after args s (.returned v) u = true ∧ limb_1_2.after args s (.returned v) u = true ∧ True) → FrameEnd s (.returned v) u (Jvm.fieldLocs frame_1_writes args s ++ Jvm.arrayLocs frame_1_arrays args s ++ Jvm.staticLocs frame_1_statics s) 0 0 → Post tb e args s (.returned v) u) :
    ArmFor flags0 classFile x code maxLocals ret World_1 tables_1 room_1 Calls_1 rest_1 Pre_1 Post := by
  intro l hfl _ _ p e ha hc hk s m args below hf hA hF happ hP
  obtain ⟨hcalls, hrest, hpre⟩ := hP
  obtain ⟨-, -, -, hnamed, -, -, -, hat⟩ := (Spec.applies_iff hf).mp happ
  obtain ⟨hg, hn⟩ := and_e (Cond.before_iff.mp (show (Jvm.Cond.and given_1 narrow_1).before args s = true from hpre))
  obtain ⟨hcount, hr0⟩ := and_e hg
  have ga0 := hr0
  obtain ⟨w0, rfl⟩ : ∃ w0 : Value, args = #[w0] := by
    have hs : args.size = 1 := by simpa [Cond.value, given_1] using hcount
    obtain ⟨L⟩ := args
    match L, hs with
    | [w0], _ => exact ⟨w0, rfl⟩
  have hw := fun d (hd : d ∈ tables_1) => atoms_spec (ws := Jvm.Cond.code x code maxLocals ret :: tables_1) hat d (List.mem_cons_of_mem _ hd)
  obtain ⟨i0, ei0⟩ := is_v ga0
  obtain rfl : w0 = (.int i0) := Option.some.inj ei0
  obtain ⟨n1, hn1⟩ := and_e hn
  obtain ⟨n2, hn2⟩ := and_e hn1
  obtain ⟨n3, n4⟩ := and_e hn2
  obtain ⟨cA, evA⟩ := exa_v n1
  obtain ⟨cD, evD⟩ := exa_v n2
  have SA := Sta.start evA (Or.inr ⟨(hw _ (List.mem_of_getElem? (i := 1) rfl)), (hw _ (List.mem_of_getElem? (i := 2) rfl))⟩)
  have SD := Sta.start evD (Or.inr ⟨(hw _ (List.mem_of_getElem? (i := 1) rfl)), (hw _ (List.mem_of_getElem? (i := 10) rfl))⟩)
  have EA := Exa.start evA n1
  have ED := Exa.start evD n2
  have OD := own_ord evD n3
  have OA := own_ord evA n4
  obtain ⟨n, o, h1, h2, h3, _, L, rfl, ⟨rfl, N⟩, hq⟩ := own_rm0 l s _ hw tables_1 i0 cA cD s.heap s.heap.size (Nat.le_refl _) SA SD EA ED (Fld.ne OA OD (by decide)) p e ha hc hk s m _ below hf ((Spec.applies_iff_loose hf).mp happ).1 ⟨rfl, State.Warmed39.refl s, rfl⟩ trivial
  refine ⟨n, _, h1, h2, h3, hpost _ _ _ _ _ _ ⟨Cond.after_iff.mpr rfl, Cond.after_iff.mpr (eq_i res_at (Term.int_eval (1)) rfl), trivial⟩ ⟨hq.1, hq.2.1, (hq.2.2.sift fun y hy => Or.inr (N y hy)).mono (by decide) (by decide)⟩⟩
theorem main_1_1 : Claimed_1_1 := comes_1 fun _ _ _ _ _ _ h hF => ⟨h.1, hF⟩
theorem main_1_2 : Claimed_1_2 := comes_1 fun _ _ _ _ _ _ h hF => ⟨h.2.1, hF⟩
end Jvm.Pilot.@@N@@
namespace Jvm.Pilot.@@N@@
open Jvm Jvm.ClassFile Sem Op Lib Jvm.Free Jvm.Stand Jvm.Pilot.@@N@@.Jvm.D
/-! MADE BY PROGRAM (witnessworld.py) out of the Statement's table words and the real class files: 12 classes; the members and pool entries that the words name. The judged class is class 1, her method 1. -/
namespace start1
open Jvm.ClassFile
def u (s : String) : CpInfo := .utf8 (stringToUtf16 s)
/-- a pool by its gaps: so many unusable entries, then the entry; so many at the end -/
def gap : Nat → List CpInfo → List CpInfo
  | 0, r => r
  | n + 1, r => .unusable :: gap n r
def poolList (es : List (Nat × CpInfo)) (last : Nat) : List CpInfo := es.foldr (fun e r => gap e.1 (e.2 :: r)) (gap last [])
def pool (es : List (Nat × CpInfo)) (last : Nat) : Array CpInfo := ⟨poolList es last⟩
def fileOf (pool : Array CpInfo) (this : Nat) (attrs : Array Attribute := #[]) (ms : Array MethodInfo := #[]) (fl : Nat := 33) (sup : Nat := 0) (ifs : Array Nat := #[]) (fds : Array FieldInfo := #[]) : ClassFile where
  minorVersion := 0
  majorVersion := 65
  constantPool := pool
  accessFlags := fl
  thisClass := this
  superClass := sup
  interfaces := ifs
  fields := fds
  methods := ms
  attributes := attrs
def plain (name : String) (sup : Option ClassId) : Class where
  name := name
  kind := .ordinary
  loader := none
  accessFlags := 33
  super := sup
  interfaces := #[]
  cf := none
  fields := #[]
  methods := #[]
  instanceTypes := #[]
  staticTypes := #[]
  resolved := #[]
  callSites := []
  init := .initialized
  statics := none
  mirror := none

def pool0 : Array CpInfo := pool [(5, u "<init>"), (0, u "()V"), (1, .class_ 10), (1, u "java/lang/Object")] 113

def k0m0 : Method := { name := "<init>", desc := "()V", sig := { parameters := [], returnType := none }, accessFlags := 1, code := none }
/-- java/lang/Object -/
def k0 : Class := { plain "java/lang/Object" none with
  accessFlags := 33
  interfaces := #[]
  cf := some (fileOf pool0 8 #[] #[{ accessFlags := 1, nameIndex := 5, descriptorIndex := 6, attributes := #[] }] 33 0 #[] #[])
  fields := #[]
  methods := #[k0m0]
  instanceTypes := #[]
  staticTypes := #[]
  resolved := Array.replicate 124 none
  statics := none }

def pool1 : Array CpInfo := pool [(2, .class_ 4), (1, u "java/lang/Object"), (0, u "<init>"), (0, u "()V"), (0, .fieldref 8 9), (0, .class_ 10), (0, .nameAndType 11 12), (0, u "com/example/pagequilt/pagequilt/Direction"), (0, u "DESCENDING"), (0, u "Lcom/example/pagequilt/pagequilt/Direction;"), (0, .fieldref 8 14), (0, .nameAndType 15 12), (0, u "ASCENDING"), (0, .methodref 8 17), (0, .nameAndType 18 19), (0, u "reversed"), (0, u "()Lcom/example/pagequilt/pagequilt/Direction;"), (0, .class_ 21), (0, u "com/example/pagequilt/pagequilt/DirectionReversedPinLaw"), (2, u "law"), (0, u "(I)Z")] 3

def k1m0 : Method := { name := "<init>", desc := "()V", sig := { parameters := [], returnType := none }, accessFlags := 1, code := none }
def k1c1 : Code := { maxStack := 2, maxLocals := 3, code := code, exceptionTable := #[], attributes := #[] }
def k1m1 : Method := { name := "law", desc := "(I)Z", sig := { parameters := [.int], returnType := some .boolean }, accessFlags := 9, code := some k1c1 }
/-- com/example/pagequilt/pagequilt/DirectionReversedPinLaw -/
def k1 : Class := { plain "com/example/pagequilt/pagequilt/DirectionReversedPinLaw" (some 0) with
  accessFlags := 49
  interfaces := #[]
  cf := some (fileOf pool1 20 #[] #[{ accessFlags := 1, nameIndex := 5, descriptorIndex := 6, attributes := #[] }, { accessFlags := 9, nameIndex := 24, descriptorIndex := 25, attributes := #[] }] 49 2 #[] #[])
  fields := #[]
  methods := #[k1m0, k1m1]
  instanceTypes := #[]
  staticTypes := #[]
  resolved := Array.replicate 29 none
  statics := none }

def pool2 : Array CpInfo := pool [(1, .class_ 2), (0, u "java/lang/constant/Constable"), (0, .class_ 4), (0, u "java/lang/Object")] 6

/-- java/lang/constant/Constable -/
def k2 : Class := { plain "java/lang/constant/Constable" (some 0) with
  accessFlags := 1537
  interfaces := #[]
  cf := some (fileOf pool2 1 #[] #[] 1537 3 #[] #[])
  fields := #[]
  methods := #[]
  instanceTypes := #[]
  staticTypes := #[]
  resolved := Array.replicate 11 none
  statics := none }

def pool3 : Array CpInfo := pool [(1, .class_ 2), (0, u "java/lang/Comparable"), (0, .class_ 4), (0, u "java/lang/Object")] 7

/-- java/lang/Comparable -/
def k3 : Class := { plain "java/lang/Comparable" (some 0) with
  accessFlags := 1537
  interfaces := #[]
  cf := some (fileOf pool3 1 #[] #[] 1537 3 #[] #[])
  fields := #[]
  methods := #[]
  instanceTypes := #[]
  staticTypes := #[]
  resolved := Array.replicate 12 none
  statics := none }

def pool4 : Array CpInfo := pool [(1, .class_ 2), (0, u "java/io/Serializable"), (0, .class_ 4), (0, u "java/lang/Object")] 2

/-- java/io/Serializable -/
def k4 : Class := { plain "java/io/Serializable" (some 0) with
  accessFlags := 1537
  interfaces := #[]
  cf := some (fileOf pool4 1 #[] #[] 1537 3 #[] #[])
  fields := #[]
  methods := #[]
  instanceTypes := #[]
  staticTypes := #[]
  resolved := Array.replicate 7 none
  statics := none }

def pool5 : Array CpInfo := pool [(2, .class_ 4), (1, u "java/lang/Enum"), (0, u "name"), (0, u "Ljava/lang/String;"), (2, u "ordinal"), (0, u "I"), (1, .class_ 14), (1, u "java/lang/Object"), (4, u "hash"), (86, .class_ 108), (1, u "java/lang/Enum$EnumDesc"), (2, .class_ 112), (0, u "java/lang/constant/Constable"), (0, .class_ 114), (0, u "java/lang/Comparable"), (0, .class_ 116), (0, u "java/io/Serializable")] 87

/-- java/lang/Enum -/
def k5 : Class := { plain "java/lang/Enum" (some 0) with
  accessFlags := 1057
  interfaces := #[2, 3, 4]
  cf := some (fileOf pool5 2 #[.nestMembers #[106]] #[] 1057 12 #[111, 113, 115] #[{ accessFlags := 18, nameIndex := 5, descriptorIndex := 6, attributes := #[] }, { accessFlags := 18, nameIndex := 9, descriptorIndex := 10, attributes := #[] }, { accessFlags := 2, nameIndex := 19, descriptorIndex := 10, attributes := #[] }])
  fields := #[{ name := "name", type := (.object "java/lang/String"), accessFlags := 18, slot := 0, constantValue := 0 }, { name := "ordinal", type := .int, accessFlags := 18, slot := 1, constantValue := 0 }, { name := "hash", type := .int, accessFlags := 2, slot := 2, constantValue := 0 }]
  methods := #[]
  instanceTypes := #[(.object "java/lang/String"), .int, .int]
  staticTypes := #[]
  resolved := Array.replicate 204 none
  statics := none }

def pool6 : Array CpInfo := pool [(1, .class_ 2), (0, u "com/example/pagequilt/pagequilt/Direction"), (0, .fieldref 1 4), (0, .nameAndType 5 6), (0, u "ASCENDING"), (0, u "Lcom/example/pagequilt/pagequilt/Direction;"), (0, .fieldref 1 8), (0, .nameAndType 9 6), (0, u "DESCENDING"), (2, u "$VALUES"), (0, u "[Lcom/example/pagequilt/pagequilt/Direction;"), (6, .class_ 22), (1, u "java/lang/Enum"), (8, u "keyword"), (0, u "Ljava/lang/String;"), (21, u "reversed"), (0, u "()Lcom/example/pagequilt/pagequilt/Direction;")] 6

def k6c0 : Code := { maxStack := 2, maxLocals := 1, code := prog_14_method_5_code, exceptionTable := #[], attributes := #[] }
def k6m0 : Method := { name := "reversed", desc := "()Lcom/example/pagequilt/pagequilt/Direction;", sig := { parameters := [], returnType := some (.object "com/example/pagequilt/pagequilt/Direction") }, accessFlags := 0, code := some k6c0 }
/-- com/example/pagequilt/pagequilt/Direction -/
def k6 : Class := { plain "com/example/pagequilt/pagequilt/Direction" (some 5) with
  accessFlags := 16433
  interfaces := #[]
  cf := some (fileOf pool6 1 #[] #[{ accessFlags := 0, nameIndex := 54, descriptorIndex := 55, attributes := #[] }] 16433 20 #[] #[{ accessFlags := 16409, nameIndex := 5, descriptorIndex := 6, attributes := #[] }, { accessFlags := 16409, nameIndex := 9, descriptorIndex := 6, attributes := #[] }, { accessFlags := 18, nameIndex := 31, descriptorIndex := 32, attributes := #[] }, { accessFlags := 4122, nameIndex := 12, descriptorIndex := 13, attributes := #[] }])
  fields := #[{ name := "ASCENDING", type := (.object "com/example/pagequilt/pagequilt/Direction"), accessFlags := 16409, slot := 0, constantValue := 0 }, { name := "DESCENDING", type := (.object "com/example/pagequilt/pagequilt/Direction"), accessFlags := 16409, slot := 1, constantValue := 0 }, { name := "keyword", type := (.object "java/lang/String"), accessFlags := 18, slot := 3, constantValue := 0 }, { name := "$VALUES", type := (.array (.object "com/example/pagequilt/pagequilt/Direction")), accessFlags := 4122, slot := 2, constantValue := 0 }]
  methods := #[k6m0]
  instanceTypes := #[(.object "java/lang/String"), .int, .int, (.object "java/lang/String")]
  staticTypes := #[(.object "com/example/pagequilt/pagequilt/Direction"), (.object "com/example/pagequilt/pagequilt/Direction"), (.array (.object "com/example/pagequilt/pagequilt/Direction"))]
  resolved := Array.replicate 62 none
  statics := some 0 }

def pool7 : Array CpInfo := pool [(1, u "java/lang/Cloneable"), (0, .class_ 1), (0, u "java/lang/Object"), (0, .class_ 3)] 3

/-- java/lang/Cloneable -/
def k7 : Class := { plain "java/lang/Cloneable" (some 0) with
  accessFlags := 1537
  interfaces := #[]
  cf := some (fileOf pool7 2 #[] #[] 1537 4 #[] #[])
  fields := #[]
  methods := #[]
  instanceTypes := #[]
  staticTypes := #[]
  resolved := Array.replicate 8 none
  statics := none }

/-- the primitive byte -/
def k8 : Class := { plain "byte" none with kind := .primitive 'B', accessFlags := 0x411 }
/-- [B -/
def k9 : Class := { plain "[B" (some 0) with kind := .array 8 .byte, interfaces := #[7, 4], accessFlags := 1041 }

/-- the primitive int -/
def k10 : Class := { plain "int" none with kind := .primitive 'I', accessFlags := 0x411 }
/-- [I -/
def k11 : Class := { plain "[I" (some 0) with kind := .array 10 .int, interfaces := #[7, 4], accessFlags := 1041 }

def heap : Heap := #[{ cls := 6, slots := #[.ref 1, .ref 2, .null], vm := .statics 6 },
  { cls := 6, slots := #[.null, .int 0, .int 0, .null], vm := .none },
  { cls := 6, slots := #[.null, .int 1, .int 0, .null], vm := .none }]
def classes : Array Class := #[k0, k1, k2, k3, k4, k5, k6, k7, k8, k9, k10, k11]
def interned : List (Array UInt16 × Addr) := []
def slotsUsed : Nat := 11
def theMethod : MethodId := ⟨1, 1⟩
def args0 : Array Value := #[.int 5]
def aboutOver (below : List Frame) : State where
  vm := { classes := classes, interned := interned.toArray }
  heap := heap
  slotsUsed := slotsUsed
  threads := #[{ frames := .invoking theMethod args0 :: below }]
def below0 : List Frame := [.native { method := ⟨0, 0⟩, args := #[] }]
def about1 : State := aboutOver below0
def p0 : Program := .bare "" "" ""
def e0 : Env := launch0.env 0 0 0
theorem w_frames : about1.frames = Frame.invoking theMethod args0 :: below0 := rfl
set_option maxRecDepth 65536 in
theorem w_args : argsFit about1.vm theMethod args0 = true := by decide +kernel
set_option maxRecDepth 65536 in
theorem w_heap : heapFits about1 = true := by decide +kernel
set_option maxRecDepth 65536 in
theorem w_runnable : about1.curStatus? = some .runnable := by decide +kernel
set_option maxRecDepth 65536 in
theorem w_alone : about1.alone = true := by decide +kernel
set_option maxRecDepth 65536 in
theorem w_named : about1.methodNamed? x = some theMethod := by decide +kernel
set_option maxRecDepth 65536 in
theorem w_hears : about1.hears theMethod below0 = true := by decide +kernel
set_option maxRecDepth 65536 in
theorem w_ripe : about1.ripe theMethod args0 below0 = true := by decide +kernel
theorem w_running : about1.status = .running := rfl
set_option maxRecDepth 65536 in
theorem w_room : about1.hasRoom e0.platform room_1 = true :=
  launch0.hasRoom_least _ room_1 (by decide +kernel) (by decide +kernel) (by decide +kernel) (by decide +kernel) (by decide +kernel) (by decide +kernel)
theorem allAtoms_all (ts : List Jvm.Cond) (a : Array Jvm.Value) (st : Jvm.State) : (allAtoms ts).before a st = ts.all (fun c => c.before a st) := by
  induction ts with
  | nil => rfl
  | cons c t ih =>
    show (Jvm.Cond.and c (allAtoms t)).before a st = _
    rw [Jvm.Cond.before_and, ih, List.all_cons]
def words1 : List Jvm.Cond := Jvm.Cond.code x code maxLocals ret :: tables_1
/-- a 'code' word, met by the world's own term for the bytes: nothing is compared byte by byte -/
theorem code_word {y : MethodName} {bytes : ByteArray} {mx : Nat} {rt : Option FieldType} {a : Array Value} {s : State} {m : MethodId} {meth : Method} {c : Code} (h1 : s.methodNamed? y = some m) (h2 : s.vm.method? m = some meth) (h3 : meth.code = some c) (h4 : c.code = bytes)
    (h5 : (c.maxLocals == mx && c.exceptionTable.isEmpty && decide (c.maxStack ≤ mostOperands) && decide (meth.sig.returnType = rt) && !meth.locks && decide (parseMethodDescriptor y.desc = some meth.sig)) = true) : (Jvm.Cond.code y bytes mx rt).before a s = true := by
  simp only [Bool.and_eq_true, beq_iff_eq, Bool.not_eq_true', decide_eq_true_eq] at h5
  obtain ⟨⟨⟨⟨⟨g1, g2⟩, g3⟩, g4⟩, g5⟩, g6⟩ := h5
  simp [Cond.before, Cond.holds, Cond.value, h1, h2, h3, h4, g1, g2, g3, g4, g5, g6]
def isCode : Jvm.Cond → Bool
  | .code _ _ _ _ => true
  | _ => false
theorem all_split {L : List Jvm.Cond} {P : Jvm.Cond → Bool} (h1 : L.all (fun c => isCode c || P c) = true) (h2 : ∀ c ∈ L.filter isCode, P c = true) : L.all P = true := by
  refine List.all_eq_true.mpr fun c hc => ?_
  have h := List.all_eq_true.mp h1 c hc
  rcases Bool.eq_false_or_eq_true (isCode c) with hi | hi
  · exact h2 c (List.mem_filter.mpr ⟨hc, hi⟩)
  · simpa [hi] using h
set_option maxRecDepth 65536 in
theorem w_c0 : (Jvm.Cond.code x code maxLocals ret).before args0 about1 = true := code_word (m := ⟨1, 1⟩) (meth := k1m1) (c := k1c1) (by decide +kernel) rfl rfl rfl (by decide +kernel)
set_option maxRecDepth 65536 in
theorem w_c1 : (Jvm.Cond.code ({ cls := "com/example/pagequilt/pagequilt/Direction", name := "reversed", desc := "()Lcom/example/pagequilt/pagequilt/Direction;" } : Jvm.MethodName) prog_14_method_5_code (1 : Nat) (Option.some (Jvm.ClassFile.FieldType.object "com/example/pagequilt/pagequilt/Direction"))).before args0 about1 = true := code_word (m := ⟨6, 0⟩) (meth := k6m0) (c := k6c0) (by decide +kernel) rfl rfl rfl (by decide +kernel)
def codes1 : List Jvm.Cond := [Jvm.Cond.code x code maxLocals ret, Jvm.Cond.code ({ cls := "com/example/pagequilt/pagequilt/Direction", name := "reversed", desc := "()Lcom/example/pagequilt/pagequilt/Direction;" } : Jvm.MethodName) prog_14_method_5_code (1 : Nat) (Option.some (Jvm.ClassFile.FieldType.object "com/example/pagequilt/pagequilt/Direction"))]
set_option maxRecDepth 65536 in
theorem codes_eq : words1.filter isCode = codes1 := rfl
theorem w_codes : ∀ c ∈ words1.filter isCode, c.before args0 about1 = true := by
  rw [codes_eq]
  intro c hc
  simp only [codes1, List.mem_cons, List.not_mem_nil, or_false] at hc
  rcases hc with rfl | rfl
  · exact w_c0
  · exact w_c1
set_option maxRecDepth 65536 in
theorem w_t1 : words1.all (fun c => isCode c || c.before args0 about1) = true := by decide +kernel
theorem w_tables : (allAtoms (Jvm.Cond.code x code maxLocals ret :: tables_1)).before args0 about1 = true := by
  rw [allAtoms_all]
  show words1.all (fun c => c.before args0 about1) = true
  refine all_split ?_ w_codes
  rw [w_t1]
set_option maxRecDepth 65536 in
theorem w_case : (Jvm.Cond.and given_1 narrow_1).before args0 about1 = true := by decide +kernel
theorem w_applies : (headSpec (Jvm.Cond.code x code maxLocals ret :: tables_1) room_1).applies x e0.platform about1 = true :=
  (Spec.applies_iff w_frames).mpr ⟨w_running, w_runnable, w_alone, w_named, w_hears, w_ripe, w_room, w_tables⟩
theorem atStart : AtStart classFile x code maxLocals ret World_1 tables_1 room_1 Calls_1 rest_1 Pre_1 launch0 p0 e0 about1 theMethod args0 below0 :=
  ⟨lists_1, trivial, launch0.admits_env _ _ _, launch0.least_env, fairChoices_fair.cas, fairChoices_fair.clock, w_frames, w_args, w_heap, w_applies, trivial, trivial, w_case⟩
end start1
theorem witness_1 : WitnessClaimed_1 := ⟨start1.p0, start1.e0, start1.about1, start1.theMethod, start1.args0, start1.below0, start1.atStart⟩
end Jvm.Pilot.@@N@@
