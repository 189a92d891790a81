import JvmDerived
import JvmDerived.Pilot.@@N@@Statement
import JvmDerived.Pilot.@@N@@Code
set_option linter.unusedVariables false
set_option linter.unusedSimpArgs false
namespace Jvm.Pilot.@@N@@
open Jvm Jvm.ClassFile Sem Op Lib Jvm.Free Jvm.Stand Jvm.LawKit Jvm.RoadKit Bundle Jvm.Pilot.@@N@@.Jvm.D
/-- what is left to show at a frame of the walk: the run from there ends as the contract says -/
def own_G (p : Program) (e : Env) (below : List Frame) (s : State) (Q : Option Value → Heap → List Loc → Prop) (ce sl : Nat) (T : State) (g : JFrame) : Prop :=
  ∃ s₂ o, Steps p.tables e below (T.setTop g) s₂ ∧ s₂.status = .running ∧ Ended s₂ below o ∧ ∃ v L, o = .returned v ∧ Q v s₂.heap L ∧ FrameEnd s o s₂ L ce sl
theorem own_w {p : Program} {e : Env} {below : List Frame} {s : State} {Q : Option Value → Heap → List Loc → Prop} {ce sl : Nat} {T T' : State} {g g' : JFrame}
    (st : ∀ target, Steps p.tables e below (T'.setTop g') target → Steps p.tables e below (T.setTop g) target) (k : own_G p e below s Q ce sl T' g') : own_G p e below s Q ce sl T g := by
  obtain ⟨u, o, a, r⟩ := k
  exact ⟨u, o, st u a, r⟩
theorem own_t {p : Program} {e : Env} {below : List Frame} {s : State} {Q : Option Value → Heap → List Loc → Prop} {ce sl : Nat} {T T' : State} {g g' : JFrame}
    (st : Steps p.tables e below (T.setTop g) (T'.setTop g')) (k : own_G p e below s Q ce sl T' g') : own_G p e below s Q ce sl T g := own_w (fun _ k => st.trans k) k
theorem own_sta {Z : State} {h h' : Heap} {C n d : String} {v : Value} {a : Addr} (F : Sta Z h C n d v) (K : Keep h h' [a]) (na : ∀ cell : Cell, h[a]? = some cell → cell.vm.isStatics = false) : Sta Z h' C n d v := by
  obtain ⟨cf, i, k, f, st, cell, h1, h2, h3, h4, h5, h6, h7⟩ := F
  refine ⟨cf, i, k, f, st, cell, h1, h2, h3, h4, K.2.1 st cell h5 (fun q => ?_), h6, h7⟩
  have e : st = a := List.mem_singleton.mp q
  subst e
  rw [na _ h5] at h6; cases h6
theorem own_nb {P : Prop} [Decidable P] : narrow .boolean (.int (if P then (1 : Int32) else 0)) = .int (if P then (1 : Int32) else 0) := by split <;> rfl
theorem own_ite0 {P : Prop} [Decidable P] : ((if P then (1 : Int32) else 0) = 0) = ¬ P := by by_cases h : P <;> simp [h]
theorem own_d2_0 : decode jdk_30_method_1_code 0 = .ok (.aload_n 0, 1) := by decide +kernel
theorem own_d2_1 : decode jdk_30_method_1_code 1 = .ok (.invokespecial 1, 3) := by decide +kernel
theorem own_d2_4 : decode jdk_30_method_1_code 4 = .ok (.return_, 1) := by decide +kernel
theorem own_pn_java_lang_Record : plainName "java/lang/Record" = true := by first | (simp [plainName, overriddenIn]; done) | decide +kernel
theorem own_rm2_ef (m : MethodId) (a : Addr) : entryFrame m #[(.ref a)] 1 = mkF m 0 #[.val (.ref a)] [] := by first | (simp [entryFrame, mkF, argsToLocals, Value.category]; done) | rfl
def own_Q2 (Z : State) (a : Addr) (h0 : Heap) (n0 : Nat) (v_ : Option Value) (h : Heap) (L_ : List Loc) : Prop := v_ = none ∧ Fr n0 L_ ∧ (h = h0)
set_option maxRecDepth 65536 in
set_option maxHeartbeats 40000000 in
theorem own_rm2 (l : Launch) (Z : State) (a0 : Array Value) (hw : ∀ d ∈ tables_1, d.before a0 Z = true) (ws : List Jvm.Cond) (a : Addr) (h0 : Heap) (n0 : Nat) (Z0 : n0 ≤ h0.size)  :
    MetFree l (⟨"java/lang/Record", "<init>", "()V"⟩ : MethodName) (head1 (Jvm.Cond.code (⟨"java/lang/Record", "<init>", "()V"⟩ : MethodName) jdk_30_method_1_code 1 none :: ws) ({ frames := 1, cells := 0, slots := 0, locals := 12 } : Room)) (fun a_ U_ => a_ = #[(.ref a)] ∧ Z.Warmed39 U_.vm ∧ U_.heap = h0) (fun _ _ _ _ _ => True) (fun _ U_ o_ V_ => ∃ v_ L_, o_ = .returned v_ ∧ own_Q2 Z a h0 n0 v_ V_.heap L_ ∧ FrameEnd U_ o_ V_ L_ ({ frames := 1, cells := 0, slots := 0, locals := 12 } : Room).cells ({ frames := 1, cells := 0, slots := 0, locals := 12 } : Room).slots) := by
  refine MetFree.of_bodySF (plainFor_of_name own_pn_java_lang_Record) hisR ?_
  intro p e s m args below meth c s₁ Bd hml0 hP hK
  obtain ⟨rfl, hZ, hh⟩ := hP
  have hx := Bd.exec
  have hby := Bd.bytes
  have hml : c.maxLocals = 1 := hml0
  have hown : s.vm.findClass "java/lang/Record" = some m.cls := findClass_of_methodNamed Bd.named
  have hnm := (name_of_methodNamed Bd.named Bd.method).1
  have X0 : Stand p l e ({ frames := 1, cells := 0, slots := 0, locals := 12 } : Room) s m #[(.ref a)] below meth c s₁ [] 0 0 := Stand.of_body Bd
  have e0 : s₁.heap = h0 := by rw [← hh, Bd.state]; rfl
  have N0 := Fr.nil n0
  show own_G p e below s (own_Q2 Z a h0 n0) ({ frames := 1, cells := 0, slots := 0, locals := 12 } : Room).cells ({ frames := 1, cells := 0, slots := 0, locals := 12 } : Room).slots s₁ (entryFrame m #[(.ref a)] 1)
  rw [own_rm2_ef]
  refine own_w (T' := s₁) (g' := (mkF m 1 #[.val (.ref a)] [(.ref a)])) (fun _ k_ => XS.aloadN X0.here hx rfl (hb hby own_d2_0) rfl rfl k_) ?_
  obtain ⟨T1, X1, e1, st1⟩ := initO X0 hx hZ hown (hw _ (List.mem_of_getElem? (i := 11) rfl)) (hw _ (List.mem_of_getElem? (i := 12) rfl)) (hw _ (List.mem_of_getElem? (i := 13) rfl)) e0 (g := (mkF m 1 #[.val (.ref a)] [(.ref a)])) rfl (by rw [hml]; rfl) rfl (hb hby own_d2_1) (by decide) (W := 0) (by show 2 * 0 + _ ≤ _; exact Nat.le_of_eq rfl) (by decide)
  refine own_w (T' := T1) (g' := (mkF m 4 #[.val (.ref a)] [])) st1 ?_
  obtain ⟨fs, hr, hrun, hended, hW, hsame⟩ := X1.leave (v := none) (fun _ => rfl)
  exact ⟨_, _, X1.returnOut hx Bd.returns (hb hby own_d2_4) hr, hrun, hended, _, _, rfl, (by show own_Q2 Z a h0 n0 _ T1.heap _; rw [e1]; exact ⟨rfl, N0, rfl⟩), ⟨_, rfl⟩, hW, hsame.mono (by decide) (by decide)⟩
theorem own_d1_0 : decode prog_31_method_1_code 0 = .ok (.aload_n 0, 1) := by decide +kernel
theorem own_d1_1 : decode prog_31_method_1_code 1 = .ok (.invokespecial 1, 3) := by decide +kernel
theorem own_pd0 : parseMethodDescriptor "()V" = some ⟨[], none⟩ := by decide +kernel
theorem own_d1_4 : decode prog_31_method_1_code 4 = .ok (.aload_n 0, 1) := by decide +kernel
theorem own_d1_5 : decode prog_31_method_1_code 5 = .ok (.lload_n 1, 1) := by decide +kernel
theorem own_d1_6 : decode prog_31_method_1_code 6 = .ok (.putfield 7, 3) := by decide +kernel
theorem own_d1_9 : decode prog_31_method_1_code 9 = .ok (.return_, 1) := by decide +kernel
theorem own_pn_com_example_pagequilt_pagequilt_MemberNumber : plainName "com/example/pagequilt/pagequilt/MemberNumber" = true := by first | (simp [plainName, overriddenIn]; done) | decide +kernel
theorem own_rm1_ef (m : MethodId) (a : Addr) (q : Int64) : entryFrame m #[(.ref a), (.long q)] 3 = mkF m 0 #[.val (.ref a), .val (.long q), .second] [] := by first | (simp [entryFrame, mkF, argsToLocals, Value.category]; done) | rfl
def own_Q1 (Z : State) (a : Addr) (q : Int64) (u : Value) (h0 : Heap) (n0 : Nat) (v_ : Option Value) (h : Heap) (L_ : List Loc) : Prop := v_ = none ∧ Fr n0 L_ ∧ (Keep h0 h [a]) ∧ (Fld Z h a "com/example/pagequilt/pagequilt/MemberNumber" "bits" "J" (.long q))
set_option maxRecDepth 65536 in
set_option maxHeartbeats 40000000 in
theorem own_rm1 (l : Launch) (Z : State) (a0 : Array Value) (hw : ∀ d ∈ tables_1, d.before a0 Z = true) (ws : List Jvm.Cond) (a : Addr) (q : Int64) (u : Value) (h0 : Heap) (n0 : Nat) (Z0 : n0 ≤ h0.size) (F : Fld Z h0 a "com/example/pagequilt/pagequilt/MemberNumber" "bits" "J" u) (E : Exa Z h0 a "com/example/pagequilt/pagequilt/MemberNumber") (g_a : n0 ≤ a) :
    MetFree l (⟨"com/example/pagequilt/pagequilt/MemberNumber", "<init>", "(J)V"⟩ : MethodName) (head1 (Jvm.Cond.code (⟨"com/example/pagequilt/pagequilt/MemberNumber", "<init>", "(J)V"⟩ : MethodName) prog_31_method_1_code 3 none :: ws) ({ frames := 2, cells := 0, slots := 0, locals := 24 } : Room)) (fun a_ U_ => a_ = #[(.ref a), (.long q)] ∧ Z.Warmed39 U_.vm ∧ U_.heap = h0) (fun _ _ _ _ _ => True) (fun _ U_ o_ V_ => ∃ v_ L_, o_ = .returned v_ ∧ own_Q1 Z a q u h0 n0 v_ V_.heap L_ ∧ FrameEnd U_ o_ V_ L_ ({ frames := 2, cells := 0, slots := 0, locals := 24 } : Room).cells ({ frames := 2, cells := 0, slots := 0, locals := 24 } : Room).slots) := by
  refine MetFree.of_bodySF (plainFor_of_name own_pn_com_example_pagequilt_pagequilt_MemberNumber) hisR ?_
  intro p e s m args below meth c s₁ Bd hml0 hP hK
  obtain ⟨rfl, hZ, hh⟩ := hP
  have hx := Bd.exec
  have hby := Bd.bytes
  have hml : c.maxLocals = 3 := hml0
  have hown : s.vm.findClass "com/example/pagequilt/pagequilt/MemberNumber" = some m.cls := findClass_of_methodNamed Bd.named
  have hnm := (name_of_methodNamed Bd.named Bd.method).1
  have X0 : Stand p l e ({ frames := 2, cells := 0, slots := 0, locals := 24 } : Room) s m #[(.ref a), (.long q)] below meth c s₁ [] 0 0 := Stand.of_body Bd
  have e0 : s₁.heap = h0 := by rw [← hh, Bd.state]; rfl
  have N0 := Fr.nil n0
  show own_G p e below s (own_Q1 Z a q u h0 n0) ({ frames := 2, cells := 0, slots := 0, locals := 24 } : Room).cells ({ frames := 2, cells := 0, slots := 0, locals := 24 } : Room).slots s₁ (entryFrame m #[(.ref a), (.long q)] 3)
  rw [own_rm1_ef]
  refine own_w (T' := s₁) (g' := (mkF m 1 #[.val (.ref a), .val (.long q), .second] [(.ref a)])) (fun _ k_ => XS.aloadN X0.here hx rfl (hb hby own_d1_0) rfl rfl k_) ?_
  obtain ⟨_, _, ⟨T1, L1, k1, n1⟩, -, X1, ⟨Lc1, hQ1, l1, y1, z1⟩, st1⟩ := X0.specialBack hx (y := (⟨"java/lang/Record", "<init>", "()V"⟩ : MethodName)) rfl hown (mvT hZ (hw _ (List.mem_of_getElem? (i := 6) rfl))) (mvT hZ (hw _ (List.mem_of_getElem? (i := 7) rfl))) (mvT hZ (hw _ (List.mem_of_getElem? (i := 10) rfl))) (by decide) (backOf (W := 0) (own_rm2 l Z a0 hw [] a  h0 n0 Z0 ) hZ (hw _ (List.mem_of_getElem? (i := 10) rfl)) (hw _ (List.mem_of_getElem? (i := 9) rfl)) (by decide) (by decide)) (g := (mkF m 1 #[.val (.ref a), .val (.long q), .second] [(.ref a)])) rfl (by rw [hml]; rfl) (Steps.refl _) (a := a) (argsL := []) (rest := []) (lenOf own_pd0 rfl) rfl (by show 2 * 0 + _ ≤ _; exact Nat.le_of_eq rfl) (hb hby own_d1_1) (fun _ _ => ⟨rfl, e0, (by decide : 0 + 0 ≤ _), (by decide : 0 + 0 ≤ _)⟩)
  dsimp only [Pt.U, Pt.locs, Pt.cells, Pt.slots] at X1 l1 y1 z1 st1 hQ1
  subst l1 y1 z1
  obtain ⟨rfl, N1q, e1⟩ := hQ1
  have N1 := Fr.app N0 N1q
  refine own_t (T' := T1) (g' := (mkF m 4 #[.val (.ref a), .val (.long q), .second] [])) st1 ?_
  refine own_w (T' := T1) (g' := (mkF m 5 #[.val (.ref a), .val (.long q), .second] [(.ref a)])) (fun _ k_ => XS.aloadN X1.here hx rfl (hb hby own_d1_4) rfl rfl k_) ?_
  refine own_w (T' := T1) (g' := (mkF m 6 #[.val (.ref a), .val (.long q), .second] [(.long q), (.ref a)])) (fun _ k_ => XS.lloadN X1.here hx rfl (hb hby own_d1_5) rfl k_) ?_
  obtain ⟨T2, h2, X2, e2, W2, st2⟩ := putF X1 hx hZ hown (host := "") (Or.inl (hw _ (List.mem_of_getElem? (i := 14) rfl))) Via.refl e1 F E (Or.inr ⟨(hw _ (List.mem_of_getElem? (i := 15) rfl)), rfl, hnm⟩) (hw _ (List.mem_of_getElem? (i := 1) rfl)) (ty := .long) (by decide) rfl rfl (g := (mkF m 6 #[.val (.ref a), .val (.long q), .second] [(.long q), (.ref a)])) rfl rfl (hb hby own_d1_6)
  have N2 := Fr.snoc X2 N1 g_a
  refine own_w (T' := T2) (g' := (mkF m 9 #[.val (.ref a), .val (.long q), .second] [])) st2 ?_
  obtain ⟨fs, hr, hrun, hended, hW, hsame⟩ := X2.leave (v := none) (fun _ => rfl)
  exact ⟨_, _, X2.returnOut hx Bd.returns (hb hby own_d1_9) hr, hrun, hended, _, _, rfl, (by show own_Q1 Z a q u h0 n0 _ T2.heap _; rw [e2]; exact ⟨rfl, N2, Keep.of_wr W2, F.same W2⟩), ⟨_, rfl⟩, hW, hsame.mono (by decide) (by decide)⟩
def own_cmp (x y : Int64) : Int32 := if x < y then -1 else if x = y then 0 else 1
def own_sign (r : Int32) : Int32 := if r < 0 then -1 else if 0 < r then 1 else 0
def own_uo (a b : Int64) : Int32 := if a = b then 0 else if a < 0 then (if b < 0 then (if a < b then -1 else 1) else 1) else if b < 0 then -1 else (if a < b then -1 else 1)
theorem own_d6_0 : decode jdk_35_method_42_code 0 = .ok (.lload_n 0, 1) := by decide +kernel
theorem own_d6_1 : decode jdk_35_method_42_code 1 = .ok (.lload_n 2, 1) := by decide +kernel
theorem own_d6_2 : decode jdk_35_method_42_code 2 = .ok (.lcmp, 1) := by decide +kernel
theorem own_d6_3 : decode jdk_35_method_42_code 3 = .ok (.ifCond .ge 7, 3) := by decide +kernel
theorem own_d6_6 : decode jdk_35_method_42_code 6 = .ok (.iconst (-1), 1) := by decide +kernel
theorem own_d6_7 : decode jdk_35_method_42_code 7 = .ok (.goto 14, 3) := by decide +kernel
theorem own_d6_21 : decode jdk_35_method_42_code 21 = .ok (.ireturn, 1) := by decide +kernel
theorem own_d6_10 : decode jdk_35_method_42_code 10 = .ok (.lload_n 0, 1) := by decide +kernel
theorem own_d6_11 : decode jdk_35_method_42_code 11 = .ok (.lload_n 2, 1) := by decide +kernel
theorem own_d6_12 : decode jdk_35_method_42_code 12 = .ok (.lcmp, 1) := by decide +kernel
theorem own_d6_13 : decode jdk_35_method_42_code 13 = .ok (.ifCond .ne 7, 3) := by decide +kernel
theorem own_d6_16 : decode jdk_35_method_42_code 16 = .ok (.iconst 0, 1) := by decide +kernel
theorem own_d6_17 : decode jdk_35_method_42_code 17 = .ok (.goto 4, 3) := by decide +kernel
theorem own_d6_20 : decode jdk_35_method_42_code 20 = .ok (.iconst 1, 1) := by decide +kernel
theorem own_pn_java_lang_Long : plainName "java/lang/Long" = true := by first | (simp [plainName, overriddenIn]; done) | decide +kernel
theorem own_rm6_ef (m : MethodId) (x : Int64) (y : Int64) : entryFrame m #[(.long x), (.long y)] 4 = mkF m 0 #[.val (.long x), .second, .val (.long y), .second] [] := by first | (simp [entryFrame, mkF, argsToLocals, Value.category]; done) | rfl
def own_Q6 (Z : State) (x : Int64) (y : Int64) (h0 : Heap) (n0 : Nat) (v_ : Option Value) (h : Heap) (L_ : List Loc) : Prop := v_ = some (.int (own_cmp x y)) ∧ Fr n0 L_ ∧ (h = h0)
set_option maxRecDepth 65536 in
set_option maxHeartbeats 40000000 in
theorem own_rm6 (l : Launch) (Z : State) (a0 : Array Value) (hw : ∀ d ∈ tables_1, d.before a0 Z = true) (ws : List Jvm.Cond) (x : Int64) (y : Int64) (h0 : Heap) (n0 : Nat) (Z0 : n0 ≤ h0.size)  :
    MetFree l (⟨"java/lang/Long", "compare", "(JJ)I"⟩ : MethodName) (head1 (Jvm.Cond.code (⟨"java/lang/Long", "compare", "(JJ)I"⟩ : MethodName) jdk_35_method_42_code 4 (some .int) :: ws) ({ frames := 0, cells := 0, slots := 0, locals := 0 } : Room)) (fun a_ U_ => a_ = #[(.long x), (.long y)] ∧ Z.Warmed39 U_.vm ∧ U_.heap = h0) (fun _ _ _ _ _ => True) (fun _ U_ o_ V_ => ∃ v_ L_, o_ = .returned v_ ∧ own_Q6 Z x y h0 n0 v_ V_.heap L_ ∧ FrameEnd U_ o_ V_ L_ ({ frames := 0, cells := 0, slots := 0, locals := 0 } : Room).cells ({ frames := 0, cells := 0, slots := 0, locals := 0 } : Room).slots) := by
  refine MetFree.of_bodySF (plainFor_of_name own_pn_java_lang_Long) hisR ?_
  intro p e s m args below meth c s₁ Bd hml0 hP hK
  obtain ⟨rfl, hZ, hh⟩ := hP
  have hx := Bd.exec
  have hby := Bd.bytes
  have hml : c.maxLocals = 4 := hml0
  have hown : s.vm.findClass "java/lang/Long" = some m.cls := findClass_of_methodNamed Bd.named
  have hnm := (name_of_methodNamed Bd.named Bd.method).1
  have X0 : Stand p l e ({ frames := 0, cells := 0, slots := 0, locals := 0 } : Room) s m #[(.long x), (.long y)] below meth c s₁ [] 0 0 := Stand.of_body Bd
  have e0 : s₁.heap = h0 := by rw [← hh, Bd.state]; rfl
  have N0 := Fr.nil n0
  show own_G p e below s (own_Q6 Z x y h0 n0) ({ frames := 0, cells := 0, slots := 0, locals := 0 } : Room).cells ({ frames := 0, cells := 0, slots := 0, locals := 0 } : Room).slots s₁ (entryFrame m #[(.long x), (.long y)] 4)
  rw [own_rm6_ef]
  refine own_w (T' := s₁) (g' := (mkF m 1 #[.val (.long x), .second, .val (.long y), .second] [(.long x)])) (fun _ k_ => XS.lloadN X0.here hx rfl (hb hby own_d6_0) rfl k_) ?_
  refine own_w (T' := s₁) (g' := (mkF m 2 #[.val (.long x), .second, .val (.long y), .second] [(.long y), (.long x)])) (fun _ k_ => XS.lloadN X0.here hx rfl (hb hby own_d6_1) rfl k_) ?_
  refine own_w (T' := s₁) (g' := (mkF m 3 #[.val (.long x), .second, .val (.long y), .second] [(.int (lcmpW x y))])) (fun _ k_ => XS.lcmp X0.here hx rfl (hb hby own_d6_2) rfl k_) ?_
  by_cases hc3 : x < y
  · refine own_w (T' := s₁) (g' := (mkF m 6 #[.val (.long x), .second, .val (.long y), .second] [])) (fun _ k_ => XS.ifNo X0.here hx rfl (hb hby own_d6_3) rfl ((if0 _ _).trans (tlt ((lw_lt _ _).mpr hc3)).2.1) k_) ?_
    refine own_w (T' := s₁) (g' := (mkF m 7 #[.val (.long x), .second, .val (.long y), .second] [(.int (-1 : Int32))])) (fun _ k_ => XS.iconst X0.here hx rfl (hb hby own_d6_6) k_) ?_
    refine own_w (T' := s₁) (g' := (mkF m 21 #[.val (.long x), .second, .val (.long y), .second] [(.int (-1 : Int32))])) (fun _ k_ => XS.goto X0.here hx rfl (pc0 := 7) (pc' := 21) rfl (hb hby own_d6_7) (by decide) (by decide) k_) ?_
    obtain ⟨fs, hr, hrun, hended, hW, hsame⟩ := X0.leave (v := some (.int (-1 : Int32))) (fun h => by rw [Bd.returns] at h; cases h)
    exact ⟨_, _, retOut X0 hx Bd.returns rfl (Or.inl ⟨rfl, Or.inl rfl, _, rfl⟩) (hb hby own_d6_21) hr, hrun, hended, _, _, rfl, (by show own_Q6 Z x y h0 n0 _ s₁.heap _; rw [e0]; exact ⟨(by simp [own_cmp, hc3]), N0, rfl⟩), ⟨_, rfl⟩, hW, hsame.mono (by decide) (by decide)⟩
  · refine own_w (T' := s₁) (g' := (mkF m 10 #[.val (.long x), .second, .val (.long y), .second] [])) (fun _ k_ => XS.ifYes X0.here hx rfl (pc0 := 3) (pc' := 10) rfl (hb hby own_d6_3) rfl ((if0 _ _).trans (flt (mt (lw_lt _ _).mp hc3)).2.1) (by decide) (by decide) k_) ?_
    refine own_w (T' := s₁) (g' := (mkF m 11 #[.val (.long x), .second, .val (.long y), .second] [(.long x)])) (fun _ k_ => XS.lloadN X0.here hx rfl (hb hby own_d6_10) rfl k_) ?_
    refine own_w (T' := s₁) (g' := (mkF m 12 #[.val (.long x), .second, .val (.long y), .second] [(.long y), (.long x)])) (fun _ k_ => XS.lloadN X0.here hx rfl (hb hby own_d6_11) rfl k_) ?_
    refine own_w (T' := s₁) (g' := (mkF m 13 #[.val (.long x), .second, .val (.long y), .second] [(.int (lcmpW x y))])) (fun _ k_ => XS.lcmp X0.here hx rfl (hb hby own_d6_12) rfl k_) ?_
    by_cases hc13 : x = y
    · refine own_w (T' := s₁) (g' := (mkF m 16 #[.val (.long x), .second, .val (.long y), .second] [])) (fun _ k_ => XS.ifNo X0.here hx rfl (hb hby own_d6_13) rfl ((if0 _ _).trans (teq ((lw_eq _ _).mpr hc13)).2) k_) ?_
      refine own_w (T' := s₁) (g' := (mkF m 17 #[.val (.long x), .second, .val (.long y), .second] [(.int (0 : Int32))])) (fun _ k_ => XS.iconst X0.here hx rfl (hb hby own_d6_16) k_) ?_
      refine own_w (T' := s₁) (g' := (mkF m 21 #[.val (.long x), .second, .val (.long y), .second] [(.int (0 : Int32))])) (fun _ k_ => XS.goto X0.here hx rfl (pc0 := 17) (pc' := 21) rfl (hb hby own_d6_17) (by decide) (by decide) k_) ?_
      obtain ⟨fs, hr, hrun, hended, hW, hsame⟩ := X0.leave (v := some (.int (0 : Int32))) (fun h => by rw [Bd.returns] at h; cases h)
      exact ⟨_, _, retOut X0 hx Bd.returns rfl (Or.inl ⟨rfl, Or.inl rfl, _, rfl⟩) (hb hby own_d6_21) hr, hrun, hended, _, _, rfl, (by show own_Q6 Z x y h0 n0 _ s₁.heap _; rw [e0]; exact ⟨(by simp [own_cmp, hc3, hc13]), N0, rfl⟩), ⟨_, rfl⟩, hW, hsame.mono (by decide) (by decide)⟩
    · refine own_w (T' := s₁) (g' := (mkF m 20 #[.val (.long x), .second, .val (.long y), .second] [])) (fun _ k_ => XS.ifYes X0.here hx rfl (pc0 := 13) (pc' := 20) rfl (hb hby own_d6_13) rfl ((if0 _ _).trans (feq (mt (lw_eq _ _).mp hc13)).2) (by decide) (by decide) k_) ?_
      refine own_w (T' := s₁) (g' := (mkF m 21 #[.val (.long x), .second, .val (.long y), .second] [(.int (1 : Int32))])) (fun _ k_ => XS.iconst X0.here hx rfl (hb hby own_d6_20) k_) ?_
      obtain ⟨fs, hr, hrun, hended, hW, hsame⟩ := X0.leave (v := some (.int (1 : Int32))) (fun h => by rw [Bd.returns] at h; cases h)
      exact ⟨_, _, retOut X0 hx Bd.returns rfl (Or.inl ⟨rfl, Or.inl rfl, _, rfl⟩) (hb hby own_d6_21) hr, hrun, hended, _, _, rfl, (by show own_Q6 Z x y h0 n0 _ s₁.heap _; rw [e0]; exact ⟨(by simp [own_cmp, hc3, hc13]), N0, rfl⟩), ⟨_, rfl⟩, hW, hsame.mono (by decide) (by decide)⟩
theorem own_d5_0 : decode jdk_35_method_43_code 0 = .ok (.lload_n 0, 1) := by decide +kernel
theorem own_d5_1 : decode jdk_35_method_43_code 1 = .ok (.ldc2_w 168, 3) := by decide +kernel
theorem own_d5_4 : decode jdk_35_method_43_code 4 = .ok (.ladd, 1) := by decide +kernel
theorem own_d5_5 : decode jdk_35_method_43_code 5 = .ok (.lload_n 2, 1) := by decide +kernel
theorem own_d5_6 : decode jdk_35_method_43_code 6 = .ok (.ldc2_w 168, 3) := by decide +kernel
theorem own_d5_9 : decode jdk_35_method_43_code 9 = .ok (.ladd, 1) := by decide +kernel
theorem own_d5_10 : decode jdk_35_method_43_code 10 = .ok (.invokestatic 302, 3) := by decide +kernel
theorem own_pd1 : parseMethodDescriptor "(JJ)I" = some ⟨[.long, .long], some .int⟩ := by decide +kernel
theorem own_d5_13 : decode jdk_35_method_43_code 13 = .ok (.ireturn, 1) := by decide +kernel
theorem own_rm5_ef (m : MethodId) (x : Int64) (y : Int64) : entryFrame m #[(.long x), (.long y)] 4 = mkF m 0 #[.val (.long x), .second, .val (.long y), .second] [] := by first | (simp [entryFrame, mkF, argsToLocals, Value.category]; done) | rfl
def own_Q5 (Z : State) (x : Int64) (y : Int64) (h0 : Heap) (n0 : Nat) (v_ : Option Value) (h : Heap) (L_ : List Loc) : Prop := v_ = some (.int (own_cmp (x + (-9223372036854775808 : Int64)) (y + (-9223372036854775808 : Int64)))) ∧ Fr n0 L_ ∧ (h = h0)
set_option maxRecDepth 65536 in
set_option maxHeartbeats 40000000 in
theorem own_rm5 (l : Launch) (Z : State) (a0 : Array Value) (hw : ∀ d ∈ tables_1, d.before a0 Z = true) (ws : List Jvm.Cond) (x : Int64) (y : Int64) (h0 : Heap) (n0 : Nat) (Z0 : n0 ≤ h0.size)  :
    MetFree l (⟨"java/lang/Long", "compareUnsigned", "(JJ)I"⟩ : MethodName) (head1 (Jvm.Cond.code (⟨"java/lang/Long", "compareUnsigned", "(JJ)I"⟩ : MethodName) jdk_35_method_43_code 4 (some .int) :: ws) ({ frames := 1, cells := 0, slots := 0, locals := 15 } : Room)) (fun a_ U_ => a_ = #[(.long x), (.long y)] ∧ Z.Warmed39 U_.vm ∧ U_.heap = h0) (fun _ _ _ _ _ => True) (fun _ U_ o_ V_ => ∃ v_ L_, o_ = .returned v_ ∧ own_Q5 Z x y h0 n0 v_ V_.heap L_ ∧ FrameEnd U_ o_ V_ L_ ({ frames := 1, cells := 0, slots := 0, locals := 15 } : Room).cells ({ frames := 1, cells := 0, slots := 0, locals := 15 } : Room).slots) := by
  refine MetFree.of_bodySF (plainFor_of_name own_pn_java_lang_Long) hisR ?_
  intro p e s m args below meth c s₁ Bd hml0 hP hK
  obtain ⟨rfl, hZ, hh⟩ := hP
  have hx := Bd.exec
  have hby := Bd.bytes
  have hml : c.maxLocals = 4 := hml0
  have hown : s.vm.findClass "java/lang/Long" = some m.cls := findClass_of_methodNamed Bd.named
  have hnm := (name_of_methodNamed Bd.named Bd.method).1
  have X0 : Stand p l e ({ frames := 1, cells := 0, slots := 0, locals := 15 } : Room) s m #[(.long x), (.long y)] below meth c s₁ [] 0 0 := Stand.of_body Bd
  have e0 : s₁.heap = h0 := by rw [← hh, Bd.state]; rfl
  have N0 := Fr.nil n0
  show own_G p e below s (own_Q5 Z x y h0 n0) ({ frames := 1, cells := 0, slots := 0, locals := 15 } : Room).cells ({ frames := 1, cells := 0, slots := 0, locals := 15 } : Room).slots s₁ (entryFrame m #[(.long x), (.long y)] 4)
  rw [own_rm5_ef]
  refine own_w (T' := s₁) (g' := (mkF m 1 #[.val (.long x), .second, .val (.long y), .second] [(.long x)])) (fun _ k_ => XS.lloadN X0.here hx rfl (hb hby own_d5_0) rfl k_) ?_
  refine own_w (T' := s₁) (g' := (mkF m 4 #[.val (.long x), .second, .val (.long y), .second] [(.long (-9223372036854775808 : Int64)), (.long x)])) (X0.ldc2Long hx hown (mvT hZ (hw _ (List.mem_of_getElem? (i := 25) rfl))) (g := (mkF m 1 #[.val (.long x), .second, .val (.long y), .second] [(.long x)])) rfl (hb hby own_d5_1)) ?_
  refine own_w (T' := s₁) (g' := (mkF m 5 #[.val (.long x), .second, .val (.long y), .second] [(.long (x + (-9223372036854775808 : Int64)))])) (fun _ k_ => XS.ladd X0.here hx rfl (hb hby own_d5_4) rfl k_) ?_
  refine own_w (T' := s₁) (g' := (mkF m 6 #[.val (.long x), .second, .val (.long y), .second] [(.long y), (.long (x + (-9223372036854775808 : Int64)))])) (fun _ k_ => XS.lloadN X0.here hx rfl (hb hby own_d5_5) rfl k_) ?_
  refine own_w (T' := s₁) (g' := (mkF m 9 #[.val (.long x), .second, .val (.long y), .second] [(.long (-9223372036854775808 : Int64)), (.long y), (.long (x + (-9223372036854775808 : Int64)))])) (X0.ldc2Long hx hown (mvT hZ (hw _ (List.mem_of_getElem? (i := 25) rfl))) (g := (mkF m 6 #[.val (.long x), .second, .val (.long y), .second] [(.long y), (.long (x + (-9223372036854775808 : Int64)))])) rfl (hb hby own_d5_6)) ?_
  refine own_w (T' := s₁) (g' := (mkF m 10 #[.val (.long x), .second, .val (.long y), .second] [(.long (y + (-9223372036854775808 : Int64))), (.long (x + (-9223372036854775808 : Int64)))])) (fun _ k_ => XS.ladd X0.here hx rfl (hb hby own_d5_9) rfl k_) ?_
  obtain ⟨_, _, ⟨T1, L1, k1, n1⟩, -, X1, ⟨Lc1, hQ1, l1, y1, z1⟩, st1⟩ := Jvm.LawKit.callS X0 hx (y := (⟨"java/lang/Long", "compare", "(JJ)I"⟩ : MethodName)) hown (mvT hZ (hw _ (List.mem_of_getElem? (i := 26) rfl))) (mvT hZ (hw _ (List.mem_of_getElem? (i := 27) rfl))) (mvT hZ (hw _ (List.mem_of_getElem? (i := 23) rfl))) (mvT hZ (hw _ (List.mem_of_getElem? (i := 28) rfl))) (by decide) (backOf (W := 0) (own_rm6 l Z a0 hw [] (x + (-9223372036854775808 : Int64)) (y + (-9223372036854775808 : Int64))  h0 n0 Z0 ) hZ (hw _ (List.mem_of_getElem? (i := 28) rfl)) (hw _ (List.mem_of_getElem? (i := 23) rfl)) (by decide) (by decide)) (g := (mkF m 10 #[.val (.long x), .second, .val (.long y), .second] [(.long (y + (-9223372036854775808 : Int64))), (.long (x + (-9223372036854775808 : Int64)))])) rfl (by rw [hml]; rfl) (argsL := [(.long (x + (-9223372036854775808 : Int64))), (.long (y + (-9223372036854775808 : Int64)))]) (rest := []) (lenOf own_pd1 rfl) rfl (by show 2 * 0 + _ ≤ _; exact Nat.le_of_eq rfl) (hb hby own_d5_10) (fun _ _ => ⟨rfl, e0, (by decide : 0 + 0 ≤ _), (by decide : 0 + 0 ≤ _)⟩)
  dsimp only [Pt.U, Pt.locs, Pt.cells, Pt.slots] at X1 l1 y1 z1 st1 hQ1
  subst l1 y1 z1
  obtain ⟨rfl, N1q, e1⟩ := hQ1
  have N1 := Fr.app N0 N1q
  refine own_w (T' := T1) (g' := (mkF m 13 #[.val (.long x), .second, .val (.long y), .second] [(.int (own_cmp (x + (-9223372036854775808 : Int64)) (y + (-9223372036854775808 : Int64))))])) st1 ?_
  obtain ⟨fs, hr, hrun, hended, hW, hsame⟩ := X1.leave (v := some (.int (own_cmp (x + (-9223372036854775808 : Int64)) (y + (-9223372036854775808 : Int64))))) (fun h => by rw [Bd.returns] at h; cases h)
  exact ⟨_, _, retOut X1 hx Bd.returns rfl (Or.inl ⟨rfl, Or.inl rfl, _, rfl⟩) (hb hby own_d5_13) hr, hrun, hended, _, _, rfl, (by show own_Q5 Z x y h0 n0 _ T1.heap _; rw [e1]; exact ⟨rfl, N1, rfl⟩), ⟨_, rfl⟩, hW, hsame.mono (by decide) (by decide)⟩
theorem own_d4_0 : decode prog_31_method_3_code 0 = .ok (.aload_n 0, 1) := by decide +kernel
theorem own_d4_1 : decode prog_31_method_3_code 1 = .ok (.getfield 7, 3) := by decide +kernel
theorem own_d4_4 : decode prog_31_method_3_code 4 = .ok (.aload_n 1, 1) := by decide +kernel
theorem own_d4_5 : decode prog_31_method_3_code 5 = .ok (.getfield 7, 3) := by decide +kernel
theorem own_d4_8 : decode prog_31_method_3_code 8 = .ok (.invokestatic 24, 3) := by decide +kernel
theorem own_d4_11 : decode prog_31_method_3_code 11 = .ok (.ireturn, 1) := by decide +kernel
theorem own_rm4_ef (m : MethodId) (a : Addr) (b : Addr) : entryFrame m #[(.ref a), (.ref b)] 2 = mkF m 0 #[.val (.ref a), .val (.ref b)] [] := by first | (simp [entryFrame, mkF, argsToLocals, Value.category]; done) | rfl
def own_Q4 (Z : State) (a : Addr) (b : Addr) (x : Int64) (y : Int64) (h0 : Heap) (n0 : Nat) (v_ : Option Value) (h : Heap) (L_ : List Loc) : Prop := v_ = some (.int (own_cmp (x + (-9223372036854775808 : Int64)) (y + (-9223372036854775808 : Int64)))) ∧ Fr n0 L_ ∧ (h = h0)
set_option maxRecDepth 65536 in
set_option maxHeartbeats 40000000 in
theorem own_rm4 (l : Launch) (Z : State) (a0 : Array Value) (hw : ∀ d ∈ tables_1, d.before a0 Z = true) (ws : List Jvm.Cond) (a : Addr) (b : Addr) (x : Int64) (y : Int64) (h0 : Heap) (n0 : Nat) (Z0 : n0 ≤ h0.size) (Fa : Fld Z h0 a "com/example/pagequilt/pagequilt/MemberNumber" "bits" "J" (.long x)) (Fb : Fld Z h0 b "com/example/pagequilt/pagequilt/MemberNumber" "bits" "J" (.long y)) :
    MetFree l (⟨"com/example/pagequilt/pagequilt/MemberNumber", "compareTo", "(Lcom/example/pagequilt/pagequilt/MemberNumber;)I"⟩ : MethodName) (head1 (Jvm.Cond.code (⟨"com/example/pagequilt/pagequilt/MemberNumber", "compareTo", "(Lcom/example/pagequilt/pagequilt/MemberNumber;)I"⟩ : MethodName) prog_31_method_3_code 2 (some .int) :: ws) ({ frames := 2, cells := 0, slots := 0, locals := 30 } : Room)) (fun a_ U_ => a_ = #[(.ref a), (.ref b)] ∧ Z.Warmed39 U_.vm ∧ U_.heap = h0) (fun _ _ _ _ _ => True) (fun _ U_ o_ V_ => ∃ v_ L_, o_ = .returned v_ ∧ own_Q4 Z a b x y h0 n0 v_ V_.heap L_ ∧ FrameEnd U_ o_ V_ L_ ({ frames := 2, cells := 0, slots := 0, locals := 30 } : Room).cells ({ frames := 2, cells := 0, slots := 0, locals := 30 } : Room).slots) := by
  refine MetFree.of_bodySF (plainFor_of_name own_pn_com_example_pagequilt_pagequilt_MemberNumber) hisR ?_
  intro p e s m args below meth c s₁ Bd hml0 hP hK
  obtain ⟨rfl, hZ, hh⟩ := hP
  have hx := Bd.exec
  have hby := Bd.bytes
  have hml : c.maxLocals = 2 := hml0
  have hown : s.vm.findClass "com/example/pagequilt/pagequilt/MemberNumber" = some m.cls := findClass_of_methodNamed Bd.named
  have hnm := (name_of_methodNamed Bd.named Bd.method).1
  have X0 : Stand p l e ({ frames := 2, cells := 0, slots := 0, locals := 30 } : Room) s m #[(.ref a), (.ref b)] below meth c s₁ [] 0 0 := Stand.of_body Bd
  have e0 : s₁.heap = h0 := by rw [← hh, Bd.state]; rfl
  have N0 := Fr.nil n0
  show own_G p e below s (own_Q4 Z a b x y h0 n0) ({ frames := 2, cells := 0, slots := 0, locals := 30 } : Room).cells ({ frames := 2, cells := 0, slots := 0, locals := 30 } : Room).slots s₁ (entryFrame m #[(.ref a), (.ref b)] 2)
  rw [own_rm4_ef]
  refine own_w (T' := s₁) (g' := (mkF m 1 #[.val (.ref a), .val (.ref b)] [(.ref a)])) (fun _ k_ => XS.aloadN X0.here hx rfl (hb hby own_d4_0) rfl rfl k_) ?_
  obtain ⟨T1, X1, e1, st1⟩ := getF X0 hx hZ hown (host := "") (Or.inl (hw _ (List.mem_of_getElem? (i := 14) rfl))) Via.refl e0 Fa (g := (mkF m 1 #[.val (.ref a), .val (.ref b)] [(.ref a)])) rfl rfl (hb hby own_d4_1)
  refine own_w (T' := T1) (g' := (mkF m 4 #[.val (.ref a), .val (.ref b)] [(.long x)])) st1 ?_
  refine own_w (T' := T1) (g' := (mkF m 5 #[.val (.ref a), .val (.ref b)] [(.ref b), (.long x)])) (fun _ k_ => XS.aloadN X1.here hx rfl (hb hby own_d4_4) rfl rfl k_) ?_
  obtain ⟨T2, X2, e2, st2⟩ := getF X1 hx hZ hown (host := "") (Or.inl (hw _ (List.mem_of_getElem? (i := 14) rfl))) Via.refl e1 Fb (g := (mkF m 5 #[.val (.ref a), .val (.ref b)] [(.ref b), (.long x)])) rfl rfl (hb hby own_d4_5)
  refine own_w (T' := T2) (g' := (mkF m 8 #[.val (.ref a), .val (.ref b)] [(.long y), (.long x)])) st2 ?_
  obtain ⟨_, _, ⟨T3, L3, k3, n3⟩, -, X3, ⟨Lc3, hQ3, l3, y3, z3⟩, st3⟩ := Jvm.LawKit.callS X2 hx (y := (⟨"java/lang/Long", "compareUnsigned", "(JJ)I"⟩ : MethodName)) hown (mvT hZ (hw _ (List.mem_of_getElem? (i := 21) rfl))) (mvT hZ (hw _ (List.mem_of_getElem? (i := 22) rfl))) (mvT hZ (hw _ (List.mem_of_getElem? (i := 23) rfl))) (mvT hZ (hw _ (List.mem_of_getElem? (i := 24) rfl))) (by decide) (backOf (W := 0) (own_rm5 l Z a0 hw [] x y  h0 n0 Z0 ) hZ (hw _ (List.mem_of_getElem? (i := 24) rfl)) (hw _ (List.mem_of_getElem? (i := 23) rfl)) (by decide) (by decide)) (g := (mkF m 8 #[.val (.ref a), .val (.ref b)] [(.long y), (.long x)])) rfl (by rw [hml]; rfl) (argsL := [(.long x), (.long y)]) (rest := []) (lenOf own_pd1 rfl) rfl (by show 2 * 0 + _ ≤ _; exact Nat.le_of_eq rfl) (hb hby own_d4_8) (fun _ _ => ⟨rfl, e2, (by decide : 0 + 0 ≤ _), (by decide : 0 + 0 ≤ _)⟩)
  dsimp only [Pt.U, Pt.locs, Pt.cells, Pt.slots] at X3 l3 y3 z3 st3 hQ3
  subst l3 y3 z3
  obtain ⟨rfl, N3q, e3⟩ := hQ3
  have N3 := Fr.app N0 N3q
  refine own_w (T' := T3) (g' := (mkF m 11 #[.val (.ref a), .val (.ref b)] [(.int (own_cmp (x + (-9223372036854775808 : Int64)) (y + (-9223372036854775808 : Int64))))])) st3 ?_
  obtain ⟨fs, hr, hrun, hended, hW, hsame⟩ := X3.leave (v := some (.int (own_cmp (x + (-9223372036854775808 : Int64)) (y + (-9223372036854775808 : Int64))))) (fun h => by rw [Bd.returns] at h; cases h)
  exact ⟨_, _, retOut X3 hx Bd.returns rfl (Or.inl ⟨rfl, Or.inl rfl, _, rfl⟩) (hb hby own_d4_11) hr, hrun, hended, _, _, rfl, (by show own_Q4 Z a b x y h0 n0 _ T3.heap _; rw [e3]; exact ⟨rfl, N3, rfl⟩), ⟨_, rfl⟩, hW, hsame.mono (by decide) (by decide)⟩
theorem own_d7_0 : decode method_2_code 0 = .ok (.iload_n 0, 1) := by decide +kernel
theorem own_d7_1 : decode method_2_code 1 = .ok (.ifCond .ge 5, 3) := by decide +kernel
theorem own_d7_4 : decode method_2_code 4 = .ok (.iconst (-1), 1) := by decide +kernel
theorem own_d7_5 : decode method_2_code 5 = .ok (.ireturn, 1) := by decide +kernel
theorem own_d7_6 : decode method_2_code 6 = .ok (.iload_n 0, 1) := by decide +kernel
theorem own_d7_7 : decode method_2_code 7 = .ok (.ifCond .le 5, 3) := by decide +kernel
theorem own_d7_10 : decode method_2_code 10 = .ok (.iconst 1, 1) := by decide +kernel
theorem own_d7_11 : decode method_2_code 11 = .ok (.ireturn, 1) := by decide +kernel
theorem own_d7_12 : decode method_2_code 12 = .ok (.iconst 0, 1) := by decide +kernel
theorem own_d7_13 : decode method_2_code 13 = .ok (.ireturn, 1) := by decide +kernel
theorem own_pn_com_example_pagequilt_pagequilt_MemberNumberCompareToPinLaw : plainName "com/example/pagequilt/pagequilt/MemberNumberCompareToPinLaw" = true := by first | (simp [plainName, overriddenIn]; done) | decide +kernel
theorem own_rm7_ef (m : MethodId) (r : Int32) : entryFrame m #[(.int r)] 1 = mkF m 0 #[.val (.int r)] [] := by first | (simp [entryFrame, mkF, argsToLocals, Value.category]; done) | rfl
def own_Q7 (Z : State) (r : Int32) (h0 : Heap) (n0 : Nat) (v_ : Option Value) (h : Heap) (L_ : List Loc) : Prop := v_ = some (.int (own_sign r)) ∧ Fr n0 L_ ∧ (h = h0)
set_option maxRecDepth 65536 in
set_option maxHeartbeats 40000000 in
theorem own_rm7 (l : Launch) (Z : State) (a0 : Array Value) (hw : ∀ d ∈ tables_1, d.before a0 Z = true) (ws : List Jvm.Cond) (r : Int32) (h0 : Heap) (n0 : Nat) (Z0 : n0 ≤ h0.size)  :
    MetFree l (⟨"com/example/pagequilt/pagequilt/MemberNumberCompareToPinLaw", "sign", "(I)I"⟩ : MethodName) (head1 (Jvm.Cond.code (⟨"com/example/pagequilt/pagequilt/MemberNumberCompareToPinLaw", "sign", "(I)I"⟩ : MethodName) method_2_code 1 (some .int) :: ws) ({ frames := 0, cells := 0, slots := 0, locals := 0 } : Room)) (fun a_ U_ => a_ = #[(.int r)] ∧ Z.Warmed39 U_.vm ∧ U_.heap = h0) (fun _ _ _ _ _ => True) (fun _ U_ o_ V_ => ∃ v_ L_, o_ = .returned v_ ∧ own_Q7 Z r h0 n0 v_ V_.heap L_ ∧ FrameEnd U_ o_ V_ L_ ({ frames := 0, cells := 0, slots := 0, locals := 0 } : Room).cells ({ frames := 0, cells := 0, slots := 0, locals := 0 } : Room).slots) := by
  refine MetFree.of_bodySF (plainFor_of_name own_pn_com_example_pagequilt_pagequilt_MemberNumberCompareToPinLaw) hisR ?_
  intro p e s m args below meth c s₁ Bd hml0 hP hK
  obtain ⟨rfl, hZ, hh⟩ := hP
  have hx := Bd.exec
  have hby := Bd.bytes
  have hml : c.maxLocals = 1 := hml0
  have hown : s.vm.findClass "com/example/pagequilt/pagequilt/MemberNumberCompareToPinLaw" = some m.cls := findClass_of_methodNamed Bd.named
  have hnm := (name_of_methodNamed Bd.named Bd.method).1
  have X0 : Stand p l e ({ frames := 0, cells := 0, slots := 0, locals := 0 } : Room) s m #[(.int r)] below meth c s₁ [] 0 0 := Stand.of_body Bd
  have e0 : s₁.heap = h0 := by rw [← hh, Bd.state]; rfl
  have N0 := Fr.nil n0
  show own_G p e below s (own_Q7 Z r h0 n0) ({ frames := 0, cells := 0, slots := 0, locals := 0 } : Room).cells ({ frames := 0, cells := 0, slots := 0, locals := 0 } : Room).slots s₁ (entryFrame m #[(.int r)] 1)
  rw [own_rm7_ef]
  refine own_w (T' := s₁) (g' := (mkF m 1 #[.val (.int r)] [(.int r)])) (fun _ k_ => XS.iloadN X0.here hx rfl (hb hby own_d7_0) rfl k_) ?_
  by_cases hc1 : r < (0 : Int32)
  · refine own_w (T' := s₁) (g' := (mkF m 4 #[.val (.int r)] [])) (fun _ k_ => XS.ifNo X0.here hx rfl (hb hby own_d7_1) rfl ((if0 _ _).trans (tlt hc1).2.1) k_) ?_
    refine own_w (T' := s₁) (g' := (mkF m 5 #[.val (.int r)] [(.int (-1 : Int32))])) (fun _ k_ => XS.iconst X0.here hx rfl (hb hby own_d7_4) k_) ?_
    obtain ⟨fs, hr, hrun, hended, hW, hsame⟩ := X0.leave (v := some (.int (-1 : Int32))) (fun h => by rw [Bd.returns] at h; cases h)
    exact ⟨_, _, retOut X0 hx Bd.returns rfl (Or.inl ⟨rfl, Or.inl rfl, _, rfl⟩) (hb hby own_d7_5) hr, hrun, hended, _, _, rfl, (by show own_Q7 Z r h0 n0 _ s₁.heap _; rw [e0]; exact ⟨(by simp [own_sign, hc1]), N0, rfl⟩), ⟨_, rfl⟩, hW, hsame.mono (by decide) (by decide)⟩
  · refine own_w (T' := s₁) (g' := (mkF m 6 #[.val (.int r)] [])) (fun _ k_ => XS.ifYes X0.here hx rfl (pc0 := 1) (pc' := 6) rfl (hb hby own_d7_1) rfl ((if0 _ _).trans (flt hc1).2.1) (by decide) (by decide) k_) ?_
    refine own_w (T' := s₁) (g' := (mkF m 7 #[.val (.int r)] [(.int r)])) (fun _ k_ => XS.iloadN X0.here hx rfl (hb hby own_d7_6) rfl k_) ?_
    by_cases hc7 : (0 : Int32) < r
    · refine own_w (T' := s₁) (g' := (mkF m 10 #[.val (.int r)] [])) (fun _ k_ => XS.ifNo X0.here hx rfl (hb hby own_d7_7) rfl ((if0 _ _).trans (tlt hc7).2.2.2) k_) ?_
      refine own_w (T' := s₁) (g' := (mkF m 11 #[.val (.int r)] [(.int (1 : Int32))])) (fun _ k_ => XS.iconst X0.here hx rfl (hb hby own_d7_10) k_) ?_
      obtain ⟨fs, hr, hrun, hended, hW, hsame⟩ := X0.leave (v := some (.int (1 : Int32))) (fun h => by rw [Bd.returns] at h; cases h)
      exact ⟨_, _, retOut X0 hx Bd.returns rfl (Or.inl ⟨rfl, Or.inl rfl, _, rfl⟩) (hb hby own_d7_11) hr, hrun, hended, _, _, rfl, (by show own_Q7 Z r h0 n0 _ s₁.heap _; rw [e0]; exact ⟨(by simp [own_sign, hc1, hc7]), N0, rfl⟩), ⟨_, rfl⟩, hW, hsame.mono (by decide) (by decide)⟩
    · refine own_w (T' := s₁) (g' := (mkF m 12 #[.val (.int r)] [])) (fun _ k_ => XS.ifYes X0.here hx rfl (pc0 := 7) (pc' := 12) rfl (hb hby own_d7_7) rfl ((if0 _ _).trans (flt hc7).2.2.2) (by decide) (by decide) k_) ?_
      refine own_w (T' := s₁) (g' := (mkF m 13 #[.val (.int r)] [(.int (0 : Int32))])) (fun _ k_ => XS.iconst X0.here hx rfl (hb hby own_d7_12) k_) ?_
      obtain ⟨fs, hr, hrun, hended, hW, hsame⟩ := X0.leave (v := some (.int (0 : Int32))) (fun h => by rw [Bd.returns] at h; cases h)
      exact ⟨_, _, retOut X0 hx Bd.returns rfl (Or.inl ⟨rfl, Or.inl rfl, _, rfl⟩) (hb hby own_d7_13) hr, hrun, hended, _, _, rfl, (by show own_Q7 Z r h0 n0 _ s₁.heap _; rw [e0]; exact ⟨(by simp [own_sign, hc1, hc7]), N0, rfl⟩), ⟨_, rfl⟩, hW, hsame.mono (by decide) (by decide)⟩
theorem own_d8_0 : decode method_3_code 0 = .ok (.lload_n 0, 1) := by decide +kernel
theorem own_d8_1 : decode method_3_code 1 = .ok (.lload_n 2, 1) := by decide +kernel
theorem own_d8_2 : decode method_3_code 2 = .ok (.lcmp, 1) := by decide +kernel
theorem own_d8_3 : decode method_3_code 3 = .ok (.ifCond .ne 5, 3) := by decide +kernel
theorem own_d8_6 : decode method_3_code 6 = .ok (.iconst 0, 1) := by decide +kernel
theorem own_d8_7 : decode method_3_code 7 = .ok (.ireturn, 1) := by decide +kernel
theorem own_d8_8 : decode method_3_code 8 = .ok (.lload_n 0, 1) := by decide +kernel
theorem own_d8_9 : decode method_3_code 9 = .ok (.lconst 0, 1) := by decide +kernel
theorem own_d8_10 : decode method_3_code 10 = .ok (.lcmp, 1) := by decide +kernel
theorem own_d8_11 : decode method_3_code 11 = .ok (.ifCond .ge 7, 3) := by decide +kernel
theorem own_d8_14 : decode method_3_code 14 = .ok (.iconst 1, 1) := by decide +kernel
theorem own_d8_15 : decode method_3_code 15 = .ok (.goto 4, 3) := by decide +kernel
theorem own_d8_19 : decode method_3_code 19 = .ok (.istore 4, 2) := by decide +kernel
theorem own_d8_21 : decode method_3_code 21 = .ok (.lload_n 2, 1) := by decide +kernel
theorem own_d8_22 : decode method_3_code 22 = .ok (.lconst 0, 1) := by decide +kernel
theorem own_d8_23 : decode method_3_code 23 = .ok (.lcmp, 1) := by decide +kernel
theorem own_d8_24 : decode method_3_code 24 = .ok (.ifCond .ge 7, 3) := by decide +kernel
theorem own_d8_27 : decode method_3_code 27 = .ok (.iconst 1, 1) := by decide +kernel
theorem own_d8_28 : decode method_3_code 28 = .ok (.goto 4, 3) := by decide +kernel
theorem own_d8_32 : decode method_3_code 32 = .ok (.istore 5, 2) := by decide +kernel
theorem own_d8_34 : decode method_3_code 34 = .ok (.iload 4, 2) := by decide +kernel
theorem own_d8_36 : decode method_3_code 36 = .ok (.iload 5, 2) := by decide +kernel
theorem own_d8_38 : decode method_3_code 38 = .ok (.if_icmp .ne 15, 3) := by decide +kernel
theorem own_d8_41 : decode method_3_code 41 = .ok (.lload_n 0, 1) := by decide +kernel
theorem own_d8_42 : decode method_3_code 42 = .ok (.lload_n 2, 1) := by decide +kernel
theorem own_d8_43 : decode method_3_code 43 = .ok (.lcmp, 1) := by decide +kernel
theorem own_d8_44 : decode method_3_code 44 = .ok (.ifCond .ge 7, 3) := by decide +kernel
theorem own_d8_47 : decode method_3_code 47 = .ok (.iconst (-1), 1) := by decide +kernel
theorem own_d8_48 : decode method_3_code 48 = .ok (.goto 4, 3) := by decide +kernel
theorem own_d8_52 : decode method_3_code 52 = .ok (.ireturn, 1) := by decide +kernel
theorem own_d8_51 : decode method_3_code 51 = .ok (.iconst 1, 1) := by decide +kernel
theorem own_d8_31 : decode method_3_code 31 = .ok (.iconst 0, 1) := by decide +kernel
theorem own_d8_53 : decode method_3_code 53 = .ok (.iload 4, 2) := by decide +kernel
theorem own_d8_55 : decode method_3_code 55 = .ok (.ifCond .eq 7, 3) := by decide +kernel
theorem own_d8_58 : decode method_3_code 58 = .ok (.iconst 1, 1) := by decide +kernel
theorem own_d8_59 : decode method_3_code 59 = .ok (.goto 4, 3) := by decide +kernel
theorem own_d8_63 : decode method_3_code 63 = .ok (.ireturn, 1) := by decide +kernel
theorem own_d8_18 : decode method_3_code 18 = .ok (.iconst 0, 1) := by decide +kernel
theorem own_d8_62 : decode method_3_code 62 = .ok (.iconst (-1), 1) := by decide +kernel
theorem own_rm8_ef (m : MethodId) (a : Int64) (b : Int64) : entryFrame m #[(.long a), (.long b)] 6 = mkF m 0 #[.val (.long a), .second, .val (.long b), .second, .unset, .unset] [] := by first | (simp [entryFrame, mkF, argsToLocals, Value.category]; done) | rfl
def own_Q8 (Z : State) (a : Int64) (b : Int64) (h0 : Heap) (n0 : Nat) (v_ : Option Value) (h : Heap) (L_ : List Loc) : Prop := v_ = some (.int (own_uo a b)) ∧ Fr n0 L_ ∧ (h = h0)
set_option maxRecDepth 65536 in
set_option maxHeartbeats 40000000 in
theorem own_rm8 (l : Launch) (Z : State) (a0 : Array Value) (hw : ∀ d ∈ tables_1, d.before a0 Z = true) (ws : List Jvm.Cond) (a : Int64) (b : Int64) (h0 : Heap) (n0 : Nat) (Z0 : n0 ≤ h0.size)  :
    MetFree l (⟨"com/example/pagequilt/pagequilt/MemberNumberCompareToPinLaw", "unsignedOrder", "(JJ)I"⟩ : MethodName) (head1 (Jvm.Cond.code (⟨"com/example/pagequilt/pagequilt/MemberNumberCompareToPinLaw", "unsignedOrder", "(JJ)I"⟩ : MethodName) method_3_code 6 (some .int) :: ws) ({ frames := 0, cells := 0, slots := 0, locals := 0 } : Room)) (fun a_ U_ => a_ = #[(.long a), (.long b)] ∧ Z.Warmed39 U_.vm ∧ U_.heap = h0) (fun _ _ _ _ _ => True) (fun _ U_ o_ V_ => ∃ v_ L_, o_ = .returned v_ ∧ own_Q8 Z a b h0 n0 v_ V_.heap L_ ∧ FrameEnd U_ o_ V_ L_ ({ frames := 0, cells := 0, slots := 0, locals := 0 } : Room).cells ({ frames := 0, cells := 0, slots := 0, locals := 0 } : Room).slots) := by
  refine MetFree.of_bodySF (plainFor_of_name own_pn_com_example_pagequilt_pagequilt_MemberNumberCompareToPinLaw) hisR ?_
  intro p e s m args below meth c s₁ Bd hml0 hP hK
  obtain ⟨rfl, hZ, hh⟩ := hP
  have hx := Bd.exec
  have hby := Bd.bytes
  have hml : c.maxLocals = 6 := hml0
  have hown : s.vm.findClass "com/example/pagequilt/pagequilt/MemberNumberCompareToPinLaw" = some m.cls := findClass_of_methodNamed Bd.named
  have hnm := (name_of_methodNamed Bd.named Bd.method).1
  have X0 : Stand p l e ({ frames := 0, cells := 0, slots := 0, locals := 0 } : Room) s m #[(.long a), (.long b)] below meth c s₁ [] 0 0 := Stand.of_body Bd
  have e0 : s₁.heap = h0 := by rw [← hh, Bd.state]; rfl
  have N0 := Fr.nil n0
  show own_G p e below s (own_Q8 Z a b h0 n0) ({ frames := 0, cells := 0, slots := 0, locals := 0 } : Room).cells ({ frames := 0, cells := 0, slots := 0, locals := 0 } : Room).slots s₁ (entryFrame m #[(.long a), (.long b)] 6)
  rw [own_rm8_ef]
  refine own_w (T' := s₁) (g' := (mkF m 1 #[.val (.long a), .second, .val (.long b), .second, .unset, .unset] [(.long a)])) (fun _ k_ => XS.lloadN X0.here hx rfl (hb hby own_d8_0) rfl k_) ?_
  refine own_w (T' := s₁) (g' := (mkF m 2 #[.val (.long a), .second, .val (.long b), .second, .unset, .unset] [(.long b), (.long a)])) (fun _ k_ => XS.lloadN X0.here hx rfl (hb hby own_d8_1) rfl k_) ?_
  refine own_w (T' := s₁) (g' := (mkF m 3 #[.val (.long a), .second, .val (.long b), .second, .unset, .unset] [(.int (lcmpW a b))])) (fun _ k_ => XS.lcmp X0.here hx rfl (hb hby own_d8_2) rfl k_) ?_
  by_cases hc3 : a = b
  · refine own_w (T' := s₁) (g' := (mkF m 6 #[.val (.long a), .second, .val (.long b), .second, .unset, .unset] [])) (fun _ k_ => XS.ifNo X0.here hx rfl (hb hby own_d8_3) rfl ((if0 _ _).trans (teq ((lw_eq _ _).mpr hc3)).2) k_) ?_
    refine own_w (T' := s₁) (g' := (mkF m 7 #[.val (.long a), .second, .val (.long b), .second, .unset, .unset] [(.int (0 : Int32))])) (fun _ k_ => XS.iconst X0.here hx rfl (hb hby own_d8_6) k_) ?_
    obtain ⟨fs, hr, hrun, hended, hW, hsame⟩ := X0.leave (v := some (.int (0 : Int32))) (fun h => by rw [Bd.returns] at h; cases h)
    exact ⟨_, _, retOut X0 hx Bd.returns rfl (Or.inl ⟨rfl, Or.inl rfl, _, rfl⟩) (hb hby own_d8_7) hr, hrun, hended, _, _, rfl, (by show own_Q8 Z a b h0 n0 _ s₁.heap _; rw [e0]; exact ⟨(by simp [own_uo, hc3]), N0, rfl⟩), ⟨_, rfl⟩, hW, hsame.mono (by decide) (by decide)⟩
  · refine own_w (T' := s₁) (g' := (mkF m 8 #[.val (.long a), .second, .val (.long b), .second, .unset, .unset] [])) (fun _ k_ => XS.ifYes X0.here hx rfl (pc0 := 3) (pc' := 8) rfl (hb hby own_d8_3) rfl ((if0 _ _).trans (feq (mt (lw_eq _ _).mp hc3)).2) (by decide) (by decide) k_) ?_
    refine own_w (T' := s₁) (g' := (mkF m 9 #[.val (.long a), .second, .val (.long b), .second, .unset, .unset] [(.long a)])) (fun _ k_ => XS.lloadN X0.here hx rfl (hb hby own_d8_8) rfl k_) ?_
    refine own_w (T' := s₁) (g' := (mkF m 10 #[.val (.long a), .second, .val (.long b), .second, .unset, .unset] [(.long (0 : Int64)), (.long a)])) (fun _ k_ => XS.lconst X0.here hx rfl (hb hby own_d8_9) k_) ?_
    refine own_w (T' := s₁) (g' := (mkF m 11 #[.val (.long a), .second, .val (.long b), .second, .unset, .unset] [(.int (lcmpW a (0 : Int64)))])) (fun _ k_ => XS.lcmp X0.here hx rfl (hb hby own_d8_10) rfl k_) ?_
    by_cases hc11 : a < (0 : Int64)
    · refine own_w (T' := s₁) (g' := (mkF m 14 #[.val (.long a), .second, .val (.long b), .second, .unset, .unset] [])) (fun _ k_ => XS.ifNo X0.here hx rfl (hb hby own_d8_11) rfl ((if0 _ _).trans (tlt ((lw_lt _ _).mpr hc11)).2.1) k_) ?_
      refine own_w (T' := s₁) (g' := (mkF m 15 #[.val (.long a), .second, .val (.long b), .second, .unset, .unset] [(.int (1 : Int32))])) (fun _ k_ => XS.iconst X0.here hx rfl (hb hby own_d8_14) k_) ?_
      refine own_w (T' := s₁) (g' := (mkF m 19 #[.val (.long a), .second, .val (.long b), .second, .unset, .unset] [(.int (1 : Int32))])) (fun _ k_ => XS.goto X0.here hx rfl (pc0 := 15) (pc' := 19) rfl (hb hby own_d8_15) (by decide) (by decide) k_) ?_
      refine own_w (T' := s₁) (g' := (mkF m 21 #[.val (.long a), .second, .val (.long b), .second, .val (.int (1 : Int32)), .unset] [])) (fun _ k_ => XS.istore X0.here hx rfl (hb hby own_d8_19) rfl (l' := #[.val (.long a), .second, .val (.long b), .second, .val (.int (1 : Int32)), .unset]) rfl k_) ?_
      refine own_w (T' := s₁) (g' := (mkF m 22 #[.val (.long a), .second, .val (.long b), .second, .val (.int (1 : Int32)), .unset] [(.long b)])) (fun _ k_ => XS.lloadN X0.here hx rfl (hb hby own_d8_21) rfl k_) ?_
      refine own_w (T' := s₁) (g' := (mkF m 23 #[.val (.long a), .second, .val (.long b), .second, .val (.int (1 : Int32)), .unset] [(.long (0 : Int64)), (.long b)])) (fun _ k_ => XS.lconst X0.here hx rfl (hb hby own_d8_22) k_) ?_
      refine own_w (T' := s₁) (g' := (mkF m 24 #[.val (.long a), .second, .val (.long b), .second, .val (.int (1 : Int32)), .unset] [(.int (lcmpW b (0 : Int64)))])) (fun _ k_ => XS.lcmp X0.here hx rfl (hb hby own_d8_23) rfl k_) ?_
      by_cases hc24 : b < (0 : Int64)
      · refine own_w (T' := s₁) (g' := (mkF m 27 #[.val (.long a), .second, .val (.long b), .second, .val (.int (1 : Int32)), .unset] [])) (fun _ k_ => XS.ifNo X0.here hx rfl (hb hby own_d8_24) rfl ((if0 _ _).trans (tlt ((lw_lt _ _).mpr hc24)).2.1) k_) ?_
        refine own_w (T' := s₁) (g' := (mkF m 28 #[.val (.long a), .second, .val (.long b), .second, .val (.int (1 : Int32)), .unset] [(.int (1 : Int32))])) (fun _ k_ => XS.iconst X0.here hx rfl (hb hby own_d8_27) k_) ?_
        refine own_w (T' := s₁) (g' := (mkF m 32 #[.val (.long a), .second, .val (.long b), .second, .val (.int (1 : Int32)), .unset] [(.int (1 : Int32))])) (fun _ k_ => XS.goto X0.here hx rfl (pc0 := 28) (pc' := 32) rfl (hb hby own_d8_28) (by decide) (by decide) k_) ?_
        refine own_w (T' := s₁) (g' := (mkF m 34 #[.val (.long a), .second, .val (.long b), .second, .val (.int (1 : Int32)), .val (.int (1 : Int32))] [])) (fun _ k_ => XS.istore X0.here hx rfl (hb hby own_d8_32) rfl (l' := #[.val (.long a), .second, .val (.long b), .second, .val (.int (1 : Int32)), .val (.int (1 : Int32))]) rfl k_) ?_
        refine own_w (T' := s₁) (g' := (mkF m 36 #[.val (.long a), .second, .val (.long b), .second, .val (.int (1 : Int32)), .val (.int (1 : Int32))] [(.int (1 : Int32))])) (fun _ k_ => XS.iload X0.here hx rfl (hb hby own_d8_34) rfl k_) ?_
        refine own_w (T' := s₁) (g' := (mkF m 38 #[.val (.long a), .second, .val (.long b), .second, .val (.int (1 : Int32)), .val (.int (1 : Int32))] [(.int (1 : Int32)), (.int (1 : Int32))])) (fun _ k_ => XS.iload X0.here hx rfl (hb hby own_d8_36) rfl k_) ?_
        refine own_w (T' := s₁) (g' := (mkF m 41 #[.val (.long a), .second, .val (.long b), .second, .val (.int (1 : Int32)), .val (.int (1 : Int32))] [])) (fun _ k_ => XS.icmpNo X0.here hx rfl (hb hby own_d8_38) rfl (teq (by decide)).2 k_) ?_
        refine own_w (T' := s₁) (g' := (mkF m 42 #[.val (.long a), .second, .val (.long b), .second, .val (.int (1 : Int32)), .val (.int (1 : Int32))] [(.long a)])) (fun _ k_ => XS.lloadN X0.here hx rfl (hb hby own_d8_41) rfl k_) ?_
        refine own_w (T' := s₁) (g' := (mkF m 43 #[.val (.long a), .second, .val (.long b), .second, .val (.int (1 : Int32)), .val (.int (1 : Int32))] [(.long b), (.long a)])) (fun _ k_ => XS.lloadN X0.here hx rfl (hb hby own_d8_42) rfl k_) ?_
        refine own_w (T' := s₁) (g' := (mkF m 44 #[.val (.long a), .second, .val (.long b), .second, .val (.int (1 : Int32)), .val (.int (1 : Int32))] [(.int (lcmpW a b))])) (fun _ k_ => XS.lcmp X0.here hx rfl (hb hby own_d8_43) rfl k_) ?_
        by_cases hc44 : a < b
        · refine own_w (T' := s₁) (g' := (mkF m 47 #[.val (.long a), .second, .val (.long b), .second, .val (.int (1 : Int32)), .val (.int (1 : Int32))] [])) (fun _ k_ => XS.ifNo X0.here hx rfl (hb hby own_d8_44) rfl ((if0 _ _).trans (tlt ((lw_lt _ _).mpr hc44)).2.1) k_) ?_
          refine own_w (T' := s₁) (g' := (mkF m 48 #[.val (.long a), .second, .val (.long b), .second, .val (.int (1 : Int32)), .val (.int (1 : Int32))] [(.int (-1 : Int32))])) (fun _ k_ => XS.iconst X0.here hx rfl (hb hby own_d8_47) k_) ?_
          refine own_w (T' := s₁) (g' := (mkF m 52 #[.val (.long a), .second, .val (.long b), .second, .val (.int (1 : Int32)), .val (.int (1 : Int32))] [(.int (-1 : Int32))])) (fun _ k_ => XS.goto X0.here hx rfl (pc0 := 48) (pc' := 52) rfl (hb hby own_d8_48) (by decide) (by decide) k_) ?_
          obtain ⟨fs, hr, hrun, hended, hW, hsame⟩ := X0.leave (v := some (.int (-1 : Int32))) (fun h => by rw [Bd.returns] at h; cases h)
          exact ⟨_, _, retOut X0 hx Bd.returns rfl (Or.inl ⟨rfl, Or.inl rfl, _, rfl⟩) (hb hby own_d8_52) hr, hrun, hended, _, _, rfl, (by show own_Q8 Z a b h0 n0 _ s₁.heap _; rw [e0]; exact ⟨(by simp [own_uo, hc3, hc11, hc24, hc44]), N0, rfl⟩), ⟨_, rfl⟩, hW, hsame.mono (by decide) (by decide)⟩
        · refine own_w (T' := s₁) (g' := (mkF m 51 #[.val (.long a), .second, .val (.long b), .second, .val (.int (1 : Int32)), .val (.int (1 : Int32))] [])) (fun _ k_ => XS.ifYes X0.here hx rfl (pc0 := 44) (pc' := 51) rfl (hb hby own_d8_44) rfl ((if0 _ _).trans (flt (mt (lw_lt _ _).mp hc44)).2.1) (by decide) (by decide) k_) ?_
          refine own_w (T' := s₁) (g' := (mkF m 52 #[.val (.long a), .second, .val (.long b), .second, .val (.int (1 : Int32)), .val (.int (1 : Int32))] [(.int (1 : Int32))])) (fun _ k_ => XS.iconst X0.here hx rfl (hb hby own_d8_51) k_) ?_
          obtain ⟨fs, hr, hrun, hended, hW, hsame⟩ := X0.leave (v := some (.int (1 : Int32))) (fun h => by rw [Bd.returns] at h; cases h)
          exact ⟨_, _, retOut X0 hx Bd.returns rfl (Or.inl ⟨rfl, Or.inl rfl, _, rfl⟩) (hb hby own_d8_52) hr, hrun, hended, _, _, rfl, (by show own_Q8 Z a b h0 n0 _ s₁.heap _; rw [e0]; exact ⟨(by simp [own_uo, hc3, hc11, hc24, hc44]), N0, rfl⟩), ⟨_, rfl⟩, hW, hsame.mono (by decide) (by decide)⟩
      · refine own_w (T' := s₁) (g' := (mkF m 31 #[.val (.long a), .second, .val (.long b), .second, .val (.int (1 : Int32)), .unset] [])) (fun _ k_ => XS.ifYes X0.here hx rfl (pc0 := 24) (pc' := 31) rfl (hb hby own_d8_24) rfl ((if0 _ _).trans (flt (mt (lw_lt _ _).mp hc24)).2.1) (by decide) (by decide) k_) ?_
        refine own_w (T' := s₁) (g' := (mkF m 32 #[.val (.long a), .second, .val (.long b), .second, .val (.int (1 : Int32)), .unset] [(.int (0 : Int32))])) (fun _ k_ => XS.iconst X0.here hx rfl (hb hby own_d8_31) k_) ?_
        refine own_w (T' := s₁) (g' := (mkF m 34 #[.val (.long a), .second, .val (.long b), .second, .val (.int (1 : Int32)), .val (.int (0 : Int32))] [])) (fun _ k_ => XS.istore X0.here hx rfl (hb hby own_d8_32) rfl (l' := #[.val (.long a), .second, .val (.long b), .second, .val (.int (1 : Int32)), .val (.int (0 : Int32))]) rfl k_) ?_
        refine own_w (T' := s₁) (g' := (mkF m 36 #[.val (.long a), .second, .val (.long b), .second, .val (.int (1 : Int32)), .val (.int (0 : Int32))] [(.int (1 : Int32))])) (fun _ k_ => XS.iload X0.here hx rfl (hb hby own_d8_34) rfl k_) ?_
        refine own_w (T' := s₁) (g' := (mkF m 38 #[.val (.long a), .second, .val (.long b), .second, .val (.int (1 : Int32)), .val (.int (0 : Int32))] [(.int (0 : Int32)), (.int (1 : Int32))])) (fun _ k_ => XS.iload X0.here hx rfl (hb hby own_d8_36) rfl k_) ?_
        refine own_w (T' := s₁) (g' := (mkF m 53 #[.val (.long a), .second, .val (.long b), .second, .val (.int (1 : Int32)), .val (.int (0 : Int32))] [])) (fun _ k_ => XS.icmpYes X0.here hx rfl (pc0 := 38) (pc' := 53) rfl (hb hby own_d8_38) rfl (feq (by decide)).2 (by decide) (by decide) k_) ?_
        refine own_w (T' := s₁) (g' := (mkF m 55 #[.val (.long a), .second, .val (.long b), .second, .val (.int (1 : Int32)), .val (.int (0 : Int32))] [(.int (1 : Int32))])) (fun _ k_ => XS.iload X0.here hx rfl (hb hby own_d8_53) rfl k_) ?_
        refine own_w (T' := s₁) (g' := (mkF m 58 #[.val (.long a), .second, .val (.long b), .second, .val (.int (1 : Int32)), .val (.int (0 : Int32))] [])) (fun _ k_ => XS.ifNo X0.here hx rfl (hb hby own_d8_55) rfl ((if0 _ _).trans (feq (by decide)).1) k_) ?_
        refine own_w (T' := s₁) (g' := (mkF m 59 #[.val (.long a), .second, .val (.long b), .second, .val (.int (1 : Int32)), .val (.int (0 : Int32))] [(.int (1 : Int32))])) (fun _ k_ => XS.iconst X0.here hx rfl (hb hby own_d8_58) k_) ?_
        refine own_w (T' := s₁) (g' := (mkF m 63 #[.val (.long a), .second, .val (.long b), .second, .val (.int (1 : Int32)), .val (.int (0 : Int32))] [(.int (1 : Int32))])) (fun _ k_ => XS.goto X0.here hx rfl (pc0 := 59) (pc' := 63) rfl (hb hby own_d8_59) (by decide) (by decide) k_) ?_
        obtain ⟨fs, hr, hrun, hended, hW, hsame⟩ := X0.leave (v := some (.int (1 : Int32))) (fun h => by rw [Bd.returns] at h; cases h)
        exact ⟨_, _, retOut X0 hx Bd.returns rfl (Or.inl ⟨rfl, Or.inl rfl, _, rfl⟩) (hb hby own_d8_63) hr, hrun, hended, _, _, rfl, (by show own_Q8 Z a b h0 n0 _ s₁.heap _; rw [e0]; exact ⟨(by simp [own_uo, hc3, hc11, hc24]), N0, rfl⟩), ⟨_, rfl⟩, hW, hsame.mono (by decide) (by decide)⟩
    · refine own_w (T' := s₁) (g' := (mkF m 18 #[.val (.long a), .second, .val (.long b), .second, .unset, .unset] [])) (fun _ k_ => XS.ifYes X0.here hx rfl (pc0 := 11) (pc' := 18) rfl (hb hby own_d8_11) rfl ((if0 _ _).trans (flt (mt (lw_lt _ _).mp hc11)).2.1) (by decide) (by decide) k_) ?_
      refine own_w (T' := s₁) (g' := (mkF m 19 #[.val (.long a), .second, .val (.long b), .second, .unset, .unset] [(.int (0 : Int32))])) (fun _ k_ => XS.iconst X0.here hx rfl (hb hby own_d8_18) k_) ?_
      refine own_w (T' := s₁) (g' := (mkF m 21 #[.val (.long a), .second, .val (.long b), .second, .val (.int (0 : Int32)), .unset] [])) (fun _ k_ => XS.istore X0.here hx rfl (hb hby own_d8_19) rfl (l' := #[.val (.long a), .second, .val (.long b), .second, .val (.int (0 : Int32)), .unset]) rfl k_) ?_
      refine own_w (T' := s₁) (g' := (mkF m 22 #[.val (.long a), .second, .val (.long b), .second, .val (.int (0 : Int32)), .unset] [(.long b)])) (fun _ k_ => XS.lloadN X0.here hx rfl (hb hby own_d8_21) rfl k_) ?_
      refine own_w (T' := s₁) (g' := (mkF m 23 #[.val (.long a), .second, .val (.long b), .second, .val (.int (0 : Int32)), .unset] [(.long (0 : Int64)), (.long b)])) (fun _ k_ => XS.lconst X0.here hx rfl (hb hby own_d8_22) k_) ?_
      refine own_w (T' := s₁) (g' := (mkF m 24 #[.val (.long a), .second, .val (.long b), .second, .val (.int (0 : Int32)), .unset] [(.int (lcmpW b (0 : Int64)))])) (fun _ k_ => XS.lcmp X0.here hx rfl (hb hby own_d8_23) rfl k_) ?_
      by_cases hc24 : b < (0 : Int64)
      · refine own_w (T' := s₁) (g' := (mkF m 27 #[.val (.long a), .second, .val (.long b), .second, .val (.int (0 : Int32)), .unset] [])) (fun _ k_ => XS.ifNo X0.here hx rfl (hb hby own_d8_24) rfl ((if0 _ _).trans (tlt ((lw_lt _ _).mpr hc24)).2.1) k_) ?_
        refine own_w (T' := s₁) (g' := (mkF m 28 #[.val (.long a), .second, .val (.long b), .second, .val (.int (0 : Int32)), .unset] [(.int (1 : Int32))])) (fun _ k_ => XS.iconst X0.here hx rfl (hb hby own_d8_27) k_) ?_
        refine own_w (T' := s₁) (g' := (mkF m 32 #[.val (.long a), .second, .val (.long b), .second, .val (.int (0 : Int32)), .unset] [(.int (1 : Int32))])) (fun _ k_ => XS.goto X0.here hx rfl (pc0 := 28) (pc' := 32) rfl (hb hby own_d8_28) (by decide) (by decide) k_) ?_
        refine own_w (T' := s₁) (g' := (mkF m 34 #[.val (.long a), .second, .val (.long b), .second, .val (.int (0 : Int32)), .val (.int (1 : Int32))] [])) (fun _ k_ => XS.istore X0.here hx rfl (hb hby own_d8_32) rfl (l' := #[.val (.long a), .second, .val (.long b), .second, .val (.int (0 : Int32)), .val (.int (1 : Int32))]) rfl k_) ?_
        refine own_w (T' := s₁) (g' := (mkF m 36 #[.val (.long a), .second, .val (.long b), .second, .val (.int (0 : Int32)), .val (.int (1 : Int32))] [(.int (0 : Int32))])) (fun _ k_ => XS.iload X0.here hx rfl (hb hby own_d8_34) rfl k_) ?_
        refine own_w (T' := s₁) (g' := (mkF m 38 #[.val (.long a), .second, .val (.long b), .second, .val (.int (0 : Int32)), .val (.int (1 : Int32))] [(.int (1 : Int32)), (.int (0 : Int32))])) (fun _ k_ => XS.iload X0.here hx rfl (hb hby own_d8_36) rfl k_) ?_
        refine own_w (T' := s₁) (g' := (mkF m 53 #[.val (.long a), .second, .val (.long b), .second, .val (.int (0 : Int32)), .val (.int (1 : Int32))] [])) (fun _ k_ => XS.icmpYes X0.here hx rfl (pc0 := 38) (pc' := 53) rfl (hb hby own_d8_38) rfl (feq (by decide)).2 (by decide) (by decide) k_) ?_
        refine own_w (T' := s₁) (g' := (mkF m 55 #[.val (.long a), .second, .val (.long b), .second, .val (.int (0 : Int32)), .val (.int (1 : Int32))] [(.int (0 : Int32))])) (fun _ k_ => XS.iload X0.here hx rfl (hb hby own_d8_53) rfl k_) ?_
        refine own_w (T' := s₁) (g' := (mkF m 62 #[.val (.long a), .second, .val (.long b), .second, .val (.int (0 : Int32)), .val (.int (1 : Int32))] [])) (fun _ k_ => XS.ifYes X0.here hx rfl (pc0 := 55) (pc' := 62) rfl (hb hby own_d8_55) rfl ((if0 _ _).trans (teq (by decide)).1) (by decide) (by decide) k_) ?_
        refine own_w (T' := s₁) (g' := (mkF m 63 #[.val (.long a), .second, .val (.long b), .second, .val (.int (0 : Int32)), .val (.int (1 : Int32))] [(.int (-1 : Int32))])) (fun _ k_ => XS.iconst X0.here hx rfl (hb hby own_d8_62) k_) ?_
        obtain ⟨fs, hr, hrun, hended, hW, hsame⟩ := X0.leave (v := some (.int (-1 : Int32))) (fun h => by rw [Bd.returns] at h; cases h)
        exact ⟨_, _, retOut X0 hx Bd.returns rfl (Or.inl ⟨rfl, Or.inl rfl, _, rfl⟩) (hb hby own_d8_63) hr, hrun, hended, _, _, rfl, (by show own_Q8 Z a b h0 n0 _ s₁.heap _; rw [e0]; exact ⟨(by simp [own_uo, hc3, hc11, hc24]), N0, rfl⟩), ⟨_, rfl⟩, hW, hsame.mono (by decide) (by decide)⟩
      · refine own_w (T' := s₁) (g' := (mkF m 31 #[.val (.long a), .second, .val (.long b), .second, .val (.int (0 : Int32)), .unset] [])) (fun _ k_ => XS.ifYes X0.here hx rfl (pc0 := 24) (pc' := 31) rfl (hb hby own_d8_24) rfl ((if0 _ _).trans (flt (mt (lw_lt _ _).mp hc24)).2.1) (by decide) (by decide) k_) ?_
        refine own_w (T' := s₁) (g' := (mkF m 32 #[.val (.long a), .second, .val (.long b), .second, .val (.int (0 : Int32)), .unset] [(.int (0 : Int32))])) (fun _ k_ => XS.iconst X0.here hx rfl (hb hby own_d8_31) k_) ?_
        refine own_w (T' := s₁) (g' := (mkF m 34 #[.val (.long a), .second, .val (.long b), .second, .val (.int (0 : Int32)), .val (.int (0 : Int32))] [])) (fun _ k_ => XS.istore X0.here hx rfl (hb hby own_d8_32) rfl (l' := #[.val (.long a), .second, .val (.long b), .second, .val (.int (0 : Int32)), .val (.int (0 : Int32))]) rfl k_) ?_
        refine own_w (T' := s₁) (g' := (mkF m 36 #[.val (.long a), .second, .val (.long b), .second, .val (.int (0 : Int32)), .val (.int (0 : Int32))] [(.int (0 : Int32))])) (fun _ k_ => XS.iload X0.here hx rfl (hb hby own_d8_34) rfl k_) ?_
        refine own_w (T' := s₁) (g' := (mkF m 38 #[.val (.long a), .second, .val (.long b), .second, .val (.int (0 : Int32)), .val (.int (0 : Int32))] [(.int (0 : Int32)), (.int (0 : Int32))])) (fun _ k_ => XS.iload X0.here hx rfl (hb hby own_d8_36) rfl k_) ?_
        refine own_w (T' := s₁) (g' := (mkF m 41 #[.val (.long a), .second, .val (.long b), .second, .val (.int (0 : Int32)), .val (.int (0 : Int32))] [])) (fun _ k_ => XS.icmpNo X0.here hx rfl (hb hby own_d8_38) rfl (teq (by decide)).2 k_) ?_
        refine own_w (T' := s₁) (g' := (mkF m 42 #[.val (.long a), .second, .val (.long b), .second, .val (.int (0 : Int32)), .val (.int (0 : Int32))] [(.long a)])) (fun _ k_ => XS.lloadN X0.here hx rfl (hb hby own_d8_41) rfl k_) ?_
        refine own_w (T' := s₁) (g' := (mkF m 43 #[.val (.long a), .second, .val (.long b), .second, .val (.int (0 : Int32)), .val (.int (0 : Int32))] [(.long b), (.long a)])) (fun _ k_ => XS.lloadN X0.here hx rfl (hb hby own_d8_42) rfl k_) ?_
        refine own_w (T' := s₁) (g' := (mkF m 44 #[.val (.long a), .second, .val (.long b), .second, .val (.int (0 : Int32)), .val (.int (0 : Int32))] [(.int (lcmpW a b))])) (fun _ k_ => XS.lcmp X0.here hx rfl (hb hby own_d8_43) rfl k_) ?_
        by_cases hc44 : a < b
        · refine own_w (T' := s₁) (g' := (mkF m 47 #[.val (.long a), .second, .val (.long b), .second, .val (.int (0 : Int32)), .val (.int (0 : Int32))] [])) (fun _ k_ => XS.ifNo X0.here hx rfl (hb hby own_d8_44) rfl ((if0 _ _).trans (tlt ((lw_lt _ _).mpr hc44)).2.1) k_) ?_
          refine own_w (T' := s₁) (g' := (mkF m 48 #[.val (.long a), .second, .val (.long b), .second, .val (.int (0 : Int32)), .val (.int (0 : Int32))] [(.int (-1 : Int32))])) (fun _ k_ => XS.iconst X0.here hx rfl (hb hby own_d8_47) k_) ?_
          refine own_w (T' := s₁) (g' := (mkF m 52 #[.val (.long a), .second, .val (.long b), .second, .val (.int (0 : Int32)), .val (.int (0 : Int32))] [(.int (-1 : Int32))])) (fun _ k_ => XS.goto X0.here hx rfl (pc0 := 48) (pc' := 52) rfl (hb hby own_d8_48) (by decide) (by decide) k_) ?_
          obtain ⟨fs, hr, hrun, hended, hW, hsame⟩ := X0.leave (v := some (.int (-1 : Int32))) (fun h => by rw [Bd.returns] at h; cases h)
          exact ⟨_, _, retOut X0 hx Bd.returns rfl (Or.inl ⟨rfl, Or.inl rfl, _, rfl⟩) (hb hby own_d8_52) hr, hrun, hended, _, _, rfl, (by show own_Q8 Z a b h0 n0 _ s₁.heap _; rw [e0]; exact ⟨(by simp [own_uo, hc3, hc11, hc24, hc44]), N0, rfl⟩), ⟨_, rfl⟩, hW, hsame.mono (by decide) (by decide)⟩
        · refine own_w (T' := s₁) (g' := (mkF m 51 #[.val (.long a), .second, .val (.long b), .second, .val (.int (0 : Int32)), .val (.int (0 : Int32))] [])) (fun _ k_ => XS.ifYes X0.here hx rfl (pc0 := 44) (pc' := 51) rfl (hb hby own_d8_44) rfl ((if0 _ _).trans (flt (mt (lw_lt _ _).mp hc44)).2.1) (by decide) (by decide) k_) ?_
          refine own_w (T' := s₁) (g' := (mkF m 52 #[.val (.long a), .second, .val (.long b), .second, .val (.int (0 : Int32)), .val (.int (0 : Int32))] [(.int (1 : Int32))])) (fun _ k_ => XS.iconst X0.here hx rfl (hb hby own_d8_51) k_) ?_
          obtain ⟨fs, hr, hrun, hended, hW, hsame⟩ := X0.leave (v := some (.int (1 : Int32))) (fun h => by rw [Bd.returns] at h; cases h)
          exact ⟨_, _, retOut X0 hx Bd.returns rfl (Or.inl ⟨rfl, Or.inl rfl, _, rfl⟩) (hb hby own_d8_52) hr, hrun, hended, _, _, rfl, (by show own_Q8 Z a b h0 n0 _ s₁.heap _; rw [e0]; exact ⟨(by simp [own_uo, hc3, hc11, hc24, hc44]), N0, rfl⟩), ⟨_, rfl⟩, hW, hsame.mono (by decide) (by decide)⟩
theorem own_law (a b : Int64) : own_sign (own_cmp (a + (-9223372036854775808 : Int64)) (b + (-9223372036854775808 : Int64))) = own_uo a b := by
  have ea := c_ladd a (-9223372036854775808 : Int64)
  have eb := c_ladd b (-9223372036854775808 : Int64)
  have em : ((-9223372036854775808 : Int64)).toInt = -9223372036854775808 := by decide
  have z0 : (0 : Int64).toInt = 0 := by decide
  have la := a.toInt_lt; have lb := b.toInt_lt; have ga := a.le_toInt; have gb := b.le_toInt
  have la' := (a + (-9223372036854775808 : Int64)).toInt_lt; have lb' := (b + (-9223372036854775808 : Int64)).toInt_lt; have ga' := (a + (-9223372036854775808 : Int64)).le_toInt; have gb' := (b + (-9223372036854775808 : Int64)).le_toInt
  rw [em] at ea eb
  simp only [own_cmp, own_uo, Int64.lt_iff_toInt_lt, ← Int64.toInt_inj, z0]
  generalize (a + (-9223372036854775808 : Int64)).toInt = A at *
  generalize (b + (-9223372036854775808 : Int64)).toInt = B at *
  generalize a.toInt = x at *
  generalize b.toInt = y at *
  have hs1 : own_sign (-1) = -1 := by decide
  have hs2 : own_sign 0 = 0 := by decide
  have hs3 : own_sign 1 = 1 := by decide
  by_cases h1 : A < B
  · rw [if_pos h1, hs1]
    have : ¬ x = y := by omega
    rw [if_neg this]
    by_cases h2 : x < 0
    · rw [if_pos h2]
      have h3 : y < 0 := by omega
      rw [if_pos h3, if_pos (show x < y by omega)]
    · rw [if_neg h2]
      by_cases h3 : y < 0
      · rw [if_pos h3]
      · rw [if_neg h3, if_pos (show x < y by omega)]
  · rw [if_neg h1]
    by_cases h4 : A = B
    · rw [if_pos h4, hs2, if_pos (show x = y by omega)]
    · rw [if_neg h4, hs3, if_neg (show ¬ x = y by omega)]
      by_cases h2 : x < 0
      · rw [if_pos h2]
        by_cases h3 : y < 0
        · rw [if_pos h3, if_neg (show ¬ x < y by omega)]
        · rw [if_neg h3]
      · rw [if_neg h2, if_neg (show ¬ y < 0 by omega), if_neg (show ¬ x < y by omega)]
theorem own_pd2 : parseMethodDescriptor "(J)V" = some ⟨[.long], none⟩ := by decide +kernel
theorem own_pd3 : parseMethodDescriptor "(Lcom/example/pagequilt/pagequilt/MemberNumber;)I" = some ⟨[(.object "com/example/pagequilt/pagequilt/MemberNumber")], some .int⟩ := by decide +kernel
theorem own_pd4 : parseMethodDescriptor "(I)I" = some ⟨[.int], some .int⟩ := by decide +kernel
theorem own_rm0_ef (m : MethodId) (a : Int64) (b0 : Int64) (mo : Int32) : entryFrame m #[(.long a), (.long b0), (.int mo)] maxLocals = mkF m 0 #[.val (.long a), .second, .val (.long b0), .second, .val (.int mo), .unset, .unset, .unset, .unset, .unset, .unset] [] := by first | (simp [entryFrame, mkF, argsToLocals, Value.category, maxLocals]; done) | rfl
def own_Q0 (Z : State) (a : Int64) (b0 : Int64) (mo : Int32) (h0 : Heap) (n0 : Nat) (v_ : Option Value) (h : Heap) (L_ : List Loc) : Prop := v_ = some (.int (1 : Int32)) ∧ Fr n0 L_
set_option maxRecDepth 65536 in
set_option maxHeartbeats 40000000 in
theorem own_rm0 (l : Launch) (Z : State) (a0 : Array Value) (hw : ∀ d ∈ tables_1, d.before a0 Z = true) (ws : List Jvm.Cond) (a : Int64) (b0 : Int64) (mo : Int32) (h0 : Heap) (n0 : Nat) (Z0 : n0 ≤ h0.size)  :
    MetFree l x (head1 (Jvm.Cond.code x code maxLocals ret :: ws) room_1) (fun a_ U_ => a_ = #[(.long a), (.long b0), (.int mo)] ∧ Z.Warmed39 U_.vm ∧ U_.heap = h0) (fun _ _ _ _ _ => True) (fun _ U_ o_ V_ => ∃ v_ L_, o_ = .returned v_ ∧ own_Q0 Z a b0 mo h0 n0 v_ V_.heap L_ ∧ FrameEnd U_ o_ V_ L_ room_1.cells room_1.slots) := by
  refine MetFree.of_bodySF (plainFor_of_name own_pn_com_example_pagequilt_pagequilt_MemberNumberCompareToPinLaw) hisR ?_
  intro p e s m args below meth c s₁ Bd hml0 hP hK
  obtain ⟨rfl, hZ, hh⟩ := hP
  have hx := Bd.exec
  have hby := Bd.bytes
  have hml : c.maxLocals = 11 := hml0
  have hown : s.vm.findClass "com/example/pagequilt/pagequilt/MemberNumberCompareToPinLaw" = some m.cls := findClass_of_methodNamed Bd.named
  have hnm := (name_of_methodNamed Bd.named Bd.method).1
  have X0 : Stand p l e room_1 s m #[(.long a), (.long b0), (.int mo)] below meth c s₁ [] 0 0 := Stand.of_body Bd
  have e0 : s₁.heap = h0 := by rw [← hh, Bd.state]; rfl
  have N0 := Fr.nil n0
  show own_G p e below s (own_Q0 Z a b0 mo h0 n0) room_1.cells room_1.slots s₁ (entryFrame m #[(.long a), (.long b0), (.int mo)] maxLocals)
  rw [own_rm0_ef]
  refine own_w (T' := s₁) (g' := (mkF m 2 #[.val (.long a), .second, .val (.long b0), .second, .val (.int mo), .unset, .unset, .unset, .unset, .unset, .unset] [(.int mo)])) (fun _ k_ => XS.iload X0.here hx rfl (hb hby at_0) rfl k_) ?_
  refine own_w (T' := s₁) (g' := (mkF m 3 #[.val (.long a), .second, .val (.long b0), .second, .val (.int mo), .unset, .unset, .unset, .unset, .unset, .unset] [(.int (3 : Int32)), (.int mo)])) (fun _ k_ => XS.iconst X0.here hx rfl (hb hby at_2) k_) ?_
  refine own_w (T' := s₁) (g' := (mkF m 4 #[.val (.long a), .second, .val (.long b0), .second, .val (.int mo), .unset, .unset, .unset, .unset, .unset, .unset] [(.int (mo &&& (3 : Int32)))])) (fun _ k_ => XS.iand X0.here hx rfl (hb hby at_3) rfl k_) ?_
  refine own_w (T' := s₁) (g' := (mkF m 6 #[.val (.long a), .second, .val (.long b0), .second, .val (.int mo), .val (.int (mo &&& (3 : Int32))), .unset, .unset, .unset, .unset, .unset] [])) (fun _ k_ => XS.istore X0.here hx rfl (hb hby at_4) rfl (l' := #[.val (.long a), .second, .val (.long b0), .second, .val (.int mo), .val (.int (mo &&& (3 : Int32))), .unset, .unset, .unset, .unset, .unset]) rfl k_) ?_
  refine own_w (T' := s₁) (g' := (mkF m 8 #[.val (.long a), .second, .val (.long b0), .second, .val (.int mo), .val (.int (mo &&& (3 : Int32))), .unset, .unset, .unset, .unset, .unset] [(.int (mo &&& (3 : Int32)))])) (fun _ k_ => XS.iload X0.here hx rfl (hb hby at_6) rfl k_) ?_
  have J50 : ∀ (TJ : State) (LJ : List Loc) (XJ : Stand p l e room_1 s m #[(.long a), (.long b0), (.int mo)] below meth c TJ LJ 0 0) (eJ : TJ.heap = h0) (NJ : Fr n0 LJ) (b : Int64), own_G p e below s (own_Q0 Z a b0 mo h0 n0) room_1.cells room_1.slots TJ (mkF m 50 #[.val (.long a), .second, .val (.long b0), .second, .val (.int mo), .val (.int (mo &&& (3 : Int32))), .val (.long b), .second, .unset, .unset, .unset] []) := by
    intro TJ LJ XJ eJ NJ b
    obtain ⟨T1, h1, X1, e1, E1, A1, D1, -, st1⟩ := newO XJ hx hZ hown (hw _ (List.mem_of_getElem? (i := 0) rfl)) (hw _ (List.mem_of_getElem? (i := 1) rfl)) (hw _ (List.mem_of_getElem? (i := 2) rfl)) eJ (g := (mkF m 50 #[.val (.long a), .second, .val (.long b0), .second, .val (.int mo), .val (.int (mo &&& (3 : Int32))), .val (.long b), .second, .unset, .unset, .unset] [])) rfl (hb hby at_50) (by decide) (by decide)
    obtain ⟨b1, gq1⟩ : ∃ z, z = h0.size := ⟨_, rfl⟩
    rw [← gq1] at A1 D1 st1
    have g_b1 : n0 ≤ b1 := Nat.le_trans Z0 (Nat.le_of_eq gq1.symm)
    have Z1 : n0 ≤ h1.size := Nat.le_trans Z0 E1.1
    refine own_w (T' := T1) (g' := (mkF m 53 #[.val (.long a), .second, .val (.long b0), .second, .val (.int mo), .val (.int (mo &&& (3 : Int32))), .val (.long b), .second, .unset, .unset, .unset] [(.ref b1)])) st1 ?_
    refine own_w (T' := T1) (g' := (mkF m 54 #[.val (.long a), .second, .val (.long b0), .second, .val (.int mo), .val (.int (mo &&& (3 : Int32))), .val (.long b), .second, .unset, .unset, .unset] [(.ref b1), (.ref b1)])) (fun _ k_ => XS.dup X1.here hx rfl (hb hby at_53) rfl rfl k_) ?_
    refine own_w (T' := T1) (g' := (mkF m 55 #[.val (.long a), .second, .val (.long b0), .second, .val (.int mo), .val (.int (mo &&& (3 : Int32))), .val (.long b), .second, .unset, .unset, .unset] [(.long a), (.ref b1), (.ref b1)])) (fun _ k_ => XS.lloadN X1.here hx rfl (hb hby at_54) rfl k_) ?_
    obtain ⟨_, _, ⟨T2, L2, k2, n2⟩, -, X2, ⟨Lc2, hQ2, l2, y2, z2⟩, st2⟩ := X1.specialBack hx (y := (⟨"com/example/pagequilt/pagequilt/MemberNumber", "<init>", "(J)V"⟩ : MethodName)) rfl hown (mvT hZ (hw _ (List.mem_of_getElem? (i := 3) rfl))) (mvT hZ (hw _ (List.mem_of_getElem? (i := 4) rfl))) (mvT hZ (hw _ (List.mem_of_getElem? (i := 5) rfl))) (by decide) (backOf (W := 1) (own_rm1 l Z a0 hw [] b1 a _ h1 n0 Z1 (D1 (Or.inr (hw _ (List.mem_of_getElem? (i := 15) rfl))) (ty := .long) (by decide)) A1 g_b1) hZ (hw _ (List.mem_of_getElem? (i := 5) rfl)) (hw _ (List.mem_of_getElem? (i := 2) rfl)) (by decide) (by decide)) (g := (mkF m 55 #[.val (.long a), .second, .val (.long b0), .second, .val (.int mo), .val (.int (mo &&& (3 : Int32))), .val (.long b), .second, .unset, .unset, .unset] [(.long a), (.ref b1), (.ref b1)])) rfl (by rw [hml]; rfl) (Steps.refl _) (a := b1) (argsL := [(.long a)]) (rest := [(.ref b1)]) (lenOf own_pd2 rfl) rfl (by show 2 * 0 + _ ≤ _; exact Nat.le_of_eq rfl) (hb hby at_55) (fun _ _ => ⟨rfl, e1, (by decide : 1 + 0 ≤ _), (by decide : 1 + 0 ≤ _)⟩)
    dsimp only [Pt.U, Pt.locs, Pt.cells, Pt.slots] at X2 l2 y2 z2 st2 hQ2
    subst l2 y2 z2
    obtain ⟨h2, e2⟩ : ∃ h, T2.heap = h := ⟨_, rfl⟩
    rw [e2] at hQ2
    obtain ⟨rfl, N2q, K2, F2⟩ := hQ2
    have N2 := Fr.app NJ N2q
    refine own_t (T' := T2) (g' := (mkF m 58 #[.val (.long a), .second, .val (.long b0), .second, .val (.int mo), .val (.int (mo &&& (3 : Int32))), .val (.long b), .second, .unset, .unset, .unset] [(.ref b1)])) st2 ?_
    have Ea := A1.keep K2
    have Z2 : n0 ≤ h2.size := Nat.le_trans Z1 K2.1
    refine own_w (T' := T2) (g' := (mkF m 60 #[.val (.long a), .second, .val (.long b0), .second, .val (.int mo), .val (.int (mo &&& (3 : Int32))), .val (.long b), .second, .val (.ref b1), .unset, .unset] [])) (fun _ k_ => XS.astore X2.here hx rfl (hb hby at_58) rfl rfl (l' := #[.val (.long a), .second, .val (.long b0), .second, .val (.int mo), .val (.int (mo &&& (3 : Int32))), .val (.long b), .second, .val (.ref b1), .unset, .unset]) rfl k_) ?_
    obtain ⟨T3, h3, X3, e3, E3, A3, D3, -, st3⟩ := newO X2 hx hZ hown (hw _ (List.mem_of_getElem? (i := 0) rfl)) (hw _ (List.mem_of_getElem? (i := 1) rfl)) (hw _ (List.mem_of_getElem? (i := 2) rfl)) e2 (g := (mkF m 60 #[.val (.long a), .second, .val (.long b0), .second, .val (.int mo), .val (.int (mo &&& (3 : Int32))), .val (.long b), .second, .val (.ref b1), .unset, .unset] [])) rfl (hb hby at_60) (by decide) (by decide)
    obtain ⟨b3, gq3⟩ : ∃ z, z = h2.size := ⟨_, rfl⟩
    rw [← gq3] at A3 D3 st3
    have g_b3 : n0 ≤ b3 := Nat.le_trans Z2 (Nat.le_of_eq gq3.symm)
    have Z3 : n0 ≤ h3.size := Nat.le_trans Z2 E3.1
    refine own_w (T' := T3) (g' := (mkF m 63 #[.val (.long a), .second, .val (.long b0), .second, .val (.int mo), .val (.int (mo &&& (3 : Int32))), .val (.long b), .second, .val (.ref b1), .unset, .unset] [(.ref b3)])) st3 ?_
    refine own_w (T' := T3) (g' := (mkF m 64 #[.val (.long a), .second, .val (.long b0), .second, .val (.int mo), .val (.int (mo &&& (3 : Int32))), .val (.long b), .second, .val (.ref b1), .unset, .unset] [(.ref b3), (.ref b3)])) (fun _ k_ => XS.dup X3.here hx rfl (hb hby at_63) rfl rfl k_) ?_
    refine own_w (T' := T3) (g' := (mkF m 66 #[.val (.long a), .second, .val (.long b0), .second, .val (.int mo), .val (.int (mo &&& (3 : Int32))), .val (.long b), .second, .val (.ref b1), .unset, .unset] [(.long b), (.ref b3), (.ref b3)])) (fun _ k_ => XS.lload X3.here hx rfl (hb hby at_64) rfl k_) ?_
    have ne : b1 ≠ b3 := Nat.ne_of_lt (Nat.lt_of_lt_of_le F2.lt (Nat.le_of_eq gq3.symm))
    obtain ⟨_, _, ⟨T4, L4, k4, n4⟩, -, X4, ⟨Lc4, hQ4, l4, y4, z4⟩, st4⟩ := X3.specialBack hx (y := (⟨"com/example/pagequilt/pagequilt/MemberNumber", "<init>", "(J)V"⟩ : MethodName)) rfl hown (mvT hZ (hw _ (List.mem_of_getElem? (i := 3) rfl))) (mvT hZ (hw _ (List.mem_of_getElem? (i := 4) rfl))) (mvT hZ (hw _ (List.mem_of_getElem? (i := 5) rfl))) (by decide) (backOf (W := 1) (own_rm1 l Z a0 hw [] b3 b _ h3 n0 Z3 (D3 (Or.inr (hw _ (List.mem_of_getElem? (i := 15) rfl))) (ty := .long) (by decide)) A3 g_b3) hZ (hw _ (List.mem_of_getElem? (i := 5) rfl)) (hw _ (List.mem_of_getElem? (i := 2) rfl)) (by decide) (by decide)) (g := (mkF m 66 #[.val (.long a), .second, .val (.long b0), .second, .val (.int mo), .val (.int (mo &&& (3 : Int32))), .val (.long b), .second, .val (.ref b1), .unset, .unset] [(.long b), (.ref b3), (.ref b3)])) rfl (by rw [hml]; rfl) (Steps.refl _) (a := b3) (argsL := [(.long b)]) (rest := [(.ref b3)]) (lenOf own_pd2 rfl) rfl (by show 2 * 0 + _ ≤ _; exact Nat.le_of_eq rfl) (hb hby at_66) (fun _ _ => ⟨rfl, e3, (by decide : 2 + 0 ≤ _), (by decide : 2 + 0 ≤ _)⟩)
    dsimp only [Pt.U, Pt.locs, Pt.cells, Pt.slots] at X4 l4 y4 z4 st4 hQ4
    subst l4 y4 z4
    obtain ⟨h4, e4⟩ : ∃ h, T4.heap = h := ⟨_, rfl⟩
    rw [e4] at hQ4
    obtain ⟨rfl, N4q, K4, F4⟩ := hQ4
    have N4 := Fr.app N2 N4q
    refine own_t (T' := T4) (g' := (mkF m 69 #[.val (.long a), .second, .val (.long b0), .second, .val (.int mo), .val (.int (mo &&& (3 : Int32))), .val (.long b), .second, .val (.ref b1), .unset, .unset] [(.ref b3)])) st4 ?_
    have Fa := (F2.ext E3).keep K4 (by simpa using ne)
    have Ea2 := (Ea.ext E3).keep K4
    have Z4 : n0 ≤ h4.size := Nat.le_trans Z3 K4.1
    refine own_w (T' := T4) (g' := (mkF m 71 #[.val (.long a), .second, .val (.long b0), .second, .val (.int mo), .val (.int (mo &&& (3 : Int32))), .val (.long b), .second, .val (.ref b1), .val (.ref b3), .unset] [])) (fun _ k_ => XS.astore X4.here hx rfl (hb hby at_69) rfl rfl (l' := #[.val (.long a), .second, .val (.long b0), .second, .val (.int mo), .val (.int (mo &&& (3 : Int32))), .val (.long b), .second, .val (.ref b1), .val (.ref b3), .unset]) rfl k_) ?_
    refine own_w (T' := T4) (g' := (mkF m 73 #[.val (.long a), .second, .val (.long b0), .second, .val (.int mo), .val (.int (mo &&& (3 : Int32))), .val (.long b), .second, .val (.ref b1), .val (.ref b3), .unset] [(.ref b1)])) (fun _ k_ => XS.aload X4.here hx rfl (hb hby at_71) rfl rfl k_) ?_
    refine own_w (T' := T4) (g' := (mkF m 75 #[.val (.long a), .second, .val (.long b0), .second, .val (.int mo), .val (.int (mo &&& (3 : Int32))), .val (.long b), .second, .val (.ref b1), .val (.ref b3), .unset] [(.ref b3), (.ref b1)])) (fun _ k_ => XS.aload X4.here hx rfl (hb hby at_73) rfl rfl k_) ?_
    obtain ⟨cq5, kq5, q5a, q5b, q5c⟩ := isOf hZ e4 Ea2
    obtain ⟨_, _, ⟨T5, L5, k5, n5⟩, -, X5, ⟨Lc5, hQ5, l5, y5, z5⟩, st5⟩ := X4.virtualBack hx (y := (⟨"com/example/pagequilt/pagequilt/MemberNumber", "compareTo", "(Lcom/example/pagequilt/pagequilt/MemberNumber;)I"⟩ : MethodName)) (z := (⟨"com/example/pagequilt/pagequilt/MemberNumber", "compareTo", "(Lcom/example/pagequilt/pagequilt/MemberNumber;)I"⟩ : MethodName)) hown (mvT hZ (hw _ (List.mem_of_getElem? (i := 16) rfl))) (mvT hZ (hw _ (List.mem_of_getElem? (i := 17) rfl))) (notFace_of_selects (args := #[]) (mvT hZ (hw _ (List.mem_of_getElem? (i := 19) rfl)))) (mvT hZ (hw _ (List.mem_of_getElem? (i := 19) rfl))) (mvT hZ (hw _ (List.mem_of_getElem? (i := 18) rfl))) (by decide) (backOf (W := 0) (own_rm4 l Z a0 hw [] b1 b3 _ _ h4 n0 Z4 Fa F4) hZ (hw _ (List.mem_of_getElem? (i := 20) rfl)) (hw _ (List.mem_of_getElem? (i := 2) rfl)) (by decide) (by decide)) q5a q5c (g := (mkF m 75 #[.val (.long a), .second, .val (.long b0), .second, .val (.int mo), .val (.int (mo &&& (3 : Int32))), .val (.long b), .second, .val (.ref b1), .val (.ref b3), .unset] [(.ref b3), (.ref b1)])) rfl (by rw [hml]; rfl) (Steps.refl _) (argsL := [(.ref b3)]) (rest := []) (lenOf own_pd3 rfl) rfl (by show 2 * 0 + _ ≤ _; exact Nat.le_of_eq rfl) (hb hby at_75) (fun _ _ => ⟨rfl, e4, (by decide : 2 + 0 ≤ _), (by decide : 2 + 0 ≤ _)⟩)
    dsimp only [Pt.U, Pt.locs, Pt.cells, Pt.slots] at X5 l5 y5 z5 st5 hQ5
    subst l5 y5 z5
    obtain ⟨rfl, N5q, e5⟩ := hQ5
    have N5 := Fr.app N4 N5q
    refine own_t (T' := T5) (g' := (mkF m 78 #[.val (.long a), .second, .val (.long b0), .second, .val (.int mo), .val (.int (mo &&& (3 : Int32))), .val (.long b), .second, .val (.ref b1), .val (.ref b3), .unset] [(.int (own_cmp (a + (-9223372036854775808 : Int64)) (b + (-9223372036854775808 : Int64))))])) st5 ?_
    refine own_w (T' := T5) (g' := (mkF m 80 #[.val (.long a), .second, .val (.long b0), .second, .val (.int mo), .val (.int (mo &&& (3 : Int32))), .val (.long b), .second, .val (.ref b1), .val (.ref b3), .val (.int (own_cmp (a + (-9223372036854775808 : Int64)) (b + (-9223372036854775808 : Int64))))] [])) (fun _ k_ => XS.istore X5.here hx rfl (hb hby at_78) rfl (l' := #[.val (.long a), .second, .val (.long b0), .second, .val (.int mo), .val (.int (mo &&& (3 : Int32))), .val (.long b), .second, .val (.ref b1), .val (.ref b3), .val (.int (own_cmp (a + (-9223372036854775808 : Int64)) (b + (-9223372036854775808 : Int64))))]) rfl k_) ?_
    refine own_w (T' := T5) (g' := (mkF m 82 #[.val (.long a), .second, .val (.long b0), .second, .val (.int mo), .val (.int (mo &&& (3 : Int32))), .val (.long b), .second, .val (.ref b1), .val (.ref b3), .val (.int (own_cmp (a + (-9223372036854775808 : Int64)) (b + (-9223372036854775808 : Int64))))] [(.int (own_cmp (a + (-9223372036854775808 : Int64)) (b + (-9223372036854775808 : Int64))))])) (fun _ k_ => XS.iload X5.here hx rfl (hb hby at_80) rfl k_) ?_
    obtain ⟨_, _, ⟨T6, L6, k6, n6⟩, -, X6, ⟨Lc6, hQ6, l6, y6, z6⟩, st6⟩ := Jvm.LawKit.callS X5 hx (y := (⟨"com/example/pagequilt/pagequilt/MemberNumberCompareToPinLaw", "sign", "(I)I"⟩ : MethodName)) hown (mvT hZ (hw _ (List.mem_of_getElem? (i := 29) rfl))) (mvT hZ (hw _ (List.mem_of_getElem? (i := 30) rfl))) (mvT hZ (hw _ (List.mem_of_getElem? (i := 31) rfl))) (mvT hZ (hw _ (List.mem_of_getElem? (i := 32) rfl))) (by decide) (backOf (W := 0) (own_rm7 l Z a0 hw [] (own_cmp (a + (-9223372036854775808 : Int64)) (b + (-9223372036854775808 : Int64)))  h4 n0 Z4 ) hZ (hw _ (List.mem_of_getElem? (i := 32) rfl)) (hw _ (List.mem_of_getElem? (i := 31) rfl)) (by decide) (by decide)) (g := (mkF m 82 #[.val (.long a), .second, .val (.long b0), .second, .val (.int mo), .val (.int (mo &&& (3 : Int32))), .val (.long b), .second, .val (.ref b1), .val (.ref b3), .val (.int (own_cmp (a + (-9223372036854775808 : Int64)) (b + (-9223372036854775808 : Int64))))] [(.int (own_cmp (a + (-9223372036854775808 : Int64)) (b + (-9223372036854775808 : Int64))))])) rfl (by rw [hml]; rfl) (argsL := [(.int (own_cmp (a + (-9223372036854775808 : Int64)) (b + (-9223372036854775808 : Int64))))]) (rest := []) (lenOf own_pd4 rfl) rfl (by show 2 * 0 + _ ≤ _; exact Nat.le_of_eq rfl) (hb hby at_82) (fun _ _ => ⟨rfl, e5, (by decide : 2 + 0 ≤ _), (by decide : 2 + 0 ≤ _)⟩)
    dsimp only [Pt.U, Pt.locs, Pt.cells, Pt.slots] at X6 l6 y6 z6 st6 hQ6
    subst l6 y6 z6
    obtain ⟨rfl, N6q, e6⟩ := hQ6
    have N6 := Fr.app N5 N6q
    refine own_w (T' := T6) (g' := (mkF m 85 #[.val (.long a), .second, .val (.long b0), .second, .val (.int mo), .val (.int (mo &&& (3 : Int32))), .val (.long b), .second, .val (.ref b1), .val (.ref b3), .val (.int (own_cmp (a + (-9223372036854775808 : Int64)) (b + (-9223372036854775808 : Int64))))] [(.int (own_sign (own_cmp (a + (-9223372036854775808 : Int64)) (b + (-9223372036854775808 : Int64)))))])) st6 ?_
    refine own_w (T' := T6) (g' := (mkF m 86 #[.val (.long a), .second, .val (.long b0), .second, .val (.int mo), .val (.int (mo &&& (3 : Int32))), .val (.long b), .second, .val (.ref b1), .val (.ref b3), .val (.int (own_cmp (a + (-9223372036854775808 : Int64)) (b + (-9223372036854775808 : Int64))))] [(.long a), (.int (own_sign (own_cmp (a + (-9223372036854775808 : Int64)) (b + (-9223372036854775808 : Int64)))))])) (fun _ k_ => XS.lloadN X6.here hx rfl (hb hby at_85) rfl k_) ?_
    refine own_w (T' := T6) (g' := (mkF m 88 #[.val (.long a), .second, .val (.long b0), .second, .val (.int mo), .val (.int (mo &&& (3 : Int32))), .val (.long b), .second, .val (.ref b1), .val (.ref b3), .val (.int (own_cmp (a + (-9223372036854775808 : Int64)) (b + (-9223372036854775808 : Int64))))] [(.long b), (.long a), (.int (own_sign (own_cmp (a + (-9223372036854775808 : Int64)) (b + (-9223372036854775808 : Int64)))))])) (fun _ k_ => XS.lload X6.here hx rfl (hb hby at_86) rfl k_) ?_
    obtain ⟨_, _, ⟨T7, L7, k7, n7⟩, -, X7, ⟨Lc7, hQ7, l7, y7, z7⟩, st7⟩ := Jvm.LawKit.callS X6 hx (y := (⟨"com/example/pagequilt/pagequilt/MemberNumberCompareToPinLaw", "unsignedOrder", "(JJ)I"⟩ : MethodName)) hown (mvT hZ (hw _ (List.mem_of_getElem? (i := 33) rfl))) (mvT hZ (hw _ (List.mem_of_getElem? (i := 34) rfl))) (mvT hZ (hw _ (List.mem_of_getElem? (i := 31) rfl))) (mvT hZ (hw _ (List.mem_of_getElem? (i := 35) rfl))) (by decide) (backOf (W := 1) (own_rm8 l Z a0 hw [] a b  h4 n0 Z4 ) hZ (hw _ (List.mem_of_getElem? (i := 35) rfl)) (hw _ (List.mem_of_getElem? (i := 31) rfl)) (by decide) (by decide)) (g := (mkF m 88 #[.val (.long a), .second, .val (.long b0), .second, .val (.int mo), .val (.int (mo &&& (3 : Int32))), .val (.long b), .second, .val (.ref b1), .val (.ref b3), .val (.int (own_cmp (a + (-9223372036854775808 : Int64)) (b + (-9223372036854775808 : Int64))))] [(.long b), (.long a), (.int (own_sign (own_cmp (a + (-9223372036854775808 : Int64)) (b + (-9223372036854775808 : Int64)))))])) rfl (by rw [hml]; rfl) (argsL := [(.long a), (.long b)]) (rest := [(.int (own_sign (own_cmp (a + (-9223372036854775808 : Int64)) (b + (-9223372036854775808 : Int64)))))]) (lenOf own_pd1 rfl) rfl (by show 2 * 0 + _ ≤ _; exact Nat.le_of_eq rfl) (hb hby at_88) (fun _ _ => ⟨rfl, e6, (by decide : 2 + 0 ≤ _), (by decide : 2 + 0 ≤ _)⟩)
    dsimp only [Pt.U, Pt.locs, Pt.cells, Pt.slots] at X7 l7 y7 z7 st7 hQ7
    subst l7 y7 z7
    obtain ⟨rfl, N7q, e7⟩ := hQ7
    have N7 := Fr.app N6 N7q
    refine own_w (T' := T7) (g' := (mkF m 91 #[.val (.long a), .second, .val (.long b0), .second, .val (.int mo), .val (.int (mo &&& (3 : Int32))), .val (.long b), .second, .val (.ref b1), .val (.ref b3), .val (.int (own_cmp (a + (-9223372036854775808 : Int64)) (b + (-9223372036854775808 : Int64))))] [(.int (own_uo a b)), (.int (own_sign (own_cmp (a + (-9223372036854775808 : Int64)) (b + (-9223372036854775808 : Int64)))))])) st7 ?_
    refine own_w (T' := T7) (g' := (mkF m 94 #[.val (.long a), .second, .val (.long b0), .second, .val (.int mo), .val (.int (mo &&& (3 : Int32))), .val (.long b), .second, .val (.ref b1), .val (.ref b3), .val (.int (own_cmp (a + (-9223372036854775808 : Int64)) (b + (-9223372036854775808 : Int64))))] [])) (fun _ k_ => XS.icmpNo X7.here hx rfl (hb hby at_91) rfl (teq (own_law a b)).2 k_) ?_
    refine own_w (T' := T7) (g' := (mkF m 95 #[.val (.long a), .second, .val (.long b0), .second, .val (.int mo), .val (.int (mo &&& (3 : Int32))), .val (.long b), .second, .val (.ref b1), .val (.ref b3), .val (.int (own_cmp (a + (-9223372036854775808 : Int64)) (b + (-9223372036854775808 : Int64))))] [(.int (1 : Int32))])) (fun _ k_ => XS.iconst X7.here hx rfl (hb hby at_94) k_) ?_
    refine own_w (T' := T7) (g' := (mkF m 99 #[.val (.long a), .second, .val (.long b0), .second, .val (.int mo), .val (.int (mo &&& (3 : Int32))), .val (.long b), .second, .val (.ref b1), .val (.ref b3), .val (.int (own_cmp (a + (-9223372036854775808 : Int64)) (b + (-9223372036854775808 : Int64))))] [(.int (1 : Int32))])) (fun _ k_ => XS.goto X7.here hx rfl (pc0 := 95) (pc' := 99) rfl (hb hby at_95) (by decide) (by decide) k_) ?_
    obtain ⟨fs, hr, hrun, hended, hW, hsame⟩ := X7.leave (v := some (.int (1 : Int32))) (fun h => by rw [Bd.returns] at h; cases h)
    exact ⟨_, _, retOut X7 hx Bd.returns rfl (Or.inl ⟨rfl, Or.inr (Or.inl rfl), _, rfl⟩) (hb hby at_99) hr, hrun, hended, _, _, rfl, (by show own_Q0 Z a b0 mo h0 n0 _ T7.heap _; rw [e7]; exact ⟨rfl, N7⟩), ⟨_, rfl⟩, hW, hsame.mono (by decide) (by decide)⟩
  by_cases hc8 : (mo &&& (3 : Int32)) = (0 : Int32)
  · refine own_w (T' := s₁) (g' := (mkF m 11 #[.val (.long a), .second, .val (.long b0), .second, .val (.int mo), .val (.int (mo &&& (3 : Int32))), .unset, .unset, .unset, .unset, .unset] [])) (fun _ k_ => XS.ifNo X0.here hx rfl (hb hby at_8) rfl ((if0 _ _).trans (teq hc8).2) k_) ?_
    refine own_w (T' := s₁) (g' := (mkF m 12 #[.val (.long a), .second, .val (.long b0), .second, .val (.int mo), .val (.int (mo &&& (3 : Int32))), .unset, .unset, .unset, .unset, .unset] [(.long b0)])) (fun _ k_ => XS.lloadN X0.here hx rfl (hb hby at_11) rfl k_) ?_
    refine own_w (T' := s₁) (g' := (mkF m 14 #[.val (.long a), .second, .val (.long b0), .second, .val (.int mo), .val (.int (mo &&& (3 : Int32))), .val (.long b0), .second, .unset, .unset, .unset] [])) (fun _ k_ => XS.lstore X0.here hx rfl (hb hby at_12) rfl (l' := #[.val (.long a), .second, .val (.long b0), .second, .val (.int mo), .val (.int (mo &&& (3 : Int32))), .val (.long b0), .second, .unset, .unset, .unset]) rfl k_) ?_
    refine own_w (T' := s₁) (g' := (mkF m 50 #[.val (.long a), .second, .val (.long b0), .second, .val (.int mo), .val (.int (mo &&& (3 : Int32))), .val (.long b0), .second, .unset, .unset, .unset] [])) (fun _ k_ => XS.goto X0.here hx rfl (pc0 := 14) (pc' := 50) rfl (hb hby at_14) (by decide) (by decide) k_) ?_
    exact J50 _ _ X0 e0 N0 b0
  · refine own_w (T' := s₁) (g' := (mkF m 17 #[.val (.long a), .second, .val (.long b0), .second, .val (.int mo), .val (.int (mo &&& (3 : Int32))), .unset, .unset, .unset, .unset, .unset] [])) (fun _ k_ => XS.ifYes X0.here hx rfl (pc0 := 8) (pc' := 17) rfl (hb hby at_8) rfl ((if0 _ _).trans (feq hc8).2) (by decide) (by decide) k_) ?_
    refine own_w (T' := s₁) (g' := (mkF m 19 #[.val (.long a), .second, .val (.long b0), .second, .val (.int mo), .val (.int (mo &&& (3 : Int32))), .unset, .unset, .unset, .unset, .unset] [(.int (mo &&& (3 : Int32)))])) (fun _ k_ => XS.iload X0.here hx rfl (hb hby at_17) rfl k_) ?_
    refine own_w (T' := s₁) (g' := (mkF m 20 #[.val (.long a), .second, .val (.long b0), .second, .val (.int mo), .val (.int (mo &&& (3 : Int32))), .unset, .unset, .unset, .unset, .unset] [(.int (1 : Int32)), (.int (mo &&& (3 : Int32)))])) (fun _ k_ => XS.iconst X0.here hx rfl (hb hby at_19) k_) ?_
    by_cases hc20 : (mo &&& (3 : Int32)) = (1 : Int32)
    · refine own_w (T' := s₁) (g' := (mkF m 23 #[.val (.long a), .second, .val (.long b0), .second, .val (.int mo), .val (.int (mo &&& (3 : Int32))), .unset, .unset, .unset, .unset, .unset] [])) (fun _ k_ => XS.icmpNo X0.here hx rfl (hb hby at_20) rfl (teq hc20).2 k_) ?_
      refine own_w (T' := s₁) (g' := (mkF m 24 #[.val (.long a), .second, .val (.long b0), .second, .val (.int mo), .val (.int (mo &&& (3 : Int32))), .unset, .unset, .unset, .unset, .unset] [(.long a)])) (fun _ k_ => XS.lloadN X0.here hx rfl (hb hby at_23) rfl k_) ?_
      refine own_w (T' := s₁) (g' := (mkF m 26 #[.val (.long a), .second, .val (.long b0), .second, .val (.int mo), .val (.int (mo &&& (3 : Int32))), .val (.long a), .second, .unset, .unset, .unset] [])) (fun _ k_ => XS.lstore X0.here hx rfl (hb hby at_24) rfl (l' := #[.val (.long a), .second, .val (.long b0), .second, .val (.int mo), .val (.int (mo &&& (3 : Int32))), .val (.long a), .second, .unset, .unset, .unset]) rfl k_) ?_
      refine own_w (T' := s₁) (g' := (mkF m 50 #[.val (.long a), .second, .val (.long b0), .second, .val (.int mo), .val (.int (mo &&& (3 : Int32))), .val (.long a), .second, .unset, .unset, .unset] [])) (fun _ k_ => XS.goto X0.here hx rfl (pc0 := 26) (pc' := 50) rfl (hb hby at_26) (by decide) (by decide) k_) ?_
      exact J50 _ _ X0 e0 N0 a
    · refine own_w (T' := s₁) (g' := (mkF m 29 #[.val (.long a), .second, .val (.long b0), .second, .val (.int mo), .val (.int (mo &&& (3 : Int32))), .unset, .unset, .unset, .unset, .unset] [])) (fun _ k_ => XS.icmpYes X0.here hx rfl (pc0 := 20) (pc' := 29) rfl (hb hby at_20) rfl (feq hc20).2 (by decide) (by decide) k_) ?_
      refine own_w (T' := s₁) (g' := (mkF m 31 #[.val (.long a), .second, .val (.long b0), .second, .val (.int mo), .val (.int (mo &&& (3 : Int32))), .unset, .unset, .unset, .unset, .unset] [(.int (mo &&& (3 : Int32)))])) (fun _ k_ => XS.iload X0.here hx rfl (hb hby at_29) rfl k_) ?_
      refine own_w (T' := s₁) (g' := (mkF m 32 #[.val (.long a), .second, .val (.long b0), .second, .val (.int mo), .val (.int (mo &&& (3 : Int32))), .unset, .unset, .unset, .unset, .unset] [(.int (2 : Int32)), (.int (mo &&& (3 : Int32)))])) (fun _ k_ => XS.iconst X0.here hx rfl (hb hby at_31) k_) ?_
      by_cases hc32 : (mo &&& (3 : Int32)) = (2 : Int32)
      · refine own_w (T' := s₁) (g' := (mkF m 35 #[.val (.long a), .second, .val (.long b0), .second, .val (.int mo), .val (.int (mo &&& (3 : Int32))), .unset, .unset, .unset, .unset, .unset] [])) (fun _ k_ => XS.icmpNo X0.here hx rfl (hb hby at_32) rfl (teq hc32).2 k_) ?_
        refine own_w (T' := s₁) (g' := (mkF m 36 #[.val (.long a), .second, .val (.long b0), .second, .val (.int mo), .val (.int (mo &&& (3 : Int32))), .unset, .unset, .unset, .unset, .unset] [(.long a)])) (fun _ k_ => XS.lloadN X0.here hx rfl (hb hby at_35) rfl k_) ?_
        refine own_w (T' := s₁) (g' := (mkF m 39 #[.val (.long a), .second, .val (.long b0), .second, .val (.int mo), .val (.int (mo &&& (3 : Int32))), .unset, .unset, .unset, .unset, .unset] [(.long (-9223372036854775808 : Int64)), (.long a)])) (X0.ldc2Long hx hown (mvT hZ (hw _ (List.mem_of_getElem? (i := 36) rfl))) (g := (mkF m 36 #[.val (.long a), .second, .val (.long b0), .second, .val (.int mo), .val (.int (mo &&& (3 : Int32))), .unset, .unset, .unset, .unset, .unset] [(.long a)])) rfl (hb hby at_36)) ?_
        refine own_w (T' := s₁) (g' := (mkF m 40 #[.val (.long a), .second, .val (.long b0), .second, .val (.int mo), .val (.int (mo &&& (3 : Int32))), .unset, .unset, .unset, .unset, .unset] [(.long (a ^^^ (-9223372036854775808 : Int64)))])) (fun _ k_ => XS.lxor X0.here hx rfl (hb hby at_39) rfl k_) ?_
        refine own_w (T' := s₁) (g' := (mkF m 42 #[.val (.long a), .second, .val (.long b0), .second, .val (.int mo), .val (.int (mo &&& (3 : Int32))), .val (.long (a ^^^ (-9223372036854775808 : Int64))), .second, .unset, .unset, .unset] [])) (fun _ k_ => XS.lstore X0.here hx rfl (hb hby at_40) rfl (l' := #[.val (.long a), .second, .val (.long b0), .second, .val (.int mo), .val (.int (mo &&& (3 : Int32))), .val (.long (a ^^^ (-9223372036854775808 : Int64))), .second, .unset, .unset, .unset]) rfl k_) ?_
        refine own_w (T' := s₁) (g' := (mkF m 50 #[.val (.long a), .second, .val (.long b0), .second, .val (.int mo), .val (.int (mo &&& (3 : Int32))), .val (.long (a ^^^ (-9223372036854775808 : Int64))), .second, .unset, .unset, .unset] [])) (fun _ k_ => XS.goto X0.here hx rfl (pc0 := 42) (pc' := 50) rfl (hb hby at_42) (by decide) (by decide) k_) ?_
        exact J50 _ _ X0 e0 N0 (a ^^^ (-9223372036854775808 : Int64))
      · refine own_w (T' := s₁) (g' := (mkF m 45 #[.val (.long a), .second, .val (.long b0), .second, .val (.int mo), .val (.int (mo &&& (3 : Int32))), .unset, .unset, .unset, .unset, .unset] [])) (fun _ k_ => XS.icmpYes X0.here hx rfl (pc0 := 32) (pc' := 45) rfl (hb hby at_32) rfl (feq hc32).2 (by decide) (by decide) k_) ?_
        refine own_w (T' := s₁) (g' := (mkF m 46 #[.val (.long a), .second, .val (.long b0), .second, .val (.int mo), .val (.int (mo &&& (3 : Int32))), .unset, .unset, .unset, .unset, .unset] [(.long a)])) (fun _ k_ => XS.lloadN X0.here hx rfl (hb hby at_45) rfl k_) ?_
        refine own_w (T' := s₁) (g' := (mkF m 47 #[.val (.long a), .second, .val (.long b0), .second, .val (.int mo), .val (.int (mo &&& (3 : Int32))), .unset, .unset, .unset, .unset, .unset] [(.long (1 : Int64)), (.long a)])) (fun _ k_ => XS.lconst X0.here hx rfl (hb hby at_46) k_) ?_
        refine own_w (T' := s₁) (g' := (mkF m 48 #[.val (.long a), .second, .val (.long b0), .second, .val (.int mo), .val (.int (mo &&& (3 : Int32))), .unset, .unset, .unset, .unset, .unset] [(.long (a + (1 : Int64)))])) (fun _ k_ => XS.ladd X0.here hx rfl (hb hby at_47) rfl k_) ?_
        refine own_w (T' := s₁) (g' := (mkF m 50 #[.val (.long a), .second, .val (.long b0), .second, .val (.int mo), .val (.int (mo &&& (3 : Int32))), .val (.long (a + (1 : Int64))), .second, .unset, .unset, .unset] [])) (fun _ k_ => XS.lstore X0.here hx rfl (hb hby at_48) rfl (l' := #[.val (.long a), .second, .val (.long b0), .second, .val (.int mo), .val (.int (mo &&& (3 : Int32))), .val (.long (a + (1 : Int64))), .second, .unset, .unset, .unset]) rfl k_) ?_
        exact J50 _ _ X0 e0 N0 (a + (1 : Int64))
set_option maxRecDepth 65536 in
set_option maxHeartbeats 40000000 in
theorem comes_1 {Post : Tables → Env → Array Value → State → Outcome → State → Prop} (hpost : ∀ tb e args s v u, (limb_1_1.after args s (.returned v) u = true ∧ limb_1_2.after args s (.returned v) u = true ∧ True) → FrameEnd s (.returned v) u (Jvm.fieldLocs frame_1_writes args s ++ Jvm.arrayLocs frame_1_arrays args s ++ Jvm.staticLocs frame_1_statics s) 16 128 → Post tb e args s (.returned v) u) :
    ArmFor flags0 classFile x code maxLocals ret World_1 tables_1 room_1 Calls_1 rest_1 Pre_1 Post := by
  intro l hfl _ _ p e ha hc hk s m args below hf hA hF happ hP
  obtain ⟨hcalls, hrest, hpre⟩ := hP
  obtain ⟨-, -, -, hnamed, -, -, -, hat⟩ := (Spec.applies_iff hf).mp happ
  obtain ⟨hg, hn⟩ := and_e (Cond.before_iff.mp (show (Jvm.Cond.and given_1 narrow_1).before args s = true from hpre))
  obtain ⟨hcount, hr0⟩ := and_e hg
  obtain ⟨ga0, hr1⟩ := and_e hr0
  obtain ⟨ga1, hr2⟩ := and_e hr1
  have ga2 := hr2
  obtain ⟨w0, w1, w2, rfl⟩ : ∃ w0 w1 w2 : Value, args = #[w0, w1, w2] := by
    have hs : args.size = 3 := by simpa [Cond.value, given_1] using hcount
    obtain ⟨L⟩ := args
    match L, hs with
    | [w0, w1, w2], _ => exact ⟨w0, w1, w2, rfl⟩
  have hw := fun d (hd : d ∈ tables_1) => atoms_spec (ws := Jvm.Cond.code x code maxLocals ret :: tables_1) hat d (List.mem_cons_of_mem _ hd)
  obtain ⟨i0, ei0⟩ := isL_v ga0
  obtain rfl : w0 = (.long i0) := Option.some.inj ei0
  obtain ⟨i1, ei1⟩ := isL_v ga1
  obtain rfl : w1 = (.long i1) := Option.some.inj ei1
  obtain ⟨i2, ei2⟩ := is_v ga2
  obtain rfl : w2 = (.int i2) := Option.some.inj ei2
  obtain ⟨n, o, h1, h2, h3, _, L, rfl, ⟨rfl, N⟩, hq⟩ := own_rm0 l s _ hw tables_1 i0 i1 i2 s.heap s.heap.size (Nat.le_refl _) p e ha hc hk s m _ below hf ((Spec.applies_iff_loose hf).mp happ).1 ⟨rfl, State.Warmed39.refl s, rfl⟩ trivial
  refine ⟨n, _, h1, h2, h3, hpost _ _ _ _ _ _ ⟨Cond.after_iff.mpr rfl, Cond.after_iff.mpr (eq_i res_at (Term.int_eval (1)) rfl), trivial⟩ ⟨hq.1, hq.2.1, (hq.2.2.sift fun y hy => Or.inr (N y hy)).mono (by decide) (by decide)⟩⟩
theorem main_1_1 : Claimed_1_1 := comes_1 fun _ _ _ _ _ _ h hF => ⟨h.1, hF⟩
theorem main_1_2 : Claimed_1_2 := comes_1 fun _ _ _ _ _ _ h hF => ⟨h.2.1, hF⟩
end Jvm.Pilot.@@N@@
namespace Jvm.Pilot.@@N@@
open Jvm Jvm.ClassFile Sem Op Lib Jvm.Free Jvm.Stand Jvm.Pilot.@@N@@.Jvm.D
/-! MADE BY PROGRAM (witnessworld.py) out of the Statement's table words and the real class files: 15 classes; the members and pool entries that the words name. The judged class is class 1, her method 3. -/
namespace start1
open Jvm.ClassFile
def u (s : String) : CpInfo := .utf8 (stringToUtf16 s)
/-- a pool by its gaps: so many unusable entries, then the entry; so many at the end -/
def gap : Nat → List CpInfo → List CpInfo
  | 0, r => r
  | n + 1, r => .unusable :: gap n r
def poolList (es : List (Nat × CpInfo)) (last : Nat) : List CpInfo := es.foldr (fun e r => gap e.1 (e.2 :: r)) (gap last [])
def pool (es : List (Nat × CpInfo)) (last : Nat) : Array CpInfo := ⟨poolList es last⟩
def fileOf (pool : Array CpInfo) (this : Nat) (attrs : Array Attribute := #[]) (ms : Array MethodInfo := #[]) (fl : Nat := 33) (sup : Nat := 0) (ifs : Array Nat := #[]) (fds : Array FieldInfo := #[]) : ClassFile where
  minorVersion := 0
  majorVersion := 65
  constantPool := pool
  accessFlags := fl
  thisClass := this
  superClass := sup
  interfaces := ifs
  fields := fds
  methods := ms
  attributes := attrs
def plain (name : String) (sup : Option ClassId) : Class where
  name := name
  kind := .ordinary
  loader := none
  accessFlags := 33
  super := sup
  interfaces := #[]
  cf := none
  fields := #[]
  methods := #[]
  instanceTypes := #[]
  staticTypes := #[]
  resolved := #[]
  callSites := []
  init := .initialized
  statics := none
  mirror := none

def pool0 : Array CpInfo := pool [(5, u "<init>"), (0, u "()V"), (1, .class_ 10), (1, u "java/lang/Object")] 113

def k0c0 : Code := { maxStack := 0, maxLocals := 1, code := object_method_1_code, exceptionTable := #[], attributes := #[] }
def k0m0 : Method := { name := "<init>", desc := "()V", sig := { parameters := [], returnType := none }, accessFlags := 1, code := some k0c0 }
/-- java/lang/Object -/
def k0 : Class := { plain "java/lang/Object" none with
  accessFlags := 33
  interfaces := #[]
  cf := some (fileOf pool0 8 #[] #[{ accessFlags := 1, nameIndex := 5, descriptorIndex := 6, attributes := #[] }] 33 0 #[] #[])
  fields := #[]
  methods := #[k0m0]
  instanceTypes := #[]
  staticTypes := #[]
  resolved := Array.replicate 124 none
  statics := none }

def pool1 : Array CpInfo := pool [(2, .class_ 4), (1, u "java/lang/Object"), (0, u "<init>"), (0, u "()V"), (2, .long 9223372036854775808), (1, .class_ 12), (0, u "com/example/pagequilt/pagequilt/MemberNumber"), (0, .methodref 11 14), (0, .nameAndType 5 15), (0, u "(J)V"), (0, .methodref 11 17), (0, .nameAndType 18 19), (0, u "compareTo"), (0, u "(Lcom/example/pagequilt/pagequilt/MemberNumber;)I"), (0, .methodref 21 22), (0, .class_ 23), (0, .nameAndType 24 25), (0, u "com/example/pagequilt/pagequilt/MemberNumberCompareToPinLaw"), (0, u "sign"), (0, u "(I)I"), (0, .methodref 21 27), (0, .nameAndType 28 29), (0, u "unsignedOrder"), (0, u "(JJ)I"), (3, u "law"), (0, u "(JJI)Z")] 2

def k1m0 : Method := { name := "<init>", desc := "()V", sig := { parameters := [], returnType := none }, accessFlags := 1, code := none }
def k1c1 : Code := { maxStack := 1, maxLocals := 1, code := method_2_code, exceptionTable := #[], attributes := #[] }
def k1m1 : Method := { name := "sign", desc := "(I)I", sig := { parameters := [.int], returnType := some .int }, accessFlags := 10, code := some k1c1 }
def k1c2 : Code := { maxStack := 4, maxLocals := 6, code := method_3_code, exceptionTable := #[], attributes := #[] }
def k1m2 : Method := { name := "unsignedOrder", desc := "(JJ)I", sig := { parameters := [.long, .long], returnType := some .int }, accessFlags := 10, code := some k1c2 }
def k1c3 : Code := { maxStack := 5, maxLocals := 11, code := code, exceptionTable := #[], attributes := #[] }
def k1m3 : Method := { name := "law", desc := "(JJI)Z", sig := { parameters := [.long, .long, .int], returnType := some .boolean }, accessFlags := 9, code := some k1c3 }
/-- com/example/pagequilt/pagequilt/MemberNumberCompareToPinLaw -/
def k1 : Class := { plain "com/example/pagequilt/pagequilt/MemberNumberCompareToPinLaw" (some 0) with
  accessFlags := 49
  interfaces := #[]
  cf := some (fileOf pool1 21 #[] #[{ accessFlags := 1, nameIndex := 5, descriptorIndex := 6, attributes := #[] }, { accessFlags := 10, nameIndex := 24, descriptorIndex := 25, attributes := #[] }, { accessFlags := 10, nameIndex := 28, descriptorIndex := 29, attributes := #[] }, { accessFlags := 9, nameIndex := 33, descriptorIndex := 34, attributes := #[] }] 49 2 #[] #[])
  fields := #[]
  methods := #[k1m0, k1m1, k1m2, k1m3]
  instanceTypes := #[]
  staticTypes := #[]
  resolved := Array.replicate 37 none
  statics := none }

def pool2 : Array CpInfo := pool [(1, .methodref 2 3), (0, .class_ 4), (0, .nameAndType 5 6), (0, u "java/lang/Object"), (0, u "<init>"), (0, u "()V"), (0, .class_ 8), (0, u "java/lang/Record")] 13

def k2c0 : Code := { maxStack := 1, maxLocals := 1, code := jdk_30_method_1_code, exceptionTable := #[], attributes := #[] }
def k2m0 : Method := { name := "<init>", desc := "()V", sig := { parameters := [], returnType := none }, accessFlags := 4, code := some k2c0 }
/-- java/lang/Record -/
def k2 : Class := { plain "java/lang/Record" (some 0) with
  accessFlags := 1057
  interfaces := #[]
  cf := some (fileOf pool2 7 #[] #[{ accessFlags := 4, nameIndex := 5, descriptorIndex := 6, attributes := #[] }] 1057 2 #[] #[])
  fields := #[]
  methods := #[k2m0]
  instanceTypes := #[]
  staticTypes := #[]
  resolved := Array.replicate 22 none
  statics := none }

def pool3 : Array CpInfo := pool [(1, .class_ 2), (0, u "java/lang/Comparable"), (0, .class_ 4), (0, u "java/lang/Object")] 7

/-- java/lang/Comparable -/
def k3 : Class := { plain "java/lang/Comparable" (some 0) with
  accessFlags := 1537
  interfaces := #[]
  cf := some (fileOf pool3 1 #[] #[] 1537 3 #[] #[])
  fields := #[]
  methods := #[]
  instanceTypes := #[]
  staticTypes := #[]
  resolved := Array.replicate 12 none
  statics := none }

def pool4 : Array CpInfo := pool [(1, .methodref 2 3), (0, .class_ 4), (0, .nameAndType 5 6), (0, u "java/lang/Record"), (0, u "<init>"), (0, u "()V"), (0, .fieldref 8 9), (0, .class_ 10), (0, .nameAndType 11 12), (0, u "com/example/pagequilt/pagequilt/MemberNumber"), (0, u "bits"), (0, u "J"), (3, .class_ 18), (1, u "java/lang/Long"), (5, .methodref 16 25), (0, .nameAndType 26 27), (0, u "compareUnsigned"), (0, u "(JJ)I"), (2, u "compareTo"), (0, u "(Lcom/example/pagequilt/pagequilt/MemberNumber;)I"), (7, .class_ 40), (0, u "java/lang/Comparable"), (0, u "(J)V")] 32

def k4c0 : Code := { maxStack := 3, maxLocals := 3, code := prog_31_method_1_code, exceptionTable := #[], attributes := #[] }
def k4m0 : Method := { name := "<init>", desc := "(J)V", sig := { parameters := [.long], returnType := none }, accessFlags := 0, code := some k4c0 }
def k4c1 : Code := { maxStack := 4, maxLocals := 2, code := prog_31_method_3_code, exceptionTable := #[], attributes := #[] }
def k4m1 : Method := { name := "compareTo", desc := "(Lcom/example/pagequilt/pagequilt/MemberNumber;)I", sig := { parameters := [(.object "com/example/pagequilt/pagequilt/MemberNumber")], returnType := some .int }, accessFlags := 1, code := some k4c1 }
/-- com/example/pagequilt/pagequilt/MemberNumber -/
def k4 : Class := { plain "com/example/pagequilt/pagequilt/MemberNumber" (some 2) with
  accessFlags := 48
  interfaces := #[3]
  cf := some (fileOf pool4 8 #[] #[{ accessFlags := 0, nameIndex := 5, descriptorIndex := 41, attributes := #[] }, { accessFlags := 1, nameIndex := 30, descriptorIndex := 31, attributes := #[] }] 48 2 #[39] #[{ accessFlags := 18, nameIndex := 11, descriptorIndex := 12, attributes := #[] }])
  fields := #[{ name := "bits", type := .long, accessFlags := 18, slot := 0, constantValue := 0 }]
  methods := #[k4m0, k4m1]
  instanceTypes := #[.long]
  staticTypes := #[]
  resolved := Array.replicate 74 none
  statics := none }

def pool5 : Array CpInfo := pool [(1, .class_ 2), (0, u "java/io/Serializable"), (0, .class_ 4), (0, u "java/lang/Object")] 2

/-- java/io/Serializable -/
def k5 : Class := { plain "java/io/Serializable" (some 0) with
  accessFlags := 1537
  interfaces := #[]
  cf := some (fileOf pool5 1 #[] #[] 1537 3 #[] #[])
  fields := #[]
  methods := #[]
  instanceTypes := #[]
  staticTypes := #[]
  resolved := Array.replicate 7 none
  statics := none }

def pool6 : Array CpInfo := pool [(2, .class_ 4), (1, u "java/lang/Object"), (0, u "<init>"), (0, u "()V"), (1, .class_ 10), (1, u "java/lang/Number"), (2, .class_ 14), (0, u "java/io/Serializable"), (0, u "serialVersionUID"), (0, u "J")] 20

def k6m0 : Method := { name := "<init>", desc := "()V", sig := { parameters := [], returnType := none }, accessFlags := 1, code := none }
/-- java/lang/Number -/
def k6 : Class := { plain "java/lang/Number" (some 0) with
  accessFlags := 1057
  interfaces := #[5]
  cf := some (fileOf pool6 8 #[] #[{ accessFlags := 1, nameIndex := 5, descriptorIndex := 6, attributes := #[] }] 1057 2 #[13] #[{ accessFlags := 26, nameIndex := 15, descriptorIndex := 16, attributes := #[] }])
  fields := #[{ name := "serialVersionUID", type := .long, accessFlags := 26, slot := 0, constantValue := 0 }]
  methods := #[k6m0]
  instanceTypes := #[]
  staticTypes := #[.long]
  resolved := Array.replicate 37 none
  statics := none }

def pool7 : Array CpInfo := pool [(1, .class_ 2), (0, u "java/lang/constant/Constable"), (0, .class_ 4), (0, u "java/lang/Object")] 6

/-- java/lang/constant/Constable -/
def k7 : Class := { plain "java/lang/constant/Constable" (some 0) with
  accessFlags := 1537
  interfaces := #[]
  cf := some (fileOf pool7 1 #[] #[] 1537 3 #[] #[])
  fields := #[]
  methods := #[]
  instanceTypes := #[]
  staticTypes := #[]
  resolved := Array.replicate 11 none
  statics := none }

def pool8 : Array CpInfo := pool [(1, .class_ 2), (0, u "java/lang/constant/ConstantDesc"), (0, .class_ 4), (0, u "java/lang/Object")] 32

/-- java/lang/constant/ConstantDesc -/
def k8 : Class := { plain "java/lang/constant/ConstantDesc" (some 0) with
  accessFlags := 1537
  interfaces := #[]
  cf := some (fileOf pool8 1 #[] #[] 1537 3 #[] #[])
  fields := #[]
  methods := #[]
  instanceTypes := #[]
  staticTypes := #[]
  resolved := Array.replicate 37 none
  statics := none }

def pool9 : Array CpInfo := pool [(1, .class_ 2), (0, u "java/lang/Long"), (165, .long 9223372036854775808), (66, .class_ 237), (1, u "java/lang/Long$LongCache"), (33, .class_ 272), (0, u "java/lang/Number"), (2, u "value"), (0, u "J"), (25, .methodref 1 303), (0, .nameAndType 304 305), (0, u "compare"), (0, u "(JJ)I"), (55, u "TYPE"), (0, u "Ljava/lang/Class;"), (0, .class_ 364), (0, u "java/lang/Comparable"), (0, .class_ 366), (0, u "java/lang/constant/Constable"), (0, .class_ 368), (0, u "java/lang/constant/ConstantDesc"), (0, u "MIN_VALUE"), (1, u "MAX_VALUE"), (4, u "SIZE"), (0, u "I"), (1, u "BYTES"), (1, u "serialVersionUID"), (87, u "compareUnsigned")] 54

def k9c0 : Code := { maxStack := 4, maxLocals := 4, code := jdk_35_method_42_code, exceptionTable := #[], attributes := #[] }
def k9m0 : Method := { name := "compare", desc := "(JJ)I", sig := { parameters := [.long, .long], returnType := some .int }, accessFlags := 9, code := some k9c0 }
def k9c1 : Code := { maxStack := 6, maxLocals := 4, code := jdk_35_method_43_code, exceptionTable := #[], attributes := #[] }
def k9m1 : Method := { name := "compareUnsigned", desc := "(JJ)I", sig := { parameters := [.long, .long], returnType := some .int }, accessFlags := 9, code := some k9c1 }
/-- java/lang/Long -/
def k9 : Class := { plain "java/lang/Long" (some 6) with
  accessFlags := 49
  interfaces := #[3, 7, 8]
  cf := some (fileOf pool9 1 #[.nestMembers #[235]] #[{ accessFlags := 9, nameIndex := 304, descriptorIndex := 305, attributes := #[] }, { accessFlags := 9, nameIndex := 469, descriptorIndex := 305, attributes := #[] }] 49 271 #[363, 365, 367] #[{ accessFlags := 25, nameIndex := 369, descriptorIndex := 276, attributes := #[] }, { accessFlags := 25, nameIndex := 371, descriptorIndex := 276, attributes := #[] }, { accessFlags := 25, nameIndex := 361, descriptorIndex := 362, attributes := #[] }, { accessFlags := 18, nameIndex := 275, descriptorIndex := 276, attributes := #[] }, { accessFlags := 25, nameIndex := 376, descriptorIndex := 377, attributes := #[] }, { accessFlags := 25, nameIndex := 379, descriptorIndex := 377, attributes := #[] }, { accessFlags := 26, nameIndex := 381, descriptorIndex := 276, attributes := #[] }])
  fields := #[{ name := "MIN_VALUE", type := .long, accessFlags := 25, slot := 0, constantValue := 0 }, { name := "MAX_VALUE", type := .long, accessFlags := 25, slot := 1, constantValue := 0 }, { name := "TYPE", type := (.object "java/lang/Class"), accessFlags := 25, slot := 2, constantValue := 0 }, { name := "value", type := .long, accessFlags := 18, slot := 0, constantValue := 0 }, { name := "SIZE", type := .int, accessFlags := 25, slot := 3, constantValue := 0 }, { name := "BYTES", type := .int, accessFlags := 25, slot := 4, constantValue := 0 }, { name := "serialVersionUID", type := .long, accessFlags := 26, slot := 5, constantValue := 0 }]
  methods := #[k9m0, k9m1]
  instanceTypes := #[.long]
  staticTypes := #[.long, .long, (.object "java/lang/Class"), .int, .int, .long]
  resolved := Array.replicate 524 none
  statics := none }

def pool10 : Array CpInfo := pool [(1, u "java/lang/Cloneable"), (0, .class_ 1), (0, u "java/lang/Object"), (0, .class_ 3)] 3

/-- java/lang/Cloneable -/
def k10 : Class := { plain "java/lang/Cloneable" (some 0) with
  accessFlags := 1537
  interfaces := #[]
  cf := some (fileOf pool10 2 #[] #[] 1537 4 #[] #[])
  fields := #[]
  methods := #[]
  instanceTypes := #[]
  staticTypes := #[]
  resolved := Array.replicate 8 none
  statics := none }

/-- the primitive byte -/
def k11 : Class := { plain "byte" none with kind := .primitive 'B', accessFlags := 0x411 }
/-- [B -/
def k12 : Class := { plain "[B" (some 0) with kind := .array 11 .byte, interfaces := #[10, 5], accessFlags := 1041 }

/-- the primitive int -/
def k13 : Class := { plain "int" none with kind := .primitive 'I', accessFlags := 0x411 }
/-- [I -/
def k14 : Class := { plain "[I" (some 0) with kind := .array 13 .int, interfaces := #[10, 5], accessFlags := 1041 }

def heap : Heap := #[]
def classes : Array Class := #[k0, k1, k2, k3, k4, k5, k6, k7, k8, k9, k10, k11, k12, k13, k14]
def interned : List (Array UInt16 × Addr) := []
def slotsUsed : Nat := 0
def theMethod : MethodId := ⟨1, 3⟩
def args0 : Array Value := #[.long 5, .long 7, .int 0]
def aboutOver (below : List Frame) : State where
  vm := { classes := classes, interned := interned.toArray }
  heap := heap
  slotsUsed := slotsUsed
  threads := #[{ frames := .invoking theMethod args0 :: below }]
def below0 : List Frame := [.native { method := ⟨0, 0⟩, args := #[] }]
def about1 : State := aboutOver below0
def p0 : Program := .bare "" "" ""
def e0 : Env := launch0.env 0 0 0
theorem w_frames : about1.frames = Frame.invoking theMethod args0 :: below0 := rfl
set_option maxRecDepth 65536 in
theorem w_args : argsFit about1.vm theMethod args0 = true := by decide +kernel
set_option maxRecDepth 65536 in
theorem w_heap : heapFits about1 = true := by decide +kernel
set_option maxRecDepth 65536 in
theorem w_runnable : about1.curStatus? = some .runnable := by decide +kernel
set_option maxRecDepth 65536 in
theorem w_alone : about1.alone = true := by decide +kernel
set_option maxRecDepth 65536 in
theorem w_named : about1.methodNamed? x = some theMethod := by decide +kernel
set_option maxRecDepth 65536 in
theorem w_hears : about1.hears theMethod below0 = true := by decide +kernel
set_option maxRecDepth 65536 in
theorem w_ripe : about1.ripe theMethod args0 below0 = true := by decide +kernel
theorem w_running : about1.status = .running := rfl
set_option maxRecDepth 65536 in
theorem w_room : about1.hasRoom e0.platform room_1 = true :=
  launch0.hasRoom_least _ room_1 (by decide +kernel) (by decide +kernel) (by decide +kernel) (by decide +kernel) (by decide +kernel) (by decide +kernel)
theorem allAtoms_all (ts : List Jvm.Cond) (a : Array Jvm.Value) (st : Jvm.State) : (allAtoms ts).before a st = ts.all (fun c => c.before a st) := by
  induction ts with
  | nil => rfl
  | cons c t ih =>
    show (Jvm.Cond.and c (allAtoms t)).before a st = _
    rw [Jvm.Cond.before_and, ih, List.all_cons]
def words1 : List Jvm.Cond := Jvm.Cond.code x code maxLocals ret :: tables_1
/-- a 'code' word, met by the world's own term for the bytes: nothing is compared byte by byte -/
theorem code_word {y : MethodName} {bytes : ByteArray} {mx : Nat} {rt : Option FieldType} {a : Array Value} {s : State} {m : MethodId} {meth : Method} {c : Code} (h1 : s.methodNamed? y = some m) (h2 : s.vm.method? m = some meth) (h3 : meth.code = some c) (h4 : c.code = bytes)
    (h5 : (c.maxLocals == mx && c.exceptionTable.isEmpty && decide (c.maxStack ≤ mostOperands) && decide (meth.sig.returnType = rt) && !meth.locks && decide (parseMethodDescriptor y.desc = some meth.sig)) = true) : (Jvm.Cond.code y bytes mx rt).before a s = true := by
  simp only [Bool.and_eq_true, beq_iff_eq, Bool.not_eq_true', decide_eq_true_eq] at h5
  obtain ⟨⟨⟨⟨⟨g1, g2⟩, g3⟩, g4⟩, g5⟩, g6⟩ := h5
  simp [Cond.before, Cond.holds, Cond.value, h1, h2, h3, h4, g1, g2, g3, g4, g5, g6]
def isCode : Jvm.Cond → Bool
  | .code _ _ _ _ => true
  | _ => false
theorem all_split {L : List Jvm.Cond} {P : Jvm.Cond → Bool} (h1 : L.all (fun c => isCode c || P c) = true) (h2 : ∀ c ∈ L.filter isCode, P c = true) : L.all P = true := by
  refine List.all_eq_true.mpr fun c hc => ?_
  have h := List.all_eq_true.mp h1 c hc
  rcases Bool.eq_false_or_eq_true (isCode c) with hi | hi
  · exact h2 c (List.mem_filter.mpr ⟨hc, hi⟩)
  · simpa [hi] using h
set_option maxRecDepth 65536 in
theorem w_c0 : (Jvm.Cond.code x code maxLocals ret).before args0 about1 = true := code_word (m := ⟨1, 3⟩) (meth := k1m3) (c := k1c3) (by decide +kernel) rfl rfl rfl (by decide +kernel)
set_option maxRecDepth 65536 in
theorem w_c1 : (Jvm.Cond.code ({ cls := "com/example/pagequilt/pagequilt/MemberNumber", name := "<init>", desc := "(J)V" } : Jvm.MethodName) prog_31_method_1_code (3 : Nat) (Option.none : Option Jvm.ClassFile.FieldType)).before args0 about1 = true := code_word (m := ⟨4, 0⟩) (meth := k4m0) (c := k4c0) (by decide +kernel) rfl rfl rfl (by decide +kernel)
set_option maxRecDepth 65536 in
theorem w_c2 : (Jvm.Cond.code ({ cls := "java/lang/Record", name := "<init>", desc := "()V" } : Jvm.MethodName) jdk_30_method_1_code (1 : Nat) (Option.none : Option Jvm.ClassFile.FieldType)).before args0 about1 = true := code_word (m := ⟨2, 0⟩) (meth := k2m0) (c := k2c0) (by decide +kernel) rfl rfl rfl (by decide +kernel)
set_option maxRecDepth 65536 in
theorem w_c3 : (Jvm.Cond.code ({ cls := "java/lang/Object", name := "<init>", desc := "()V" } : Jvm.MethodName) object_method_1_code (1 : Nat) (Option.none : Option Jvm.ClassFile.FieldType)).before args0 about1 = true := code_word (m := ⟨0, 0⟩) (meth := k0m0) (c := k0c0) (by decide +kernel) rfl rfl rfl (by decide +kernel)
set_option maxRecDepth 65536 in
theorem w_c4 : (Jvm.Cond.code ({ cls := "com/example/pagequilt/pagequilt/MemberNumber", name := "compareTo", desc := "(Lcom/example/pagequilt/pagequilt/MemberNumber;)I" } : Jvm.MethodName) prog_31_method_3_code (2 : Nat) (Option.some Jvm.ClassFile.FieldType.int)).before args0 about1 = true := code_word (m := ⟨4, 1⟩) (meth := k4m1) (c := k4c1) (by decide +kernel) rfl rfl rfl (by decide +kernel)
set_option maxRecDepth 65536 in
theorem w_c5 : (Jvm.Cond.code ({ cls := "java/lang/Long", name := "compareUnsigned", desc := "(JJ)I" } : Jvm.MethodName) jdk_35_method_43_code (4 : Nat) (Option.some Jvm.ClassFile.FieldType.int)).before args0 about1 = true := code_word (m := ⟨9, 1⟩) (meth := k9m1) (c := k9c1) (by decide +kernel) rfl rfl rfl (by decide +kernel)
set_option maxRecDepth 65536 in
theorem w_c6 : (Jvm.Cond.code ({ cls := "java/lang/Long", name := "compare", desc := "(JJ)I" } : Jvm.MethodName) jdk_35_method_42_code (4 : Nat) (Option.some Jvm.ClassFile.FieldType.int)).before args0 about1 = true := code_word (m := ⟨9, 0⟩) (meth := k9m0) (c := k9c0) (by decide +kernel) rfl rfl rfl (by decide +kernel)
set_option maxRecDepth 65536 in
theorem w_c7 : (Jvm.Cond.code ({ cls := "com/example/pagequilt/pagequilt/MemberNumberCompareToPinLaw", name := "sign", desc := "(I)I" } : Jvm.MethodName) method_2_code (1 : Nat) (Option.some Jvm.ClassFile.FieldType.int)).before args0 about1 = true := code_word (m := ⟨1, 1⟩) (meth := k1m1) (c := k1c1) (by decide +kernel) rfl rfl rfl (by decide +kernel)
set_option maxRecDepth 65536 in
theorem w_c8 : (Jvm.Cond.code ({ cls := "com/example/pagequilt/pagequilt/MemberNumberCompareToPinLaw", name := "unsignedOrder", desc := "(JJ)I" } : Jvm.MethodName) method_3_code (6 : Nat) (Option.some Jvm.ClassFile.FieldType.int)).before args0 about1 = true := code_word (m := ⟨1, 2⟩) (meth := k1m2) (c := k1c2) (by decide +kernel) rfl rfl rfl (by decide +kernel)
def codes1 : List Jvm.Cond := [Jvm.Cond.code x code maxLocals ret, Jvm.Cond.code ({ cls := "com/example/pagequilt/pagequilt/MemberNumber", name := "<init>", desc := "(J)V" } : Jvm.MethodName) prog_31_method_1_code (3 : Nat) (Option.none : Option Jvm.ClassFile.FieldType), Jvm.Cond.code ({ cls := "java/lang/Record", name := "<init>", desc := "()V" } : Jvm.MethodName) jdk_30_method_1_code (1 : Nat) (Option.none : Option Jvm.ClassFile.FieldType), Jvm.Cond.code ({ cls := "java/lang/Object", name := "<init>", desc := "()V" } : Jvm.MethodName) object_method_1_code (1 : Nat) (Option.none : Option Jvm.ClassFile.FieldType), Jvm.Cond.code ({ cls := "com/example/pagequilt/pagequilt/MemberNumber", name := "compareTo", desc := "(Lcom/example/pagequilt/pagequilt/MemberNumber;)I" } : Jvm.MethodName) prog_31_method_3_code (2 : Nat) (Option.some Jvm.ClassFile.FieldType.int), Jvm.Cond.code ({ cls := "java/lang/Long", name := "compareUnsigned", desc := "(JJ)I" } : Jvm.MethodName) jdk_35_method_43_code (4 : Nat) (Option.some Jvm.ClassFile.FieldType.int), Jvm.Cond.code ({ cls := "java/lang/Long", name := "compare", desc := "(JJ)I" } : Jvm.MethodName) jdk_35_method_42_code (4 : Nat) (Option.some Jvm.ClassFile.FieldType.int), Jvm.Cond.code ({ cls := "com/example/pagequilt/pagequilt/MemberNumberCompareToPinLaw", name := "sign", desc := "(I)I" } : Jvm.MethodName) method_2_code (1 : Nat) (Option.some Jvm.ClassFile.FieldType.int), Jvm.Cond.code ({ cls := "com/example/pagequilt/pagequilt/MemberNumberCompareToPinLaw", name := "unsignedOrder", desc := "(JJ)I" } : Jvm.MethodName) method_3_code (6 : Nat) (Option.some Jvm.ClassFile.FieldType.int)]
set_option maxRecDepth 65536 in
theorem codes_eq : words1.filter isCode = codes1 := rfl
theorem w_codes : ∀ c ∈ words1.filter isCode, c.before args0 about1 = true := by
  rw [codes_eq]
  intro c hc
  simp only [codes1, List.mem_cons, List.not_mem_nil, or_false] at hc
  rcases hc with rfl | rfl | rfl | rfl | rfl | rfl | rfl | rfl | rfl
  · exact w_c0
  · exact w_c1
  · exact w_c2
  · exact w_c3
  · exact w_c4
  · exact w_c5
  · exact w_c6
  · exact w_c7
  · exact w_c8
set_option maxRecDepth 65536 in
theorem w_t1 : (words1.take 24).all (fun c => isCode c || c.before args0 about1) = true := by decide +kernel
set_option maxRecDepth 65536 in
theorem w_t2 : (words1.drop 24).all (fun c => isCode c || c.before args0 about1) = true := by decide +kernel
theorem w_tables : (allAtoms (Jvm.Cond.code x code maxLocals ret :: tables_1)).before args0 about1 = true := by
  rw [allAtoms_all]
  show words1.all (fun c => c.before args0 about1) = true
  refine all_split ?_ w_codes
  rw [← List.take_append_drop 24 words1, List.all_append, w_t1, w_t2]
  rfl
set_option maxRecDepth 65536 in
theorem w_case : (Jvm.Cond.and given_1 narrow_1).before args0 about1 = true := by decide +kernel
theorem w_applies : (headSpec (Jvm.Cond.code x code maxLocals ret :: tables_1) room_1).applies x e0.platform about1 = true :=
  (Spec.applies_iff w_frames).mpr ⟨w_running, w_runnable, w_alone, w_named, w_hears, w_ripe, w_room, w_tables⟩
theorem atStart : AtStart classFile x code maxLocals ret World_1 tables_1 room_1 Calls_1 rest_1 Pre_1 launch0 p0 e0 about1 theMethod args0 below0 :=
  ⟨lists_1, trivial, launch0.admits_env _ _ _, launch0.least_env, fairChoices_fair.cas, fairChoices_fair.clock, w_frames, w_args, w_heap, w_applies, trivial, trivial, w_case⟩
end start1
theorem witness_1 : WitnessClaimed_1 := ⟨start1.p0, start1.e0, start1.about1, start1.theMethod, start1.args0, start1.below0, start1.atStart⟩
end Jvm.Pilot.@@N@@
