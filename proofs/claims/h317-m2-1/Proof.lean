import JvmDerived
import JvmDerived.Pilot.@@N@@Statement
import JvmDerived.Pilot.@@N@@Code
set_option linter.unusedVariables false
set_option linter.unusedSimpArgs false
namespace Jvm.Pilot.@@N@@
open Jvm Jvm.ClassFile Sem Op Lib Jvm.Free Jvm.Stand Jvm.LawKit Jvm.RoadKit Bundle Jvm.Pilot.@@N@@.Jvm.D
/-- what is left to show at a frame of the walk: the run from there ends as the contract says -/
def own_G (p : Program) (e : Env) (below : List Frame) (s : State) (Q : Option Value → Heap → List Loc → Prop) (ce sl : Nat) (T : State) (g : JFrame) : Prop :=
  ∃ s₂ o, Steps p.tables e below (T.setTop g) s₂ ∧ s₂.status = .running ∧ Ended s₂ below o ∧ ∃ v L, o = .returned v ∧ Q v s₂.heap L ∧ FrameEnd s o s₂ L ce sl
theorem own_w {p : Program} {e : Env} {below : List Frame} {s : State} {Q : Option Value → Heap → List Loc → Prop} {ce sl : Nat} {T T' : State} {g g' : JFrame}
    (st : ∀ target, Steps p.tables e below (T'.setTop g') target → Steps p.tables e below (T.setTop g) target) (k : own_G p e below s Q ce sl T' g') : own_G p e below s Q ce sl T g := by
  obtain ⟨u, o, a, r⟩ := k
  exact ⟨u, o, st u a, r⟩
theorem own_t {p : Program} {e : Env} {below : List Frame} {s : State} {Q : Option Value → Heap → List Loc → Prop} {ce sl : Nat} {T T' : State} {g g' : JFrame}
    (st : Steps p.tables e below (T.setTop g) (T'.setTop g')) (k : own_G p e below s Q ce sl T' g') : own_G p e below s Q ce sl T g := own_w (fun _ k => st.trans k) k
theorem own_sta {Z : State} {h h' : Heap} {C n d : String} {v : Value} {a : Addr} (F : Sta Z h C n d v) (K : Keep h h' [a]) (na : ∀ cell : Cell, h[a]? = some cell → cell.vm.isStatics = false) : Sta Z h' C n d v := by
  obtain ⟨cf, i, k, f, st, cell, h1, h2, h3, h4, h5, h6, h7⟩ := F
  refine ⟨cf, i, k, f, st, cell, h1, h2, h3, h4, K.2.1 st cell h5 (fun q => ?_), h6, h7⟩
  have e : st = a := List.mem_singleton.mp q
  subst e
  rw [na _ h5] at h6; cases h6
theorem own_nb {P : Prop} [Decidable P] : narrow .boolean (.int (if P then (1 : Int32) else 0)) = .int (if P then (1 : Int32) else 0) := by split <;> rfl
theorem own_ite0 {P : Prop} [Decidable P] : ((if P then (1 : Int32) else 0) = 0) = ¬ P := by by_cases h : P <;> simp [h]
theorem own_d3_0 : decode jdk_22_method_1_code 0 = .ok (.aload_n 0, 1) := by decide +kernel
theorem own_d3_1 : decode jdk_22_method_1_code 1 = .ok (.invokespecial 1, 3) := by decide +kernel
theorem own_d3_4 : decode jdk_22_method_1_code 4 = .ok (.return_, 1) := by decide +kernel
theorem own_pn_java_util_AbstractCollection : plainName "java/util/AbstractCollection" = true := by first | (simp [plainName, overriddenIn]; done) | decide +kernel
theorem own_rm3_ef (m : MethodId) (a : Addr) : entryFrame m #[(.ref a)] 1 = mkF m 0 #[.val (.ref a)] [] := by first | (simp [entryFrame, mkF, argsToLocals, Value.category]; done) | rfl
def own_Q3 (Z : State) (a : Addr) (h0 : Heap) (n0 : Nat) (v_ : Option Value) (h : Heap) (L_ : List Loc) : Prop := v_ = none ∧ Fr n0 L_ ∧ (h = h0)
set_option maxRecDepth 65536 in
set_option maxHeartbeats 40000000 in
theorem own_rm3 (l : Launch) (Z : State) (a0 : Array Value) (hw : ∀ d ∈ tables_1, d.before a0 Z = true) (ws : List Jvm.Cond) (a : Addr) (h0 : Heap) (n0 : Nat) (Z0 : n0 ≤ h0.size)  :
    MetFree l (⟨"java/util/AbstractCollection", "<init>", "()V"⟩ : MethodName) (head1 (Jvm.Cond.code (⟨"java/util/AbstractCollection", "<init>", "()V"⟩ : MethodName) jdk_22_method_1_code 1 none :: ws) ({ frames := 1, cells := 0, slots := 0, locals := 12 } : Room)) (fun a_ U_ => a_ = #[(.ref a)] ∧ Z.Warmed39 U_.vm ∧ U_.heap = h0) (fun _ _ _ _ _ => True) (fun _ U_ o_ V_ => ∃ v_ L_, o_ = .returned v_ ∧ own_Q3 Z a h0 n0 v_ V_.heap L_ ∧ FrameEnd U_ o_ V_ L_ ({ frames := 1, cells := 0, slots := 0, locals := 12 } : Room).cells ({ frames := 1, cells := 0, slots := 0, locals := 12 } : Room).slots) := by
  refine MetFree.of_bodySF (plainFor_of_name own_pn_java_util_AbstractCollection) hisR ?_
  intro p e s m args below meth c s₁ Bd hml0 hP hK
  obtain ⟨rfl, hZ, hh⟩ := hP
  have hx := Bd.exec
  have hby := Bd.bytes
  have hml : c.maxLocals = 1 := hml0
  have hown : s.vm.findClass "java/util/AbstractCollection" = some m.cls := findClass_of_methodNamed Bd.named
  have hnm := (name_of_methodNamed Bd.named Bd.method).1
  have X0 : Stand p l e ({ frames := 1, cells := 0, slots := 0, locals := 12 } : Room) s m #[(.ref a)] below meth c s₁ [] 0 0 := Stand.of_body Bd
  have e0 : s₁.heap = h0 := by rw [← hh, Bd.state]; rfl
  have N0 := Fr.nil n0
  show own_G p e below s (own_Q3 Z a h0 n0) ({ frames := 1, cells := 0, slots := 0, locals := 12 } : Room).cells ({ frames := 1, cells := 0, slots := 0, locals := 12 } : Room).slots s₁ (entryFrame m #[(.ref a)] 1)
  rw [own_rm3_ef]
  refine own_w (T' := s₁) (g' := (mkF m 1 #[.val (.ref a)] [(.ref a)])) (fun _ k_ => XS.aloadN X0.here hx rfl (hb hby own_d3_0) rfl rfl k_) ?_
  obtain ⟨T1, X1, e1, st1⟩ := initO X0 hx hZ hown (hw _ (List.mem_of_getElem? (i := 18) rfl)) (hw _ (List.mem_of_getElem? (i := 19) rfl)) (hw _ (List.mem_of_getElem? (i := 20) rfl)) e0 (g := (mkF m 1 #[.val (.ref a)] [(.ref a)])) rfl (by rw [hml]; rfl) rfl (hb hby own_d3_1) (by decide) (W := 0) (by show 2 * 0 + _ ≤ _; exact Nat.le_of_eq rfl) (by decide)
  refine own_w (T' := T1) (g' := (mkF m 4 #[.val (.ref a)] [])) st1 ?_
  obtain ⟨fs, hr, hrun, hended, hW, hsame⟩ := X1.leave (v := none) (fun _ => rfl)
  exact ⟨_, _, X1.returnOut hx Bd.returns (hb hby own_d3_4) hr, hrun, hended, _, _, rfl, (by show own_Q3 Z a h0 n0 _ T1.heap _; rw [e1]; exact ⟨rfl, N0, rfl⟩), ⟨_, rfl⟩, hW, hsame.mono (by decide) (by decide)⟩
theorem own_d2_0 : decode jdk_39_method_1_code 0 = .ok (.aload_n 0, 1) := by decide +kernel
theorem own_d2_1 : decode jdk_39_method_1_code 1 = .ok (.invokespecial 1, 3) := by decide +kernel
theorem own_pd0 : parseMethodDescriptor "()V" = some ⟨[], none⟩ := by decide +kernel
theorem own_d2_4 : decode jdk_39_method_1_code 4 = .ok (.aload_n 0, 1) := by decide +kernel
theorem own_d2_5 : decode jdk_39_method_1_code 5 = .ok (.iconst 0, 1) := by decide +kernel
theorem own_d2_6 : decode jdk_39_method_1_code 6 = .ok (.putfield 7, 3) := by decide +kernel
theorem own_d2_9 : decode jdk_39_method_1_code 9 = .ok (.return_, 1) := by decide +kernel
theorem own_pn_java_util_AbstractList : plainName "java/util/AbstractList" = true := by first | (simp [plainName, overriddenIn]; done) | decide +kernel
theorem own_rm2_ef (m : MethodId) (a : Addr) : entryFrame m #[(.ref a)] 1 = mkF m 0 #[.val (.ref a)] [] := by first | (simp [entryFrame, mkF, argsToLocals, Value.category]; done) | rfl
def own_Q2 (Z : State) (a : Addr) (u : Value) (h0 : Heap) (n0 : Nat) (v_ : Option Value) (h : Heap) (L_ : List Loc) : Prop := v_ = none ∧ Fr n0 L_ ∧ (Keep h0 h [a]) ∧ (∀ w, Fld Z h0 a "java/util/ArrayList" "elementData" "[Ljava/lang/Object;" w → Fld Z h a "java/util/ArrayList" "elementData" "[Ljava/lang/Object;" w)
set_option maxRecDepth 65536 in
set_option maxHeartbeats 40000000 in
theorem own_rm2 (l : Launch) (Z : State) (a0 : Array Value) (hw : ∀ d ∈ tables_1, d.before a0 Z = true) (ws : List Jvm.Cond) (a : Addr) (u : Value) (h0 : Heap) (n0 : Nat) (Z0 : n0 ≤ h0.size) (F : Fld Z h0 a "java/util/AbstractList" "modCount" "I" u) (E : Exa Z h0 a "java/util/ArrayList") (g_a : n0 ≤ a) :
    MetFree l (⟨"java/util/AbstractList", "<init>", "()V"⟩ : MethodName) (head1 (Jvm.Cond.code (⟨"java/util/AbstractList", "<init>", "()V"⟩ : MethodName) jdk_39_method_1_code 1 none :: ws) ({ frames := 2, cells := 0, slots := 0, locals := 24 } : Room)) (fun a_ U_ => a_ = #[(.ref a)] ∧ Z.Warmed39 U_.vm ∧ U_.heap = h0) (fun _ _ _ _ _ => True) (fun _ U_ o_ V_ => ∃ v_ L_, o_ = .returned v_ ∧ own_Q2 Z a u h0 n0 v_ V_.heap L_ ∧ FrameEnd U_ o_ V_ L_ ({ frames := 2, cells := 0, slots := 0, locals := 24 } : Room).cells ({ frames := 2, cells := 0, slots := 0, locals := 24 } : Room).slots) := by
  refine MetFree.of_bodySF (plainFor_of_name own_pn_java_util_AbstractList) hisR ?_
  intro p e s m args below meth c s₁ Bd hml0 hP hK
  obtain ⟨rfl, hZ, hh⟩ := hP
  have hx := Bd.exec
  have hby := Bd.bytes
  have hml : c.maxLocals = 1 := hml0
  have hown : s.vm.findClass "java/util/AbstractList" = some m.cls := findClass_of_methodNamed Bd.named
  have hnm := (name_of_methodNamed Bd.named Bd.method).1
  have X0 : Stand p l e ({ frames := 2, cells := 0, slots := 0, locals := 24 } : Room) s m #[(.ref a)] below meth c s₁ [] 0 0 := Stand.of_body Bd
  have e0 : s₁.heap = h0 := by rw [← hh, Bd.state]; rfl
  have N0 := Fr.nil n0
  show own_G p e below s (own_Q2 Z a u h0 n0) ({ frames := 2, cells := 0, slots := 0, locals := 24 } : Room).cells ({ frames := 2, cells := 0, slots := 0, locals := 24 } : Room).slots s₁ (entryFrame m #[(.ref a)] 1)
  rw [own_rm2_ef]
  refine own_w (T' := s₁) (g' := (mkF m 1 #[.val (.ref a)] [(.ref a)])) (fun _ k_ => XS.aloadN X0.here hx rfl (hb hby own_d2_0) rfl rfl k_) ?_
  obtain ⟨_, _, ⟨T1, L1, k1, n1⟩, -, X1, ⟨Lc1, hQ1, l1, y1, z1⟩, st1⟩ := X0.specialBack hx (y := (⟨"java/util/AbstractCollection", "<init>", "()V"⟩ : MethodName)) rfl hown (mvT hZ (hw _ (List.mem_of_getElem? (i := 12) rfl))) (mvT hZ (hw _ (List.mem_of_getElem? (i := 13) rfl))) (mvT hZ (hw _ (List.mem_of_getElem? (i := 17) rfl))) (by decide) (backOf (W := 0) (own_rm3 l Z a0 hw [] a  h0 n0 Z0 ) hZ (hw _ (List.mem_of_getElem? (i := 17) rfl)) (hw _ (List.mem_of_getElem? (i := 16) rfl)) (by decide) (by decide)) (g := (mkF m 1 #[.val (.ref a)] [(.ref a)])) rfl (by rw [hml]; rfl) (Steps.refl _) (a := a) (argsL := []) (rest := []) (lenOf own_pd0 rfl) rfl (by show 2 * 0 + _ ≤ _; exact Nat.le_of_eq rfl) (hb hby own_d2_1) (fun _ _ => ⟨rfl, e0, (by decide : 0 + 0 ≤ _), (by decide : 0 + 0 ≤ _)⟩)
  dsimp only [Pt.U, Pt.locs, Pt.cells, Pt.slots] at X1 l1 y1 z1 st1 hQ1
  subst l1 y1 z1
  obtain ⟨rfl, N1q, e1⟩ := hQ1
  have N1 := Fr.app N0 N1q
  refine own_t (T' := T1) (g' := (mkF m 4 #[.val (.ref a)] [])) st1 ?_
  refine own_w (T' := T1) (g' := (mkF m 5 #[.val (.ref a)] [(.ref a)])) (fun _ k_ => XS.aloadN X1.here hx rfl (hb hby own_d2_4) rfl rfl k_) ?_
  refine own_w (T' := T1) (g' := (mkF m 6 #[.val (.ref a)] [(.int (0 : Int32)), (.ref a)])) (fun _ k_ => XS.iconst X1.here hx rfl (hb hby own_d2_5) k_) ?_
  obtain ⟨T2, h2, X2, e2, W2, st2⟩ := putF X1 hx hZ hown (host := "") (Or.inl (hw _ (List.mem_of_getElem? (i := 21) rfl))) Via.refl e1 F E (Or.inl (hw _ (List.mem_of_getElem? (i := 22) rfl))) (hw _ (List.mem_of_getElem? (i := 1) rfl)) (ty := .int) (by decide) rfl rfl (g := (mkF m 6 #[.val (.ref a)] [(.int (0 : Int32)), (.ref a)])) rfl rfl (hb hby own_d2_6)
  have N2 := Fr.snoc X2 N1 g_a
  refine own_w (T' := T2) (g' := (mkF m 9 #[.val (.ref a)] [])) st2 ?_
  obtain ⟨fs, hr, hrun, hended, hW, hsame⟩ := X2.leave (v := none) (fun _ => rfl)
  exact ⟨_, _, X2.returnOut hx Bd.returns (hb hby own_d2_9) hr, hrun, hended, _, _, rfl, (by show own_Q2 Z a u h0 n0 _ T2.heap _; rw [e2]; exact ⟨rfl, N2, Keep.of_wr W2, fun _ G => G.other W2 (Or.inr (slot_ne (Or.inl (hw _ (List.mem_of_getElem? (i := 25) rfl))) (Or.inl (hw _ (List.mem_of_getElem? (i := 22) rfl))) (by decide) (t := (.array (.object "java/lang/Object"))) (t' := .int) (by decide) (by decide)))⟩), ⟨_, rfl⟩, hW, hsame.mono (by decide) (by decide)⟩
theorem own_d1_0 : decode jdk_38_method_2_code 0 = .ok (.aload_n 0, 1) := by decide +kernel
theorem own_d1_1 : decode jdk_38_method_2_code 1 = .ok (.invokespecial 1, 3) := by decide +kernel
theorem own_d1_4 : decode jdk_38_method_2_code 4 = .ok (.aload_n 0, 1) := by decide +kernel
theorem own_d1_5 : decode jdk_38_method_2_code 5 = .ok (.getstatic 39, 3) := by decide +kernel
theorem own_d1_8 : decode jdk_38_method_2_code 8 = .ok (.putfield 9, 3) := by decide +kernel
theorem own_d1_11 : decode jdk_38_method_2_code 11 = .ok (.return_, 1) := by decide +kernel
theorem own_pn_java_util_ArrayList : plainName "java/util/ArrayList" = true := by first | (simp [plainName, overriddenIn]; done) | decide +kernel
theorem own_rm1_ef (m : MethodId) (a : Addr) : entryFrame m #[(.ref a)] 1 = mkF m 0 #[.val (.ref a)] [] := by first | (simp [entryFrame, mkF, argsToLocals, Value.category]; done) | rfl
def own_Q1 (Z : State) (a : Addr) (u : Value) (u2 : Value) (wd : Addr) (h0 : Heap) (n0 : Nat) (v_ : Option Value) (h : Heap) (L_ : List Loc) : Prop := v_ = none ∧ Fr n0 L_ ∧ (Keep h0 h [a])
set_option maxRecDepth 65536 in
set_option maxHeartbeats 40000000 in
theorem own_rm1 (l : Launch) (Z : State) (a0 : Array Value) (hw : ∀ d ∈ tables_1, d.before a0 Z = true) (ws : List Jvm.Cond) (a : Addr) (u : Value) (u2 : Value) (wd : Addr) (h0 : Heap) (n0 : Nat) (Z0 : n0 ≤ h0.size) (F : Fld Z h0 a "java/util/AbstractList" "modCount" "I" u) (G : Fld Z h0 a "java/util/ArrayList" "elementData" "[Ljava/lang/Object;" u2) (E : Exa Z h0 a "java/util/ArrayList") (g_a : n0 ≤ a) (S : Sta Z h0 "java/util/ArrayList" "DEFAULTCAPACITY_EMPTY_ELEMENTDATA" "[Ljava/lang/Object;" (.ref wd)) :
    MetFree l (⟨"java/util/ArrayList", "<init>", "()V"⟩ : MethodName) (head1 (Jvm.Cond.code (⟨"java/util/ArrayList", "<init>", "()V"⟩ : MethodName) jdk_38_method_2_code 1 none :: ws) ({ frames := 3, cells := 0, slots := 0, locals := 36 } : Room)) (fun a_ U_ => a_ = #[(.ref a)] ∧ Z.Warmed39 U_.vm ∧ U_.heap = h0) (fun _ _ _ _ _ => True) (fun _ U_ o_ V_ => ∃ v_ L_, o_ = .returned v_ ∧ own_Q1 Z a u u2 wd h0 n0 v_ V_.heap L_ ∧ FrameEnd U_ o_ V_ L_ ({ frames := 3, cells := 0, slots := 0, locals := 36 } : Room).cells ({ frames := 3, cells := 0, slots := 0, locals := 36 } : Room).slots) := by
  refine MetFree.of_bodySF (plainFor_of_name own_pn_java_util_ArrayList) hisR ?_
  intro p e s m args below meth c s₁ Bd hml0 hP hK
  obtain ⟨rfl, hZ, hh⟩ := hP
  have hx := Bd.exec
  have hby := Bd.bytes
  have hml : c.maxLocals = 1 := hml0
  have hown : s.vm.findClass "java/util/ArrayList" = some m.cls := findClass_of_methodNamed Bd.named
  have hnm := (name_of_methodNamed Bd.named Bd.method).1
  have X0 : Stand p l e ({ frames := 3, cells := 0, slots := 0, locals := 36 } : Room) s m #[(.ref a)] below meth c s₁ [] 0 0 := Stand.of_body Bd
  have e0 : s₁.heap = h0 := by rw [← hh, Bd.state]; rfl
  have N0 := Fr.nil n0
  show own_G p e below s (own_Q1 Z a u u2 wd h0 n0) ({ frames := 3, cells := 0, slots := 0, locals := 36 } : Room).cells ({ frames := 3, cells := 0, slots := 0, locals := 36 } : Room).slots s₁ (entryFrame m #[(.ref a)] 1)
  rw [own_rm1_ef]
  refine own_w (T' := s₁) (g' := (mkF m 1 #[.val (.ref a)] [(.ref a)])) (fun _ k_ => XS.aloadN X0.here hx rfl (hb hby own_d1_0) rfl rfl k_) ?_
  obtain ⟨_, _, ⟨T1, L1, k1, n1⟩, -, X1, ⟨Lc1, hQ1, l1, y1, z1⟩, st1⟩ := X0.specialBack hx (y := (⟨"java/util/AbstractList", "<init>", "()V"⟩ : MethodName)) rfl hown (mvT hZ (hw _ (List.mem_of_getElem? (i := 6) rfl))) (mvT hZ (hw _ (List.mem_of_getElem? (i := 7) rfl))) (mvT hZ (hw _ (List.mem_of_getElem? (i := 11) rfl))) (by decide) (backOf (W := 0) (own_rm2 l Z a0 hw [] a _ h0 n0 Z0 F E g_a) hZ (hw _ (List.mem_of_getElem? (i := 11) rfl)) (hw _ (List.mem_of_getElem? (i := 10) rfl)) (by decide) (by decide)) (g := (mkF m 1 #[.val (.ref a)] [(.ref a)])) rfl (by rw [hml]; rfl) (Steps.refl _) (a := a) (argsL := []) (rest := []) (lenOf own_pd0 rfl) rfl (by show 2 * 0 + _ ≤ _; exact Nat.le_of_eq rfl) (hb hby own_d1_1) (fun _ _ => ⟨rfl, e0, (by decide : 0 + 0 ≤ _), (by decide : 0 + 0 ≤ _)⟩)
  dsimp only [Pt.U, Pt.locs, Pt.cells, Pt.slots] at X1 l1 y1 z1 st1 hQ1
  subst l1 y1 z1
  obtain ⟨h1, e1⟩ : ∃ h, T1.heap = h := ⟨_, rfl⟩
  rw [e1] at hQ1
  obtain ⟨rfl, N1q, K1, G1⟩ := hQ1
  have N1 := Fr.app N0 N1q
  refine own_t (T' := T1) (g' := (mkF m 4 #[.val (.ref a)] [])) st1 ?_
  refine own_w (T' := T1) (g' := (mkF m 5 #[.val (.ref a)] [(.ref a)])) (fun _ k_ => XS.aloadN X1.here hx rfl (hb hby own_d1_4) rfl rfl k_) ?_
  obtain ⟨T2, X2, e2, st2⟩ := getS2 X1 hx hZ hown (host := "") (Or.inl (hw _ (List.mem_of_getElem? (i := 23) rfl))) Via.refl e1 (own_sta S K1 E.nostat) (g := (mkF m 5 #[.val (.ref a)] [(.ref a)])) rfl (hb hby own_d1_5)
  refine own_w (T' := T2) (g' := (mkF m 8 #[.val (.ref a)] [(.ref wd), (.ref a)])) st2 ?_
  obtain ⟨T3, h3, X3, e3, W3, st3⟩ := putF X2 hx hZ hown (host := "") (Or.inl (hw _ (List.mem_of_getElem? (i := 24) rfl))) Via.refl e2 (G1 _ G) (E.keep K1) (Or.inl (hw _ (List.mem_of_getElem? (i := 25) rfl))) (hw _ (List.mem_of_getElem? (i := 1) rfl)) (ty := (.array (.object "java/lang/Object"))) (by decide) rfl rfl (g := (mkF m 8 #[.val (.ref a)] [(.ref wd), (.ref a)])) rfl rfl (hb hby own_d1_8)
  have N3 := Fr.snoc X3 N1 g_a
  refine own_w (T' := T3) (g' := (mkF m 11 #[.val (.ref a)] [])) st3 ?_
  obtain ⟨fs, hr, hrun, hended, hW, hsame⟩ := X3.leave (v := none) (fun _ => rfl)
  exact ⟨_, _, X3.returnOut hx Bd.returns (hb hby own_d1_11) hr, hrun, hended, _, _, rfl, (by show own_Q1 Z a u u2 wd h0 n0 _ T3.heap _; rw [e3]; exact ⟨rfl, N3, K1.wr W3 (Or.inl (List.mem_singleton.mpr rfl))⟩), ⟨_, rfl⟩, hW, hsame.mono (by decide) (by decide)⟩
theorem own_d6_0 : decode jdk_30_method_1_code 0 = .ok (.aload_n 0, 1) := by decide +kernel
theorem own_d6_1 : decode jdk_30_method_1_code 1 = .ok (.invokespecial 1, 3) := by decide +kernel
theorem own_d6_4 : decode jdk_30_method_1_code 4 = .ok (.return_, 1) := by decide +kernel
theorem own_pn_java_lang_Record : plainName "java/lang/Record" = true := by first | (simp [plainName, overriddenIn]; done) | decide +kernel
theorem own_rm6_ef (m : MethodId) (a : Addr) : entryFrame m #[(.ref a)] 1 = mkF m 0 #[.val (.ref a)] [] := by first | (simp [entryFrame, mkF, argsToLocals, Value.category]; done) | rfl
def own_Q6 (Z : State) (a : Addr) (h0 : Heap) (n0 : Nat) (v_ : Option Value) (h : Heap) (L_ : List Loc) : Prop := v_ = none ∧ Fr n0 L_ ∧ (h = h0)
set_option maxRecDepth 65536 in
set_option maxHeartbeats 40000000 in
theorem own_rm6 (l : Launch) (Z : State) (a0 : Array Value) (hw : ∀ d ∈ tables_1, d.before a0 Z = true) (ws : List Jvm.Cond) (a : Addr) (h0 : Heap) (n0 : Nat) (Z0 : n0 ≤ h0.size)  :
    MetFree l (⟨"java/lang/Record", "<init>", "()V"⟩ : MethodName) (head1 (Jvm.Cond.code (⟨"java/lang/Record", "<init>", "()V"⟩ : MethodName) jdk_30_method_1_code 1 none :: ws) ({ frames := 1, cells := 0, slots := 0, locals := 12 } : Room)) (fun a_ U_ => a_ = #[(.ref a)] ∧ Z.Warmed39 U_.vm ∧ U_.heap = h0) (fun _ _ _ _ _ => True) (fun _ U_ o_ V_ => ∃ v_ L_, o_ = .returned v_ ∧ own_Q6 Z a h0 n0 v_ V_.heap L_ ∧ FrameEnd U_ o_ V_ L_ ({ frames := 1, cells := 0, slots := 0, locals := 12 } : Room).cells ({ frames := 1, cells := 0, slots := 0, locals := 12 } : Room).slots) := by
  refine MetFree.of_bodySF (plainFor_of_name own_pn_java_lang_Record) hisR ?_
  intro p e s m args below meth c s₁ Bd hml0 hP hK
  obtain ⟨rfl, hZ, hh⟩ := hP
  have hx := Bd.exec
  have hby := Bd.bytes
  have hml : c.maxLocals = 1 := hml0
  have hown : s.vm.findClass "java/lang/Record" = some m.cls := findClass_of_methodNamed Bd.named
  have hnm := (name_of_methodNamed Bd.named Bd.method).1
  have X0 : Stand p l e ({ frames := 1, cells := 0, slots := 0, locals := 12 } : Room) s m #[(.ref a)] below meth c s₁ [] 0 0 := Stand.of_body Bd
  have e0 : s₁.heap = h0 := by rw [← hh, Bd.state]; rfl
  have N0 := Fr.nil n0
  show own_G p e below s (own_Q6 Z a h0 n0) ({ frames := 1, cells := 0, slots := 0, locals := 12 } : Room).cells ({ frames := 1, cells := 0, slots := 0, locals := 12 } : Room).slots s₁ (entryFrame m #[(.ref a)] 1)
  rw [own_rm6_ef]
  refine own_w (T' := s₁) (g' := (mkF m 1 #[.val (.ref a)] [(.ref a)])) (fun _ k_ => XS.aloadN X0.here hx rfl (hb hby own_d6_0) rfl rfl k_) ?_
  obtain ⟨T1, X1, e1, st1⟩ := initO X0 hx hZ hown (hw _ (List.mem_of_getElem? (i := 37) rfl)) (hw _ (List.mem_of_getElem? (i := 19) rfl)) (hw _ (List.mem_of_getElem? (i := 20) rfl)) e0 (g := (mkF m 1 #[.val (.ref a)] [(.ref a)])) rfl (by rw [hml]; rfl) rfl (hb hby own_d6_1) (by decide) (W := 0) (by show 2 * 0 + _ ≤ _; exact Nat.le_of_eq rfl) (by decide)
  refine own_w (T' := T1) (g' := (mkF m 4 #[.val (.ref a)] [])) st1 ?_
  obtain ⟨fs, hr, hrun, hended, hW, hsame⟩ := X1.leave (v := none) (fun _ => rfl)
  exact ⟨_, _, X1.returnOut hx Bd.returns (hb hby own_d6_4) hr, hrun, hended, _, _, rfl, (by show own_Q6 Z a h0 n0 _ T1.heap _; rw [e1]; exact ⟨rfl, N0, rfl⟩), ⟨_, rfl⟩, hW, hsame.mono (by decide) (by decide)⟩
theorem own_d5_0 : decode prog_35_method_1_code 0 = .ok (.aload_n 0, 1) := by decide +kernel
theorem own_d5_1 : decode prog_35_method_1_code 1 = .ok (.invokespecial 1, 3) := by decide +kernel
theorem own_d5_4 : decode prog_35_method_1_code 4 = .ok (.aload_n 0, 1) := by decide +kernel
theorem own_d5_5 : decode prog_35_method_1_code 5 = .ok (.iload_n 1, 1) := by decide +kernel
theorem own_d5_6 : decode prog_35_method_1_code 6 = .ok (.putfield 7, 3) := by decide +kernel
theorem own_d5_9 : decode prog_35_method_1_code 9 = .ok (.aload_n 0, 1) := by decide +kernel
theorem own_d5_10 : decode prog_35_method_1_code 10 = .ok (.lload_n 2, 1) := by decide +kernel
theorem own_d5_11 : decode prog_35_method_1_code 11 = .ok (.putfield 13, 3) := by decide +kernel
theorem own_d5_14 : decode prog_35_method_1_code 14 = .ok (.aload_n 0, 1) := by decide +kernel
theorem own_d5_15 : decode prog_35_method_1_code 15 = .ok (.lload 4, 2) := by decide +kernel
theorem own_d5_17 : decode prog_35_method_1_code 17 = .ok (.putfield 17, 3) := by decide +kernel
theorem own_d5_20 : decode prog_35_method_1_code 20 = .ok (.aload_n 0, 1) := by decide +kernel
theorem own_d5_21 : decode prog_35_method_1_code 21 = .ok (.lload 6, 2) := by decide +kernel
theorem own_d5_23 : decode prog_35_method_1_code 23 = .ok (.putfield 20, 3) := by decide +kernel
theorem own_d5_26 : decode prog_35_method_1_code 26 = .ok (.aload_n 0, 1) := by decide +kernel
theorem own_d5_27 : decode prog_35_method_1_code 27 = .ok (.lload 8, 2) := by decide +kernel
theorem own_d5_29 : decode prog_35_method_1_code 29 = .ok (.putfield 23, 3) := by decide +kernel
theorem own_d5_32 : decode prog_35_method_1_code 32 = .ok (.aload_n 0, 1) := by decide +kernel
theorem own_d5_33 : decode prog_35_method_1_code 33 = .ok (.lload 10, 2) := by decide +kernel
theorem own_d5_35 : decode prog_35_method_1_code 35 = .ok (.putfield 26, 3) := by decide +kernel
theorem own_d5_38 : decode prog_35_method_1_code 38 = .ok (.aload_n 0, 1) := by decide +kernel
theorem own_d5_39 : decode prog_35_method_1_code 39 = .ok (.aload 12, 2) := by decide +kernel
theorem own_d5_41 : decode prog_35_method_1_code 41 = .ok (.putfield 29, 3) := by decide +kernel
theorem own_d5_44 : decode prog_35_method_1_code 44 = .ok (.aload_n 0, 1) := by decide +kernel
theorem own_d5_45 : decode prog_35_method_1_code 45 = .ok (.lload 13, 2) := by decide +kernel
theorem own_d5_47 : decode prog_35_method_1_code 47 = .ok (.putfield 33, 3) := by decide +kernel
theorem own_d5_50 : decode prog_35_method_1_code 50 = .ok (.return_, 1) := by decide +kernel
theorem own_pn_com_example_oaken_shelf_oakenshelf_journal_Frames_Reading : plainName "com/example/oaken_shelf/oakenshelf/journal/Frames$Reading" = true := by first | (simp [plainName, overriddenIn]; done) | decide +kernel
theorem own_rm5_ef (m : MethodId) (a : Addr) (fm : Int32) (en : Int64) (ro : Int64) (sz : Int64) (r1 : Int64) (r2 : Int64) (li : Addr) (r3 : Int64) : entryFrame m #[(.ref a), (.int fm), (.long en), (.long ro), (.long sz), (.long r1), (.long r2), (.ref li), (.long r3)] 15 = mkF m 0 #[.val (.ref a), .val (.int fm), .val (.long en), .second, .val (.long ro), .second, .val (.long sz), .second, .val (.long r1), .second, .val (.long r2), .second, .val (.ref li), .val (.long r3), .second] [] := by first | (simp [entryFrame, mkF, argsToLocals, Value.category]; done) | rfl
def own_Q5 (Z : State) (a : Addr) (fm : Int32) (en : Int64) (ro : Int64) (sz : Int64) (r1 : Int64) (r2 : Int64) (li : Addr) (r3 : Int64) (u0 : Value) (u1 : Value) (u2 : Value) (u3 : Value) (u4 : Value) (u5 : Value) (u6 : Value) (u7 : Value) (h0 : Heap) (n0 : Nat) (v_ : Option Value) (h : Heap) (L_ : List Loc) : Prop := v_ = none ∧ Fr n0 L_ ∧ (Keep h0 h [a]) ∧ (Fld Z h a "com/example/oaken_shelf/oakenshelf/journal/Frames$Reading" "format" "I" (.int fm)) ∧ (Fld Z h a "com/example/oaken_shelf/oakenshelf/journal/Frames$Reading" "end" "J" (.long en)) ∧ (Fld Z h a "com/example/oaken_shelf/oakenshelf/journal/Frames$Reading" "room" "J" (.long ro)) ∧ (Fld Z h a "com/example/oaken_shelf/oakenshelf/journal/Frames$Reading" "size" "J" (.long sz))
set_option maxRecDepth 65536 in
set_option maxHeartbeats 40000000 in
theorem own_rm5 (l : Launch) (Z : State) (a0 : Array Value) (hw : ∀ d ∈ tables_1, d.before a0 Z = true) (ws : List Jvm.Cond) (a : Addr) (fm : Int32) (en : Int64) (ro : Int64) (sz : Int64) (r1 : Int64) (r2 : Int64) (li : Addr) (r3 : Int64) (u0 : Value) (u1 : Value) (u2 : Value) (u3 : Value) (u4 : Value) (u5 : Value) (u6 : Value) (u7 : Value) (h0 : Heap) (n0 : Nat) (Z0 : n0 ≤ h0.size) (F100 : Fld Z h0 a "com/example/oaken_shelf/oakenshelf/journal/Frames$Reading" "format" "I" u0) (F101 : Fld Z h0 a "com/example/oaken_shelf/oakenshelf/journal/Frames$Reading" "end" "J" u1) (F102 : Fld Z h0 a "com/example/oaken_shelf/oakenshelf/journal/Frames$Reading" "room" "J" u2) (F103 : Fld Z h0 a "com/example/oaken_shelf/oakenshelf/journal/Frames$Reading" "size" "J" u3) (F104 : Fld Z h0 a "com/example/oaken_shelf/oakenshelf/journal/Frames$Reading" "records" "J" u4) (F105 : Fld Z h0 a "com/example/oaken_shelf/oakenshelf/journal/Frames$Reading" "openWrite" "J" u5) (F106 : Fld Z h0 a "com/example/oaken_shelf/oakenshelf/journal/Frames$Reading" "damage" "Ljava/util/List;" u6) (F107 : Fld Z h0 a "com/example/oaken_shelf/oakenshelf/journal/Frames$Reading" "laterRecords" "J" u7) (E : Exa Z h0 a "com/example/oaken_shelf/oakenshelf/journal/Frames$Reading") (g_a : n0 ≤ a) :
    MetFree l (⟨"com/example/oaken_shelf/oakenshelf/journal/Frames$Reading", "<init>", "(IJJJJJLjava/util/List;J)V"⟩ : MethodName) (head1 (Jvm.Cond.code (⟨"com/example/oaken_shelf/oakenshelf/journal/Frames$Reading", "<init>", "(IJJJJJLjava/util/List;J)V"⟩ : MethodName) prog_35_method_1_code 15 none :: ws) ({ frames := 2, cells := 0, slots := 0, locals := 24 } : Room)) (fun a_ U_ => a_ = #[(.ref a), (.int fm), (.long en), (.long ro), (.long sz), (.long r1), (.long r2), (.ref li), (.long r3)] ∧ Z.Warmed39 U_.vm ∧ U_.heap = h0) (fun _ _ _ _ _ => True) (fun _ U_ o_ V_ => ∃ v_ L_, o_ = .returned v_ ∧ own_Q5 Z a fm en ro sz r1 r2 li r3 u0 u1 u2 u3 u4 u5 u6 u7 h0 n0 v_ V_.heap L_ ∧ FrameEnd U_ o_ V_ L_ ({ frames := 2, cells := 0, slots := 0, locals := 24 } : Room).cells ({ frames := 2, cells := 0, slots := 0, locals := 24 } : Room).slots) := by
  refine MetFree.of_bodySF (plainFor_of_name own_pn_com_example_oaken_shelf_oakenshelf_journal_Frames_Reading) hisR ?_
  intro p e s m args below meth c s₁ Bd hml0 hP hK
  obtain ⟨rfl, hZ, hh⟩ := hP
  have hx := Bd.exec
  have hby := Bd.bytes
  have hml : c.maxLocals = 15 := hml0
  have hown : s.vm.findClass "com/example/oaken_shelf/oakenshelf/journal/Frames$Reading" = some m.cls := findClass_of_methodNamed Bd.named
  have hnm := (name_of_methodNamed Bd.named Bd.method).1
  have X0 : Stand p l e ({ frames := 2, cells := 0, slots := 0, locals := 24 } : Room) s m #[(.ref a), (.int fm), (.long en), (.long ro), (.long sz), (.long r1), (.long r2), (.ref li), (.long r3)] below meth c s₁ [] 0 0 := Stand.of_body Bd
  have e0 : s₁.heap = h0 := by rw [← hh, Bd.state]; rfl
  have N0 := Fr.nil n0
  show own_G p e below s (own_Q5 Z a fm en ro sz r1 r2 li r3 u0 u1 u2 u3 u4 u5 u6 u7 h0 n0) ({ frames := 2, cells := 0, slots := 0, locals := 24 } : Room).cells ({ frames := 2, cells := 0, slots := 0, locals := 24 } : Room).slots s₁ (entryFrame m #[(.ref a), (.int fm), (.long en), (.long ro), (.long sz), (.long r1), (.long r2), (.ref li), (.long r3)] 15)
  rw [own_rm5_ef]
  refine own_w (T' := s₁) (g' := (mkF m 1 #[.val (.ref a), .val (.int fm), .val (.long en), .second, .val (.long ro), .second, .val (.long sz), .second, .val (.long r1), .second, .val (.long r2), .second, .val (.ref li), .val (.long r3), .second] [(.ref a)])) (fun _ k_ => XS.aloadN X0.here hx rfl (hb hby own_d5_0) rfl rfl k_) ?_
  obtain ⟨_, _, ⟨T1, L1, k1, n1⟩, -, X1, ⟨Lc1, hQ1, l1, y1, z1⟩, st1⟩ := X0.specialBack hx (y := (⟨"java/lang/Record", "<init>", "()V"⟩ : MethodName)) rfl hown (mvT hZ (hw _ (List.mem_of_getElem? (i := 32) rfl))) (mvT hZ (hw _ (List.mem_of_getElem? (i := 33) rfl))) (mvT hZ (hw _ (List.mem_of_getElem? (i := 36) rfl))) (by decide) (backOf (W := 0) (own_rm6 l Z a0 hw [] a  h0 n0 Z0 ) hZ (hw _ (List.mem_of_getElem? (i := 36) rfl)) (hw _ (List.mem_of_getElem? (i := 35) rfl)) (by decide) (by decide)) (g := (mkF m 1 #[.val (.ref a), .val (.int fm), .val (.long en), .second, .val (.long ro), .second, .val (.long sz), .second, .val (.long r1), .second, .val (.long r2), .second, .val (.ref li), .val (.long r3), .second] [(.ref a)])) rfl (by rw [hml]; rfl) (Steps.refl _) (a := a) (argsL := []) (rest := []) (lenOf own_pd0 rfl) rfl (by show 2 * 0 + _ ≤ _; exact Nat.le_of_eq rfl) (hb hby own_d5_1) (fun _ _ => ⟨rfl, e0, (by decide : 0 + 0 ≤ _), (by decide : 0 + 0 ≤ _)⟩)
  dsimp only [Pt.U, Pt.locs, Pt.cells, Pt.slots] at X1 l1 y1 z1 st1 hQ1
  subst l1 y1 z1
  obtain ⟨rfl, N1q, e1⟩ := hQ1
  have N1 := Fr.app N0 N1q
  refine own_t (T' := T1) (g' := (mkF m 4 #[.val (.ref a), .val (.int fm), .val (.long en), .second, .val (.long ro), .second, .val (.long sz), .second, .val (.long r1), .second, .val (.long r2), .second, .val (.ref li), .val (.long r3), .second] [])) st1 ?_
  refine own_w (T' := T1) (g' := (mkF m 5 #[.val (.ref a), .val (.int fm), .val (.long en), .second, .val (.long ro), .second, .val (.long sz), .second, .val (.long r1), .second, .val (.long r2), .second, .val (.ref li), .val (.long r3), .second] [(.ref a)])) (fun _ k_ => XS.aloadN X1.here hx rfl (hb hby own_d5_4) rfl rfl k_) ?_
  refine own_w (T' := T1) (g' := (mkF m 6 #[.val (.ref a), .val (.int fm), .val (.long en), .second, .val (.long ro), .second, .val (.long sz), .second, .val (.long r1), .second, .val (.long r2), .second, .val (.ref li), .val (.long r3), .second] [(.int fm), (.ref a)])) (fun _ k_ => XS.iloadN X1.here hx rfl (hb hby own_d5_5) rfl k_) ?_
  obtain ⟨T2, h2, X2, e2, W2, st2⟩ := putF X1 hx hZ hown (host := "") (Or.inl (hw _ (List.mem_of_getElem? (i := 38) rfl))) Via.refl e1 F100 E (Or.inr ⟨(hw _ (List.mem_of_getElem? (i := 39) rfl)), rfl, hnm⟩) (hw _ (List.mem_of_getElem? (i := 27) rfl)) (ty := .int) (by decide) rfl rfl (g := (mkF m 6 #[.val (.ref a), .val (.int fm), .val (.long en), .second, .val (.long ro), .second, .val (.long sz), .second, .val (.long r1), .second, .val (.long r2), .second, .val (.ref li), .val (.long r3), .second] [(.int fm), (.ref a)])) rfl rfl (hb hby own_d5_6)
  have N2 := Fr.snoc X2 N1 g_a
  refine own_w (T' := T2) (g' := (mkF m 9 #[.val (.ref a), .val (.int fm), .val (.long en), .second, .val (.long ro), .second, .val (.long sz), .second, .val (.long r1), .second, .val (.long r2), .second, .val (.ref li), .val (.long r3), .second] [])) st2 ?_
  have F2_0 := F100.same W2
  have F2_1 := F101.other W2 (Or.inr (slot_ne (Or.inr (hw _ (List.mem_of_getElem? (i := 41) rfl))) (Or.inr (hw _ (List.mem_of_getElem? (i := 39) rfl))) (by decide) (t := .long) (t' := .int) (by decide) (by decide)))
  have F2_2 := F102.other W2 (Or.inr (slot_ne (Or.inr (hw _ (List.mem_of_getElem? (i := 43) rfl))) (Or.inr (hw _ (List.mem_of_getElem? (i := 39) rfl))) (by decide) (t := .long) (t' := .int) (by decide) (by decide)))
  have F2_3 := F103.other W2 (Or.inr (slot_ne (Or.inr (hw _ (List.mem_of_getElem? (i := 45) rfl))) (Or.inr (hw _ (List.mem_of_getElem? (i := 39) rfl))) (by decide) (t := .long) (t' := .int) (by decide) (by decide)))
  have F2_4 := F104.other W2 (Or.inr (slot_ne (Or.inr (hw _ (List.mem_of_getElem? (i := 47) rfl))) (Or.inr (hw _ (List.mem_of_getElem? (i := 39) rfl))) (by decide) (t := .long) (t' := .int) (by decide) (by decide)))
  have F2_5 := F105.other W2 (Or.inr (slot_ne (Or.inr (hw _ (List.mem_of_getElem? (i := 49) rfl))) (Or.inr (hw _ (List.mem_of_getElem? (i := 39) rfl))) (by decide) (t := .long) (t' := .int) (by decide) (by decide)))
  have F2_6 := F106.other W2 (Or.inr (slot_ne (Or.inr (hw _ (List.mem_of_getElem? (i := 51) rfl))) (Or.inr (hw _ (List.mem_of_getElem? (i := 39) rfl))) (by decide) (t := (.object "java/util/List")) (t' := .int) (by decide) (by decide)))
  have F2_7 := F107.other W2 (Or.inr (slot_ne (Or.inr (hw _ (List.mem_of_getElem? (i := 53) rfl))) (Or.inr (hw _ (List.mem_of_getElem? (i := 39) rfl))) (by decide) (t := .long) (t' := .int) (by decide) (by decide)))
  have E2 := E.wr W2
  have K2 := (Keep.refl h0 [a]).wr W2 (Or.inl (List.mem_singleton.mpr rfl))
  refine own_w (T' := T2) (g' := (mkF m 10 #[.val (.ref a), .val (.int fm), .val (.long en), .second, .val (.long ro), .second, .val (.long sz), .second, .val (.long r1), .second, .val (.long r2), .second, .val (.ref li), .val (.long r3), .second] [(.ref a)])) (fun _ k_ => XS.aloadN X2.here hx rfl (hb hby own_d5_9) rfl rfl k_) ?_
  refine own_w (T' := T2) (g' := (mkF m 11 #[.val (.ref a), .val (.int fm), .val (.long en), .second, .val (.long ro), .second, .val (.long sz), .second, .val (.long r1), .second, .val (.long r2), .second, .val (.ref li), .val (.long r3), .second] [(.long en), (.ref a)])) (fun _ k_ => XS.lloadN X2.here hx rfl (hb hby own_d5_10) rfl k_) ?_
  obtain ⟨T3, h3, X3, e3, W3, st3⟩ := putF X2 hx hZ hown (host := "") (Or.inl (hw _ (List.mem_of_getElem? (i := 40) rfl))) Via.refl e2 F2_1 E2 (Or.inr ⟨(hw _ (List.mem_of_getElem? (i := 41) rfl)), rfl, hnm⟩) (hw _ (List.mem_of_getElem? (i := 27) rfl)) (ty := .long) (by decide) rfl rfl (g := (mkF m 11 #[.val (.ref a), .val (.int fm), .val (.long en), .second, .val (.long ro), .second, .val (.long sz), .second, .val (.long r1), .second, .val (.long r2), .second, .val (.ref li), .val (.long r3), .second] [(.long en), (.ref a)])) rfl rfl (hb hby own_d5_11)
  have N3 := Fr.snoc X3 N2 g_a
  refine own_w (T' := T3) (g' := (mkF m 14 #[.val (.ref a), .val (.int fm), .val (.long en), .second, .val (.long ro), .second, .val (.long sz), .second, .val (.long r1), .second, .val (.long r2), .second, .val (.ref li), .val (.long r3), .second] [])) st3 ?_
  have F3_0 := F2_0.other W3 (Or.inr (slot_ne (Or.inr (hw _ (List.mem_of_getElem? (i := 39) rfl))) (Or.inr (hw _ (List.mem_of_getElem? (i := 41) rfl))) (by decide) (t := .int) (t' := .long) (by decide) (by decide)))
  have F3_1 := F2_1.same W3
  have F3_2 := F2_2.other W3 (Or.inr (slot_ne (Or.inr (hw _ (List.mem_of_getElem? (i := 43) rfl))) (Or.inr (hw _ (List.mem_of_getElem? (i := 41) rfl))) (by decide) (t := .long) (t' := .long) (by decide) (by decide)))
  have F3_3 := F2_3.other W3 (Or.inr (slot_ne (Or.inr (hw _ (List.mem_of_getElem? (i := 45) rfl))) (Or.inr (hw _ (List.mem_of_getElem? (i := 41) rfl))) (by decide) (t := .long) (t' := .long) (by decide) (by decide)))
  have F3_4 := F2_4.other W3 (Or.inr (slot_ne (Or.inr (hw _ (List.mem_of_getElem? (i := 47) rfl))) (Or.inr (hw _ (List.mem_of_getElem? (i := 41) rfl))) (by decide) (t := .long) (t' := .long) (by decide) (by decide)))
  have F3_5 := F2_5.other W3 (Or.inr (slot_ne (Or.inr (hw _ (List.mem_of_getElem? (i := 49) rfl))) (Or.inr (hw _ (List.mem_of_getElem? (i := 41) rfl))) (by decide) (t := .long) (t' := .long) (by decide) (by decide)))
  have F3_6 := F2_6.other W3 (Or.inr (slot_ne (Or.inr (hw _ (List.mem_of_getElem? (i := 51) rfl))) (Or.inr (hw _ (List.mem_of_getElem? (i := 41) rfl))) (by decide) (t := (.object "java/util/List")) (t' := .long) (by decide) (by decide)))
  have F3_7 := F2_7.other W3 (Or.inr (slot_ne (Or.inr (hw _ (List.mem_of_getElem? (i := 53) rfl))) (Or.inr (hw _ (List.mem_of_getElem? (i := 41) rfl))) (by decide) (t := .long) (t' := .long) (by decide) (by decide)))
  have E3 := E2.wr W3
  have K3 := K2.wr W3 (Or.inl (List.mem_singleton.mpr rfl))
  refine own_w (T' := T3) (g' := (mkF m 15 #[.val (.ref a), .val (.int fm), .val (.long en), .second, .val (.long ro), .second, .val (.long sz), .second, .val (.long r1), .second, .val (.long r2), .second, .val (.ref li), .val (.long r3), .second] [(.ref a)])) (fun _ k_ => XS.aloadN X3.here hx rfl (hb hby own_d5_14) rfl rfl k_) ?_
  refine own_w (T' := T3) (g' := (mkF m 17 #[.val (.ref a), .val (.int fm), .val (.long en), .second, .val (.long ro), .second, .val (.long sz), .second, .val (.long r1), .second, .val (.long r2), .second, .val (.ref li), .val (.long r3), .second] [(.long ro), (.ref a)])) (fun _ k_ => XS.lload X3.here hx rfl (hb hby own_d5_15) rfl k_) ?_
  obtain ⟨T4, h4, X4, e4, W4, st4⟩ := putF X3 hx hZ hown (host := "") (Or.inl (hw _ (List.mem_of_getElem? (i := 42) rfl))) Via.refl e3 F3_2 E3 (Or.inr ⟨(hw _ (List.mem_of_getElem? (i := 43) rfl)), rfl, hnm⟩) (hw _ (List.mem_of_getElem? (i := 27) rfl)) (ty := .long) (by decide) rfl rfl (g := (mkF m 17 #[.val (.ref a), .val (.int fm), .val (.long en), .second, .val (.long ro), .second, .val (.long sz), .second, .val (.long r1), .second, .val (.long r2), .second, .val (.ref li), .val (.long r3), .second] [(.long ro), (.ref a)])) rfl rfl (hb hby own_d5_17)
  have N4 := Fr.snoc X4 N3 g_a
  refine own_w (T' := T4) (g' := (mkF m 20 #[.val (.ref a), .val (.int fm), .val (.long en), .second, .val (.long ro), .second, .val (.long sz), .second, .val (.long r1), .second, .val (.long r2), .second, .val (.ref li), .val (.long r3), .second] [])) st4 ?_
  have F4_0 := F3_0.other W4 (Or.inr (slot_ne (Or.inr (hw _ (List.mem_of_getElem? (i := 39) rfl))) (Or.inr (hw _ (List.mem_of_getElem? (i := 43) rfl))) (by decide) (t := .int) (t' := .long) (by decide) (by decide)))
  have F4_1 := F3_1.other W4 (Or.inr (slot_ne (Or.inr (hw _ (List.mem_of_getElem? (i := 41) rfl))) (Or.inr (hw _ (List.mem_of_getElem? (i := 43) rfl))) (by decide) (t := .long) (t' := .long) (by decide) (by decide)))
  have F4_2 := F3_2.same W4
  have F4_3 := F3_3.other W4 (Or.inr (slot_ne (Or.inr (hw _ (List.mem_of_getElem? (i := 45) rfl))) (Or.inr (hw _ (List.mem_of_getElem? (i := 43) rfl))) (by decide) (t := .long) (t' := .long) (by decide) (by decide)))
  have F4_4 := F3_4.other W4 (Or.inr (slot_ne (Or.inr (hw _ (List.mem_of_getElem? (i := 47) rfl))) (Or.inr (hw _ (List.mem_of_getElem? (i := 43) rfl))) (by decide) (t := .long) (t' := .long) (by decide) (by decide)))
  have F4_5 := F3_5.other W4 (Or.inr (slot_ne (Or.inr (hw _ (List.mem_of_getElem? (i := 49) rfl))) (Or.inr (hw _ (List.mem_of_getElem? (i := 43) rfl))) (by decide) (t := .long) (t' := .long) (by decide) (by decide)))
  have F4_6 := F3_6.other W4 (Or.inr (slot_ne (Or.inr (hw _ (List.mem_of_getElem? (i := 51) rfl))) (Or.inr (hw _ (List.mem_of_getElem? (i := 43) rfl))) (by decide) (t := (.object "java/util/List")) (t' := .long) (by decide) (by decide)))
  have F4_7 := F3_7.other W4 (Or.inr (slot_ne (Or.inr (hw _ (List.mem_of_getElem? (i := 53) rfl))) (Or.inr (hw _ (List.mem_of_getElem? (i := 43) rfl))) (by decide) (t := .long) (t' := .long) (by decide) (by decide)))
  have E4 := E3.wr W4
  have K4 := K3.wr W4 (Or.inl (List.mem_singleton.mpr rfl))
  refine own_w (T' := T4) (g' := (mkF m 21 #[.val (.ref a), .val (.int fm), .val (.long en), .second, .val (.long ro), .second, .val (.long sz), .second, .val (.long r1), .second, .val (.long r2), .second, .val (.ref li), .val (.long r3), .second] [(.ref a)])) (fun _ k_ => XS.aloadN X4.here hx rfl (hb hby own_d5_20) rfl rfl k_) ?_
  refine own_w (T' := T4) (g' := (mkF m 23 #[.val (.ref a), .val (.int fm), .val (.long en), .second, .val (.long ro), .second, .val (.long sz), .second, .val (.long r1), .second, .val (.long r2), .second, .val (.ref li), .val (.long r3), .second] [(.long sz), (.ref a)])) (fun _ k_ => XS.lload X4.here hx rfl (hb hby own_d5_21) rfl k_) ?_
  obtain ⟨T5, h5, X5, e5, W5, st5⟩ := putF X4 hx hZ hown (host := "") (Or.inl (hw _ (List.mem_of_getElem? (i := 44) rfl))) Via.refl e4 F4_3 E4 (Or.inr ⟨(hw _ (List.mem_of_getElem? (i := 45) rfl)), rfl, hnm⟩) (hw _ (List.mem_of_getElem? (i := 27) rfl)) (ty := .long) (by decide) rfl rfl (g := (mkF m 23 #[.val (.ref a), .val (.int fm), .val (.long en), .second, .val (.long ro), .second, .val (.long sz), .second, .val (.long r1), .second, .val (.long r2), .second, .val (.ref li), .val (.long r3), .second] [(.long sz), (.ref a)])) rfl rfl (hb hby own_d5_23)
  have N5 := Fr.snoc X5 N4 g_a
  refine own_w (T' := T5) (g' := (mkF m 26 #[.val (.ref a), .val (.int fm), .val (.long en), .second, .val (.long ro), .second, .val (.long sz), .second, .val (.long r1), .second, .val (.long r2), .second, .val (.ref li), .val (.long r3), .second] [])) st5 ?_
  have F5_0 := F4_0.other W5 (Or.inr (slot_ne (Or.inr (hw _ (List.mem_of_getElem? (i := 39) rfl))) (Or.inr (hw _ (List.mem_of_getElem? (i := 45) rfl))) (by decide) (t := .int) (t' := .long) (by decide) (by decide)))
  have F5_1 := F4_1.other W5 (Or.inr (slot_ne (Or.inr (hw _ (List.mem_of_getElem? (i := 41) rfl))) (Or.inr (hw _ (List.mem_of_getElem? (i := 45) rfl))) (by decide) (t := .long) (t' := .long) (by decide) (by decide)))
  have F5_2 := F4_2.other W5 (Or.inr (slot_ne (Or.inr (hw _ (List.mem_of_getElem? (i := 43) rfl))) (Or.inr (hw _ (List.mem_of_getElem? (i := 45) rfl))) (by decide) (t := .long) (t' := .long) (by decide) (by decide)))
  have F5_3 := F4_3.same W5
  have F5_4 := F4_4.other W5 (Or.inr (slot_ne (Or.inr (hw _ (List.mem_of_getElem? (i := 47) rfl))) (Or.inr (hw _ (List.mem_of_getElem? (i := 45) rfl))) (by decide) (t := .long) (t' := .long) (by decide) (by decide)))
  have F5_5 := F4_5.other W5 (Or.inr (slot_ne (Or.inr (hw _ (List.mem_of_getElem? (i := 49) rfl))) (Or.inr (hw _ (List.mem_of_getElem? (i := 45) rfl))) (by decide) (t := .long) (t' := .long) (by decide) (by decide)))
  have F5_6 := F4_6.other W5 (Or.inr (slot_ne (Or.inr (hw _ (List.mem_of_getElem? (i := 51) rfl))) (Or.inr (hw _ (List.mem_of_getElem? (i := 45) rfl))) (by decide) (t := (.object "java/util/List")) (t' := .long) (by decide) (by decide)))
  have F5_7 := F4_7.other W5 (Or.inr (slot_ne (Or.inr (hw _ (List.mem_of_getElem? (i := 53) rfl))) (Or.inr (hw _ (List.mem_of_getElem? (i := 45) rfl))) (by decide) (t := .long) (t' := .long) (by decide) (by decide)))
  have E5 := E4.wr W5
  have K5 := K4.wr W5 (Or.inl (List.mem_singleton.mpr rfl))
  refine own_w (T' := T5) (g' := (mkF m 27 #[.val (.ref a), .val (.int fm), .val (.long en), .second, .val (.long ro), .second, .val (.long sz), .second, .val (.long r1), .second, .val (.long r2), .second, .val (.ref li), .val (.long r3), .second] [(.ref a)])) (fun _ k_ => XS.aloadN X5.here hx rfl (hb hby own_d5_26) rfl rfl k_) ?_
  refine own_w (T' := T5) (g' := (mkF m 29 #[.val (.ref a), .val (.int fm), .val (.long en), .second, .val (.long ro), .second, .val (.long sz), .second, .val (.long r1), .second, .val (.long r2), .second, .val (.ref li), .val (.long r3), .second] [(.long r1), (.ref a)])) (fun _ k_ => XS.lload X5.here hx rfl (hb hby own_d5_27) rfl k_) ?_
  obtain ⟨T6, h6, X6, e6, W6, st6⟩ := putF X5 hx hZ hown (host := "") (Or.inl (hw _ (List.mem_of_getElem? (i := 46) rfl))) Via.refl e5 F5_4 E5 (Or.inr ⟨(hw _ (List.mem_of_getElem? (i := 47) rfl)), rfl, hnm⟩) (hw _ (List.mem_of_getElem? (i := 27) rfl)) (ty := .long) (by decide) rfl rfl (g := (mkF m 29 #[.val (.ref a), .val (.int fm), .val (.long en), .second, .val (.long ro), .second, .val (.long sz), .second, .val (.long r1), .second, .val (.long r2), .second, .val (.ref li), .val (.long r3), .second] [(.long r1), (.ref a)])) rfl rfl (hb hby own_d5_29)
  have N6 := Fr.snoc X6 N5 g_a
  refine own_w (T' := T6) (g' := (mkF m 32 #[.val (.ref a), .val (.int fm), .val (.long en), .second, .val (.long ro), .second, .val (.long sz), .second, .val (.long r1), .second, .val (.long r2), .second, .val (.ref li), .val (.long r3), .second] [])) st6 ?_
  have F6_0 := F5_0.other W6 (Or.inr (slot_ne (Or.inr (hw _ (List.mem_of_getElem? (i := 39) rfl))) (Or.inr (hw _ (List.mem_of_getElem? (i := 47) rfl))) (by decide) (t := .int) (t' := .long) (by decide) (by decide)))
  have F6_1 := F5_1.other W6 (Or.inr (slot_ne (Or.inr (hw _ (List.mem_of_getElem? (i := 41) rfl))) (Or.inr (hw _ (List.mem_of_getElem? (i := 47) rfl))) (by decide) (t := .long) (t' := .long) (by decide) (by decide)))
  have F6_2 := F5_2.other W6 (Or.inr (slot_ne (Or.inr (hw _ (List.mem_of_getElem? (i := 43) rfl))) (Or.inr (hw _ (List.mem_of_getElem? (i := 47) rfl))) (by decide) (t := .long) (t' := .long) (by decide) (by decide)))
  have F6_3 := F5_3.other W6 (Or.inr (slot_ne (Or.inr (hw _ (List.mem_of_getElem? (i := 45) rfl))) (Or.inr (hw _ (List.mem_of_getElem? (i := 47) rfl))) (by decide) (t := .long) (t' := .long) (by decide) (by decide)))
  have F6_4 := F5_4.same W6
  have F6_5 := F5_5.other W6 (Or.inr (slot_ne (Or.inr (hw _ (List.mem_of_getElem? (i := 49) rfl))) (Or.inr (hw _ (List.mem_of_getElem? (i := 47) rfl))) (by decide) (t := .long) (t' := .long) (by decide) (by decide)))
  have F6_6 := F5_6.other W6 (Or.inr (slot_ne (Or.inr (hw _ (List.mem_of_getElem? (i := 51) rfl))) (Or.inr (hw _ (List.mem_of_getElem? (i := 47) rfl))) (by decide) (t := (.object "java/util/List")) (t' := .long) (by decide) (by decide)))
  have F6_7 := F5_7.other W6 (Or.inr (slot_ne (Or.inr (hw _ (List.mem_of_getElem? (i := 53) rfl))) (Or.inr (hw _ (List.mem_of_getElem? (i := 47) rfl))) (by decide) (t := .long) (t' := .long) (by decide) (by decide)))
  have E6 := E5.wr W6
  have K6 := K5.wr W6 (Or.inl (List.mem_singleton.mpr rfl))
  refine own_w (T' := T6) (g' := (mkF m 33 #[.val (.ref a), .val (.int fm), .val (.long en), .second, .val (.long ro), .second, .val (.long sz), .second, .val (.long r1), .second, .val (.long r2), .second, .val (.ref li), .val (.long r3), .second] [(.ref a)])) (fun _ k_ => XS.aloadN X6.here hx rfl (hb hby own_d5_32) rfl rfl k_) ?_
  refine own_w (T' := T6) (g' := (mkF m 35 #[.val (.ref a), .val (.int fm), .val (.long en), .second, .val (.long ro), .second, .val (.long sz), .second, .val (.long r1), .second, .val (.long r2), .second, .val (.ref li), .val (.long r3), .second] [(.long r2), (.ref a)])) (fun _ k_ => XS.lload X6.here hx rfl (hb hby own_d5_33) rfl k_) ?_
  obtain ⟨T7, h7, X7, e7, W7, st7⟩ := putF X6 hx hZ hown (host := "") (Or.inl (hw _ (List.mem_of_getElem? (i := 48) rfl))) Via.refl e6 F6_5 E6 (Or.inr ⟨(hw _ (List.mem_of_getElem? (i := 49) rfl)), rfl, hnm⟩) (hw _ (List.mem_of_getElem? (i := 27) rfl)) (ty := .long) (by decide) rfl rfl (g := (mkF m 35 #[.val (.ref a), .val (.int fm), .val (.long en), .second, .val (.long ro), .second, .val (.long sz), .second, .val (.long r1), .second, .val (.long r2), .second, .val (.ref li), .val (.long r3), .second] [(.long r2), (.ref a)])) rfl rfl (hb hby own_d5_35)
  have N7 := Fr.snoc X7 N6 g_a
  refine own_w (T' := T7) (g' := (mkF m 38 #[.val (.ref a), .val (.int fm), .val (.long en), .second, .val (.long ro), .second, .val (.long sz), .second, .val (.long r1), .second, .val (.long r2), .second, .val (.ref li), .val (.long r3), .second] [])) st7 ?_
  have F7_0 := F6_0.other W7 (Or.inr (slot_ne (Or.inr (hw _ (List.mem_of_getElem? (i := 39) rfl))) (Or.inr (hw _ (List.mem_of_getElem? (i := 49) rfl))) (by decide) (t := .int) (t' := .long) (by decide) (by decide)))
  have F7_1 := F6_1.other W7 (Or.inr (slot_ne (Or.inr (hw _ (List.mem_of_getElem? (i := 41) rfl))) (Or.inr (hw _ (List.mem_of_getElem? (i := 49) rfl))) (by decide) (t := .long) (t' := .long) (by decide) (by decide)))
  have F7_2 := F6_2.other W7 (Or.inr (slot_ne (Or.inr (hw _ (List.mem_of_getElem? (i := 43) rfl))) (Or.inr (hw _ (List.mem_of_getElem? (i := 49) rfl))) (by decide) (t := .long) (t' := .long) (by decide) (by decide)))
  have F7_3 := F6_3.other W7 (Or.inr (slot_ne (Or.inr (hw _ (List.mem_of_getElem? (i := 45) rfl))) (Or.inr (hw _ (List.mem_of_getElem? (i := 49) rfl))) (by decide) (t := .long) (t' := .long) (by decide) (by decide)))
  have F7_5 := F6_5.same W7
  have F7_6 := F6_6.other W7 (Or.inr (slot_ne (Or.inr (hw _ (List.mem_of_getElem? (i := 51) rfl))) (Or.inr (hw _ (List.mem_of_getElem? (i := 49) rfl))) (by decide) (t := (.object "java/util/List")) (t' := .long) (by decide) (by decide)))
  have F7_7 := F6_7.other W7 (Or.inr (slot_ne (Or.inr (hw _ (List.mem_of_getElem? (i := 53) rfl))) (Or.inr (hw _ (List.mem_of_getElem? (i := 49) rfl))) (by decide) (t := .long) (t' := .long) (by decide) (by decide)))
  have E7 := E6.wr W7
  have K7 := K6.wr W7 (Or.inl (List.mem_singleton.mpr rfl))
  refine own_w (T' := T7) (g' := (mkF m 39 #[.val (.ref a), .val (.int fm), .val (.long en), .second, .val (.long ro), .second, .val (.long sz), .second, .val (.long r1), .second, .val (.long r2), .second, .val (.ref li), .val (.long r3), .second] [(.ref a)])) (fun _ k_ => XS.aloadN X7.here hx rfl (hb hby own_d5_38) rfl rfl k_) ?_
  refine own_w (T' := T7) (g' := (mkF m 41 #[.val (.ref a), .val (.int fm), .val (.long en), .second, .val (.long ro), .second, .val (.long sz), .second, .val (.long r1), .second, .val (.long r2), .second, .val (.ref li), .val (.long r3), .second] [(.ref li), (.ref a)])) (fun _ k_ => XS.aload X7.here hx rfl (hb hby own_d5_39) rfl rfl k_) ?_
  obtain ⟨T8, h8, X8, e8, W8, st8⟩ := putF X7 hx hZ hown (host := "") (Or.inl (hw _ (List.mem_of_getElem? (i := 50) rfl))) Via.refl e7 F7_6 E7 (Or.inr ⟨(hw _ (List.mem_of_getElem? (i := 51) rfl)), rfl, hnm⟩) (hw _ (List.mem_of_getElem? (i := 27) rfl)) (ty := (.object "java/util/List")) (by decide) rfl rfl (g := (mkF m 41 #[.val (.ref a), .val (.int fm), .val (.long en), .second, .val (.long ro), .second, .val (.long sz), .second, .val (.long r1), .second, .val (.long r2), .second, .val (.ref li), .val (.long r3), .second] [(.ref li), (.ref a)])) rfl rfl (hb hby own_d5_41)
  have N8 := Fr.snoc X8 N7 g_a
  refine own_w (T' := T8) (g' := (mkF m 44 #[.val (.ref a), .val (.int fm), .val (.long en), .second, .val (.long ro), .second, .val (.long sz), .second, .val (.long r1), .second, .val (.long r2), .second, .val (.ref li), .val (.long r3), .second] [])) st8 ?_
  have F8_0 := F7_0.other W8 (Or.inr (slot_ne (Or.inr (hw _ (List.mem_of_getElem? (i := 39) rfl))) (Or.inr (hw _ (List.mem_of_getElem? (i := 51) rfl))) (by decide) (t := .int) (t' := (.object "java/util/List")) (by decide) (by decide)))
  have F8_1 := F7_1.other W8 (Or.inr (slot_ne (Or.inr (hw _ (List.mem_of_getElem? (i := 41) rfl))) (Or.inr (hw _ (List.mem_of_getElem? (i := 51) rfl))) (by decide) (t := .long) (t' := (.object "java/util/List")) (by decide) (by decide)))
  have F8_2 := F7_2.other W8 (Or.inr (slot_ne (Or.inr (hw _ (List.mem_of_getElem? (i := 43) rfl))) (Or.inr (hw _ (List.mem_of_getElem? (i := 51) rfl))) (by decide) (t := .long) (t' := (.object "java/util/List")) (by decide) (by decide)))
  have F8_3 := F7_3.other W8 (Or.inr (slot_ne (Or.inr (hw _ (List.mem_of_getElem? (i := 45) rfl))) (Or.inr (hw _ (List.mem_of_getElem? (i := 51) rfl))) (by decide) (t := .long) (t' := (.object "java/util/List")) (by decide) (by decide)))
  have F8_6 := F7_6.same W8
  have F8_7 := F7_7.other W8 (Or.inr (slot_ne (Or.inr (hw _ (List.mem_of_getElem? (i := 53) rfl))) (Or.inr (hw _ (List.mem_of_getElem? (i := 51) rfl))) (by decide) (t := .long) (t' := (.object "java/util/List")) (by decide) (by decide)))
  have E8 := E7.wr W8
  have K8 := K7.wr W8 (Or.inl (List.mem_singleton.mpr rfl))
  refine own_w (T' := T8) (g' := (mkF m 45 #[.val (.ref a), .val (.int fm), .val (.long en), .second, .val (.long ro), .second, .val (.long sz), .second, .val (.long r1), .second, .val (.long r2), .second, .val (.ref li), .val (.long r3), .second] [(.ref a)])) (fun _ k_ => XS.aloadN X8.here hx rfl (hb hby own_d5_44) rfl rfl k_) ?_
  refine own_w (T' := T8) (g' := (mkF m 47 #[.val (.ref a), .val (.int fm), .val (.long en), .second, .val (.long ro), .second, .val (.long sz), .second, .val (.long r1), .second, .val (.long r2), .second, .val (.ref li), .val (.long r3), .second] [(.long r3), (.ref a)])) (fun _ k_ => XS.lload X8.here hx rfl (hb hby own_d5_45) rfl k_) ?_
  obtain ⟨T9, h9, X9, e9, W9, st9⟩ := putF X8 hx hZ hown (host := "") (Or.inl (hw _ (List.mem_of_getElem? (i := 52) rfl))) Via.refl e8 F8_7 E8 (Or.inr ⟨(hw _ (List.mem_of_getElem? (i := 53) rfl)), rfl, hnm⟩) (hw _ (List.mem_of_getElem? (i := 27) rfl)) (ty := .long) (by decide) rfl rfl (g := (mkF m 47 #[.val (.ref a), .val (.int fm), .val (.long en), .second, .val (.long ro), .second, .val (.long sz), .second, .val (.long r1), .second, .val (.long r2), .second, .val (.ref li), .val (.long r3), .second] [(.long r3), (.ref a)])) rfl rfl (hb hby own_d5_47)
  have N9 := Fr.snoc X9 N8 g_a
  refine own_w (T' := T9) (g' := (mkF m 50 #[.val (.ref a), .val (.int fm), .val (.long en), .second, .val (.long ro), .second, .val (.long sz), .second, .val (.long r1), .second, .val (.long r2), .second, .val (.ref li), .val (.long r3), .second] [])) st9 ?_
  have F9_0 := F8_0.other W9 (Or.inr (slot_ne (Or.inr (hw _ (List.mem_of_getElem? (i := 39) rfl))) (Or.inr (hw _ (List.mem_of_getElem? (i := 53) rfl))) (by decide) (t := .int) (t' := .long) (by decide) (by decide)))
  have F9_1 := F8_1.other W9 (Or.inr (slot_ne (Or.inr (hw _ (List.mem_of_getElem? (i := 41) rfl))) (Or.inr (hw _ (List.mem_of_getElem? (i := 53) rfl))) (by decide) (t := .long) (t' := .long) (by decide) (by decide)))
  have F9_2 := F8_2.other W9 (Or.inr (slot_ne (Or.inr (hw _ (List.mem_of_getElem? (i := 43) rfl))) (Or.inr (hw _ (List.mem_of_getElem? (i := 53) rfl))) (by decide) (t := .long) (t' := .long) (by decide) (by decide)))
  have F9_3 := F8_3.other W9 (Or.inr (slot_ne (Or.inr (hw _ (List.mem_of_getElem? (i := 45) rfl))) (Or.inr (hw _ (List.mem_of_getElem? (i := 53) rfl))) (by decide) (t := .long) (t' := .long) (by decide) (by decide)))
  have F9_7 := F8_7.same W9
  have E9 := E8.wr W9
  have K9 := K8.wr W9 (Or.inl (List.mem_singleton.mpr rfl))
  obtain ⟨fs, hr, hrun, hended, hW, hsame⟩ := X9.leave (v := none) (fun _ => rfl)
  exact ⟨_, _, X9.returnOut hx Bd.returns (hb hby own_d5_50) hr, hrun, hended, _, _, rfl, (by show own_Q5 Z a fm en ro sz r1 r2 li r3 u0 u1 u2 u3 u4 u5 u6 u7 h0 n0 _ T9.heap _; rw [e9]; exact ⟨rfl, N9, K9, F9_0, F9_1, F9_2, F9_3⟩), ⟨_, rfl⟩, hW, hsame.mono (by decide) (by decide)⟩
theorem own_d7_0 : decode prog_35_method_2_code 0 = .ok (.aload_n 0, 1) := by decide +kernel
theorem own_d7_1 : decode prog_35_method_2_code 1 = .ok (.getfield 7, 3) := by decide +kernel
theorem own_d7_4 : decode prog_35_method_2_code 4 = .ok (.ifCond .le 24, 3) := by decide +kernel
theorem own_d7_7 : decode prog_35_method_2_code 7 = .ok (.aload_n 0, 1) := by decide +kernel
theorem own_d7_8 : decode prog_35_method_2_code 8 = .ok (.getfield 13, 3) := by decide +kernel
theorem own_d7_11 : decode prog_35_method_2_code 11 = .ok (.aload_n 0, 1) := by decide +kernel
theorem own_d7_12 : decode prog_35_method_2_code 12 = .ok (.getfield 17, 3) := by decide +kernel
theorem own_d7_15 : decode prog_35_method_2_code 15 = .ok (.ladd, 1) := by decide +kernel
theorem own_d7_16 : decode prog_35_method_2_code 16 = .ok (.aload_n 0, 1) := by decide +kernel
theorem own_d7_17 : decode prog_35_method_2_code 17 = .ok (.getfield 20, 3) := by decide +kernel
theorem own_d7_20 : decode prog_35_method_2_code 20 = .ok (.lcmp, 1) := by decide +kernel
theorem own_d7_21 : decode prog_35_method_2_code 21 = .ok (.ifCond .ne 7, 3) := by decide +kernel
theorem own_d7_24 : decode prog_35_method_2_code 24 = .ok (.iconst 1, 1) := by decide +kernel
theorem own_d7_25 : decode prog_35_method_2_code 25 = .ok (.goto 4, 3) := by decide +kernel
theorem own_d7_29 : decode prog_35_method_2_code 29 = .ok (.ireturn, 1) := by decide +kernel
theorem own_d7_28 : decode prog_35_method_2_code 28 = .ok (.iconst 0, 1) := by decide +kernel
theorem own_rm7_ef (m : MethodId) (a : Addr) : entryFrame m #[(.ref a)] 1 = mkF m 0 #[.val (.ref a)] [] := by first | (simp [entryFrame, mkF, argsToLocals, Value.category]; done) | rfl
def own_Q7 (Z : State) (a : Addr) (fm : Int32) (en : Int64) (ro : Int64) (sz : Int64) (h0 : Heap) (n0 : Nat) (v_ : Option Value) (h : Heap) (L_ : List Loc) : Prop := v_ = some (.int (if ((0 : Int32) < fm ∧ en + ro = sz) then (1 : Int32) else 0)) ∧ Fr n0 L_ ∧ (h = h0)
set_option maxRecDepth 65536 in
set_option maxHeartbeats 40000000 in
theorem own_rm7 (l : Launch) (Z : State) (a0 : Array Value) (hw : ∀ d ∈ tables_1, d.before a0 Z = true) (ws : List Jvm.Cond) (a : Addr) (fm : Int32) (en : Int64) (ro : Int64) (sz : Int64) (h0 : Heap) (n0 : Nat) (Z0 : n0 ≤ h0.size) (F0 : Fld Z h0 a "com/example/oaken_shelf/oakenshelf/journal/Frames$Reading" "format" "I" (.int fm)) (F1 : Fld Z h0 a "com/example/oaken_shelf/oakenshelf/journal/Frames$Reading" "end" "J" (.long en)) (F2 : Fld Z h0 a "com/example/oaken_shelf/oakenshelf/journal/Frames$Reading" "room" "J" (.long ro)) (F3 : Fld Z h0 a "com/example/oaken_shelf/oakenshelf/journal/Frames$Reading" "size" "J" (.long sz)) :
    MetFree l (⟨"com/example/oaken_shelf/oakenshelf/journal/Frames$Reading", "whole", "()Z"⟩ : MethodName) (head1 (Jvm.Cond.code (⟨"com/example/oaken_shelf/oakenshelf/journal/Frames$Reading", "whole", "()Z"⟩ : MethodName) prog_35_method_2_code 1 (some .boolean) :: ws) ({ frames := 0, cells := 0, slots := 0, locals := 0 } : Room)) (fun a_ U_ => a_ = #[(.ref a)] ∧ Z.Warmed39 U_.vm ∧ U_.heap = h0) (fun _ _ _ _ _ => True) (fun _ U_ o_ V_ => ∃ v_ L_, o_ = .returned v_ ∧ own_Q7 Z a fm en ro sz h0 n0 v_ V_.heap L_ ∧ FrameEnd U_ o_ V_ L_ ({ frames := 0, cells := 0, slots := 0, locals := 0 } : Room).cells ({ frames := 0, cells := 0, slots := 0, locals := 0 } : Room).slots) := by
  refine MetFree.of_bodySF (plainFor_of_name own_pn_com_example_oaken_shelf_oakenshelf_journal_Frames_Reading) hisR ?_
  intro p e s m args below meth c s₁ Bd hml0 hP hK
  obtain ⟨rfl, hZ, hh⟩ := hP
  have hx := Bd.exec
  have hby := Bd.bytes
  have hml : c.maxLocals = 1 := hml0
  have hown : s.vm.findClass "com/example/oaken_shelf/oakenshelf/journal/Frames$Reading" = some m.cls := findClass_of_methodNamed Bd.named
  have hnm := (name_of_methodNamed Bd.named Bd.method).1
  have X0 : Stand p l e ({ frames := 0, cells := 0, slots := 0, locals := 0 } : Room) s m #[(.ref a)] below meth c s₁ [] 0 0 := Stand.of_body Bd
  have e0 : s₁.heap = h0 := by rw [← hh, Bd.state]; rfl
  have N0 := Fr.nil n0
  show own_G p e below s (own_Q7 Z a fm en ro sz h0 n0) ({ frames := 0, cells := 0, slots := 0, locals := 0 } : Room).cells ({ frames := 0, cells := 0, slots := 0, locals := 0 } : Room).slots s₁ (entryFrame m #[(.ref a)] 1)
  rw [own_rm7_ef]
  refine own_w (T' := s₁) (g' := (mkF m 1 #[.val (.ref a)] [(.ref a)])) (fun _ k_ => XS.aloadN X0.here hx rfl (hb hby own_d7_0) rfl rfl k_) ?_
  obtain ⟨T1, X1, e1, st1⟩ := getF X0 hx hZ hown (host := "") (Or.inl (hw _ (List.mem_of_getElem? (i := 38) rfl))) Via.refl e0 F0 (g := (mkF m 1 #[.val (.ref a)] [(.ref a)])) rfl rfl (hb hby own_d7_1)
  refine own_w (T' := T1) (g' := (mkF m 4 #[.val (.ref a)] [(.int fm)])) st1 ?_
  by_cases hc4 : (0 : Int32) < fm
  · refine own_w (T' := T1) (g' := (mkF m 7 #[.val (.ref a)] [])) (fun _ k_ => XS.ifNo X1.here hx rfl (hb hby own_d7_4) rfl ((if0 _ _).trans (tlt hc4).2.2.2) k_) ?_
    refine own_w (T' := T1) (g' := (mkF m 8 #[.val (.ref a)] [(.ref a)])) (fun _ k_ => XS.aloadN X1.here hx rfl (hb hby own_d7_7) rfl rfl k_) ?_
    obtain ⟨T2, X2, e2, st2⟩ := getF X1 hx hZ hown (host := "") (Or.inl (hw _ (List.mem_of_getElem? (i := 40) rfl))) Via.refl e1 F1 (g := (mkF m 8 #[.val (.ref a)] [(.ref a)])) rfl rfl (hb hby own_d7_8)
    refine own_w (T' := T2) (g' := (mkF m 11 #[.val (.ref a)] [(.long en)])) st2 ?_
    refine own_w (T' := T2) (g' := (mkF m 12 #[.val (.ref a)] [(.ref a), (.long en)])) (fun _ k_ => XS.aloadN X2.here hx rfl (hb hby own_d7_11) rfl rfl k_) ?_
    obtain ⟨T3, X3, e3, st3⟩ := getF X2 hx hZ hown (host := "") (Or.inl (hw _ (List.mem_of_getElem? (i := 42) rfl))) Via.refl e2 F2 (g := (mkF m 12 #[.val (.ref a)] [(.ref a), (.long en)])) rfl rfl (hb hby own_d7_12)
    refine own_w (T' := T3) (g' := (mkF m 15 #[.val (.ref a)] [(.long ro), (.long en)])) st3 ?_
    refine own_w (T' := T3) (g' := (mkF m 16 #[.val (.ref a)] [(.long (en + ro))])) (fun _ k_ => XS.ladd X3.here hx rfl (hb hby own_d7_15) rfl k_) ?_
    refine own_w (T' := T3) (g' := (mkF m 17 #[.val (.ref a)] [(.ref a), (.long (en + ro))])) (fun _ k_ => XS.aloadN X3.here hx rfl (hb hby own_d7_16) rfl rfl k_) ?_
    obtain ⟨T4, X4, e4, st4⟩ := getF X3 hx hZ hown (host := "") (Or.inl (hw _ (List.mem_of_getElem? (i := 44) rfl))) Via.refl e3 F3 (g := (mkF m 17 #[.val (.ref a)] [(.ref a), (.long (en + ro))])) rfl rfl (hb hby own_d7_17)
    refine own_w (T' := T4) (g' := (mkF m 20 #[.val (.ref a)] [(.long sz), (.long (en + ro))])) st4 ?_
    refine own_w (T' := T4) (g' := (mkF m 21 #[.val (.ref a)] [(.int (lcmpW (en + ro) sz))])) (fun _ k_ => XS.lcmp X4.here hx rfl (hb hby own_d7_20) rfl k_) ?_
    by_cases hc21 : (en + ro) = sz
    · refine own_w (T' := T4) (g' := (mkF m 24 #[.val (.ref a)] [])) (fun _ k_ => XS.ifNo X4.here hx rfl (hb hby own_d7_21) rfl ((if0 _ _).trans (teq ((lw_eq _ _).mpr hc21)).2) k_) ?_
      refine own_w (T' := T4) (g' := (mkF m 25 #[.val (.ref a)] [(.int (1 : Int32))])) (fun _ k_ => XS.iconst X4.here hx rfl (hb hby own_d7_24) k_) ?_
      refine own_w (T' := T4) (g' := (mkF m 29 #[.val (.ref a)] [(.int (1 : Int32))])) (fun _ k_ => XS.goto X4.here hx rfl (pc0 := 25) (pc' := 29) rfl (hb hby own_d7_25) (by decide) (by decide) k_) ?_
      obtain ⟨fs, hr, hrun, hended, hW, hsame⟩ := X4.leave (v := some (.int (1 : Int32))) (fun h => by rw [Bd.returns] at h; cases h)
      exact ⟨_, _, retOut X4 hx Bd.returns rfl (Or.inl ⟨rfl, Or.inr (Or.inl rfl), _, rfl⟩) (hb hby own_d7_29) hr, hrun, hended, _, _, rfl, (by show own_Q7 Z a fm en ro sz h0 n0 _ T4.heap _; rw [e4]; exact ⟨(by simp [hc4, hc21]), N0, rfl⟩), ⟨_, rfl⟩, hW, hsame.mono (by decide) (by decide)⟩
    · refine own_w (T' := T4) (g' := (mkF m 28 #[.val (.ref a)] [])) (fun _ k_ => XS.ifYes X4.here hx rfl (pc0 := 21) (pc' := 28) rfl (hb hby own_d7_21) rfl ((if0 _ _).trans (feq (mt (lw_eq _ _).mp hc21)).2) (by decide) (by decide) k_) ?_
      refine own_w (T' := T4) (g' := (mkF m 29 #[.val (.ref a)] [(.int (0 : Int32))])) (fun _ k_ => XS.iconst X4.here hx rfl (hb hby own_d7_28) k_) ?_
      obtain ⟨fs, hr, hrun, hended, hW, hsame⟩ := X4.leave (v := some (.int (0 : Int32))) (fun h => by rw [Bd.returns] at h; cases h)
      exact ⟨_, _, retOut X4 hx Bd.returns rfl (Or.inl ⟨rfl, Or.inr (Or.inl rfl), _, rfl⟩) (hb hby own_d7_29) hr, hrun, hended, _, _, rfl, (by show own_Q7 Z a fm en ro sz h0 n0 _ T4.heap _; rw [e4]; exact ⟨(by simp [hc4, hc21]), N0, rfl⟩), ⟨_, rfl⟩, hW, hsame.mono (by decide) (by decide)⟩
  · refine own_w (T' := T1) (g' := (mkF m 28 #[.val (.ref a)] [])) (fun _ k_ => XS.ifYes X1.here hx rfl (pc0 := 4) (pc' := 28) rfl (hb hby own_d7_4) rfl ((if0 _ _).trans (flt hc4).2.2.2) (by decide) (by decide) k_) ?_
    refine own_w (T' := T1) (g' := (mkF m 29 #[.val (.ref a)] [(.int (0 : Int32))])) (fun _ k_ => XS.iconst X1.here hx rfl (hb hby own_d7_28) k_) ?_
    obtain ⟨fs, hr, hrun, hended, hW, hsame⟩ := X1.leave (v := some (.int (0 : Int32))) (fun h => by rw [Bd.returns] at h; cases h)
    exact ⟨_, _, retOut X1 hx Bd.returns rfl (Or.inl ⟨rfl, Or.inr (Or.inl rfl), _, rfl⟩) (hb hby own_d7_29) hr, hrun, hended, _, _, rfl, (by show own_Q7 Z a fm en ro sz h0 n0 _ T1.heap _; rw [e1]; exact ⟨(by simp [hc4]), N0, rfl⟩), ⟨_, rfl⟩, hW, hsame.mono (by decide) (by decide)⟩
theorem own_t1 {fm : Int32} {en ro sz : Int64} (h : fm < 1) : (if ((0 : Int32) < fm ∧ en + ro = sz) then (1 : Int32) else 0) = 0 := by
  refine if_neg fun q => ?_
  have := q.1
  simp only [Int32.lt_iff_toInt_lt] at h this
  have e0 : (0 : Int32).toInt = 0 := by decide
  have e1 : (1 : Int32).toInt = 1 := by decide
  omega
theorem own_sub {en ro sz : Int64} : sz - en = ro ↔ en + ro = sz := by
  constructor
  · rintro rfl; rw [Int64.add_comm, Int64.sub_add_cancel]
  · rintro rfl; rw [Int64.add_comm, Int64.add_sub_cancel]
theorem own_t2 {fm : Int32} {en ro sz : Int64} (h : ¬ fm < 1) (g : sz - en = ro) : (if ((0 : Int32) < fm ∧ en + ro = sz) then (1 : Int32) else 0) = 1 := by
  refine if_pos ⟨?_, own_sub.mp g⟩
  simp only [Int32.lt_iff_toInt_lt] at h ⊢
  have e0 : (0 : Int32).toInt = 0 := by decide
  have e1 : (1 : Int32).toInt = 1 := by decide
  omega
theorem own_t3 {fm : Int32} {en ro sz : Int64} (g : ¬ sz - en = ro) : (if ((0 : Int32) < fm ∧ en + ro = sz) then (1 : Int32) else 0) = 0 := if_neg fun q => g (own_sub.mpr q.2)
theorem own_pd1 : parseMethodDescriptor "(IJJJJJLjava/util/List;J)V" = some ⟨[.int, .long, .long, .long, .long, .long, (.object "java/util/List"), .long], none⟩ := by decide +kernel
theorem own_pd2 : parseMethodDescriptor "()Z" = some ⟨[], some .boolean⟩ := by decide +kernel
theorem own_pn_com_example_oaken_shelf_oakenshelf_journal_ReadingWholePinLaw : plainName "com/example/oaken_shelf/oakenshelf/journal/ReadingWholePinLaw" = true := by first | (simp [plainName, overriddenIn]; done) | decide +kernel
theorem own_rm0_ef (m : MethodId) (f : Int32) (en : Int64) (ro : Int64) (d : Int64) (k : Int32) : entryFrame m #[(.int f), (.long en), (.long ro), (.long d), (.int k)] maxLocals = mkF m 0 #[.val (.int f), .val (.long en), .second, .val (.long ro), .second, .val (.long d), .second, .val (.int k), .unset, .unset, .unset, .unset, .unset, .unset, .unset] [] := by first | (simp [entryFrame, mkF, argsToLocals, Value.category, maxLocals]; done) | rfl
def own_Q0 (Z : State) (f : Int32) (en : Int64) (ro : Int64) (d : Int64) (k : Int32) (wd : Addr) (h0 : Heap) (n0 : Nat) (v_ : Option Value) (h : Heap) (L_ : List Loc) : Prop := v_ = some (.int (1 : Int32)) ∧ Fr n0 L_
set_option maxRecDepth 65536 in
set_option maxHeartbeats 40000000 in
theorem own_rm0 (l : Launch) (Z : State) (a0 : Array Value) (hw : ∀ d ∈ tables_1, d.before a0 Z = true) (ws : List Jvm.Cond) (f : Int32) (en : Int64) (ro : Int64) (d : Int64) (k : Int32) (wd : Addr) (h0 : Heap) (n0 : Nat) (Z0 : n0 ≤ h0.size) (S : Sta Z h0 "java/util/ArrayList" "DEFAULTCAPACITY_EMPTY_ELEMENTDATA" "[Ljava/lang/Object;" (.ref wd)) :
    MetFree l x (head1 (Jvm.Cond.code x code maxLocals ret :: ws) room_1) (fun a_ U_ => a_ = #[(.int f), (.long en), (.long ro), (.long d), (.int k)] ∧ Z.Warmed39 U_.vm ∧ U_.heap = h0) (fun _ _ _ _ _ => True) (fun _ U_ o_ V_ => ∃ v_ L_, o_ = .returned v_ ∧ own_Q0 Z f en ro d k wd h0 n0 v_ V_.heap L_ ∧ FrameEnd U_ o_ V_ L_ room_1.cells room_1.slots) := by
  refine MetFree.of_bodySF (plainFor_of_name own_pn_com_example_oaken_shelf_oakenshelf_journal_ReadingWholePinLaw) hisR ?_
  intro p e s m args below meth c s₁ Bd hml0 hP hK
  obtain ⟨rfl, hZ, hh⟩ := hP
  have hx := Bd.exec
  have hby := Bd.bytes
  have hml : c.maxLocals = 15 := hml0
  have hown : s.vm.findClass "com/example/oaken_shelf/oakenshelf/journal/ReadingWholePinLaw" = some m.cls := findClass_of_methodNamed Bd.named
  have hnm := (name_of_methodNamed Bd.named Bd.method).1
  have X0 : Stand p l e room_1 s m #[(.int f), (.long en), (.long ro), (.long d), (.int k)] below meth c s₁ [] 0 0 := Stand.of_body Bd
  have e0 : s₁.heap = h0 := by rw [← hh, Bd.state]; rfl
  have N0 := Fr.nil n0
  show own_G p e below s (own_Q0 Z f en ro d k wd h0 n0) room_1.cells room_1.slots s₁ (entryFrame m #[(.int f), (.long en), (.long ro), (.long d), (.int k)] maxLocals)
  rw [own_rm0_ef]
  refine own_w (T' := s₁) (g' := (mkF m 2 #[.val (.int f), .val (.long en), .second, .val (.long ro), .second, .val (.long d), .second, .val (.int k), .unset, .unset, .unset, .unset, .unset, .unset, .unset] [(.int k)])) (fun _ k_ => XS.iload X0.here hx rfl (hb hby at_0) rfl k_) ?_
  refine own_w (T' := s₁) (g' := (mkF m 3 #[.val (.int f), .val (.long en), .second, .val (.long ro), .second, .val (.long d), .second, .val (.int k), .unset, .unset, .unset, .unset, .unset, .unset, .unset] [(.int (3 : Int32)), (.int k)])) (fun _ k_ => XS.iconst X0.here hx rfl (hb hby at_2) k_) ?_
  refine own_w (T' := s₁) (g' := (mkF m 4 #[.val (.int f), .val (.long en), .second, .val (.long ro), .second, .val (.long d), .second, .val (.int k), .unset, .unset, .unset, .unset, .unset, .unset, .unset] [(.int (k &&& (3 : Int32)))])) (fun _ k_ => XS.iand X0.here hx rfl (hb hby at_3) rfl k_) ?_
  refine own_w (T' := s₁) (g' := (mkF m 6 #[.val (.int f), .val (.long en), .second, .val (.long ro), .second, .val (.long d), .second, .val (.int k), .val (.int (k &&& (3 : Int32))), .unset, .unset, .unset, .unset, .unset, .unset] [])) (fun _ k_ => XS.istore X0.here hx rfl (hb hby at_4) rfl (l' := #[.val (.int f), .val (.long en), .second, .val (.long ro), .second, .val (.long d), .second, .val (.int k), .val (.int (k &&& (3 : Int32))), .unset, .unset, .unset, .unset, .unset, .unset]) rfl k_) ?_
  refine own_w (T' := s₁) (g' := (mkF m 8 #[.val (.int f), .val (.long en), .second, .val (.long ro), .second, .val (.long d), .second, .val (.int k), .val (.int (k &&& (3 : Int32))), .unset, .unset, .unset, .unset, .unset, .unset] [(.int (k &&& (3 : Int32)))])) (fun _ k_ => XS.iload X0.here hx rfl (hb hby at_6) rfl k_) ?_
  have J25 : ∀ (TJ : State) (LJ : List Loc) (XJ : Stand p l e room_1 s m #[(.int f), (.long en), (.long ro), (.long d), (.int k)] below meth c TJ LJ 0 0) (eJ : TJ.heap = h0) (NJ : Fr n0 LJ) (sz : Int64), own_G p e below s (own_Q0 Z f en ro d k wd h0 n0) room_1.cells room_1.slots TJ (mkF m 25 #[.val (.int f), .val (.long en), .second, .val (.long ro), .second, .val (.long d), .second, .val (.int k), .val (.int (k &&& (3 : Int32))), .unset, .unset, .unset, .unset, .unset, .unset] [(.long sz)]) := by
    intro TJ LJ XJ eJ NJ sz
    refine own_w (T' := TJ) (g' := (mkF m 27 #[.val (.int f), .val (.long en), .second, .val (.long ro), .second, .val (.long d), .second, .val (.int k), .val (.int (k &&& (3 : Int32))), .val (.long sz), .second, .unset, .unset, .unset, .unset] [])) (fun _ k_ => XS.lstore XJ.here hx rfl (hb hby at_25) rfl (l' := #[.val (.int f), .val (.long en), .second, .val (.long ro), .second, .val (.long d), .second, .val (.int k), .val (.int (k &&& (3 : Int32))), .val (.long sz), .second, .unset, .unset, .unset, .unset]) rfl k_) ?_
    refine own_w (T' := TJ) (g' := (mkF m 29 #[.val (.int f), .val (.long en), .second, .val (.long ro), .second, .val (.long d), .second, .val (.int k), .val (.int (k &&& (3 : Int32))), .val (.long sz), .second, .unset, .unset, .unset, .unset] [(.int k)])) (fun _ k_ => XS.iload XJ.here hx rfl (hb hby at_27) rfl k_) ?_
    refine own_w (T' := TJ) (g' := (mkF m 30 #[.val (.int f), .val (.long en), .second, .val (.long ro), .second, .val (.long d), .second, .val (.int k), .val (.int (k &&& (3 : Int32))), .val (.long sz), .second, .unset, .unset, .unset, .unset] [(.int (2 : Int32)), (.int k)])) (fun _ k_ => XS.iconst XJ.here hx rfl (hb hby at_29) k_) ?_
    refine own_w (T' := TJ) (g' := (mkF m 31 #[.val (.int f), .val (.long en), .second, .val (.long ro), .second, .val (.long d), .second, .val (.int k), .val (.int (k &&& (3 : Int32))), .val (.long sz), .second, .unset, .unset, .unset, .unset] [(.int ((k.toUInt32 >>> ((2 : Int32) &&& 31).toUInt32).toInt32))])) (fun _ k_ => XS.iushr XJ.here hx rfl (hb hby at_30) rfl k_) ?_
    refine own_w (T' := TJ) (g' := (mkF m 32 #[.val (.int f), .val (.long en), .second, .val (.long ro), .second, .val (.long d), .second, .val (.int k), .val (.int (k &&& (3 : Int32))), .val (.long sz), .second, .unset, .unset, .unset, .unset] [(.int (1 : Int32)), (.int ((k.toUInt32 >>> ((2 : Int32) &&& 31).toUInt32).toInt32))])) (fun _ k_ => XS.iconst XJ.here hx rfl (hb hby at_31) k_) ?_
    refine own_w (T' := TJ) (g' := (mkF m 33 #[.val (.int f), .val (.long en), .second, .val (.long ro), .second, .val (.long d), .second, .val (.int k), .val (.int (k &&& (3 : Int32))), .val (.long sz), .second, .unset, .unset, .unset, .unset] [(.int (((k.toUInt32 >>> ((2 : Int32) &&& 31).toUInt32).toInt32) &&& (1 : Int32)))])) (fun _ k_ => XS.iand XJ.here hx rfl (hb hby at_32) rfl k_) ?_
    have J48 : ∀ (TJ : State) (LJ : List Loc) (XJ : Stand p l e room_1 s m #[(.int f), (.long en), (.long ro), (.long d), (.int k)] below meth c TJ LJ 0 0) (eJ : TJ.heap = h0) (NJ : Fr n0 LJ) (fm : Int32), own_G p e below s (own_Q0 Z f en ro d k wd h0 n0) room_1.cells room_1.slots TJ (mkF m 48 #[.val (.int f), .val (.long en), .second, .val (.long ro), .second, .val (.long d), .second, .val (.int k), .val (.int (k &&& (3 : Int32))), .val (.long sz), .second, .unset, .unset, .unset, .unset] [(.int fm)]) := by
      intro TJ LJ XJ eJ NJ fm
      refine own_w (T' := TJ) (g' := (mkF m 50 #[.val (.int f), .val (.long en), .second, .val (.long ro), .second, .val (.long d), .second, .val (.int k), .val (.int (k &&& (3 : Int32))), .val (.long sz), .second, .val (.int fm), .unset, .unset, .unset] [])) (fun _ k_ => XS.istore XJ.here hx rfl (hb hby at_48) rfl (l' := #[.val (.int f), .val (.long en), .second, .val (.long ro), .second, .val (.long d), .second, .val (.int k), .val (.int (k &&& (3 : Int32))), .val (.long sz), .second, .val (.int fm), .unset, .unset, .unset]) rfl k_) ?_
      obtain ⟨T1, h1, X1, e1, E1, A1, D1, -, st1⟩ := newO XJ hx hZ hown (hw _ (List.mem_of_getElem? (i := 0) rfl)) (hw _ (List.mem_of_getElem? (i := 1) rfl)) (hw _ (List.mem_of_getElem? (i := 2) rfl)) eJ (g := (mkF m 50 #[.val (.int f), .val (.long en), .second, .val (.long ro), .second, .val (.long d), .second, .val (.int k), .val (.int (k &&& (3 : Int32))), .val (.long sz), .second, .val (.int fm), .unset, .unset, .unset] [])) rfl (hb hby at_50) (by decide) (by decide)
      obtain ⟨b1, gq1⟩ : ∃ z, z = h0.size := ⟨_, rfl⟩
      rw [← gq1] at A1 D1 st1
      have g_b1 : n0 ≤ b1 := Nat.le_trans Z0 (Nat.le_of_eq gq1.symm)
      have Z1 : n0 ≤ h1.size := Nat.le_trans Z0 E1.1
      refine own_w (T' := T1) (g' := (mkF m 53 #[.val (.int f), .val (.long en), .second, .val (.long ro), .second, .val (.long d), .second, .val (.int k), .val (.int (k &&& (3 : Int32))), .val (.long sz), .second, .val (.int fm), .unset, .unset, .unset] [(.ref b1)])) st1 ?_
      refine own_w (T' := T1) (g' := (mkF m 54 #[.val (.int f), .val (.long en), .second, .val (.long ro), .second, .val (.long d), .second, .val (.int k), .val (.int (k &&& (3 : Int32))), .val (.long sz), .second, .val (.int fm), .unset, .unset, .unset] [(.ref b1), (.ref b1)])) (fun _ k_ => XS.dup X1.here hx rfl (hb hby at_53) rfl rfl k_) ?_
      obtain ⟨_, _, ⟨T2, L2, k2, n2⟩, -, X2, ⟨Lc2, hQ2, l2, y2, z2⟩, st2⟩ := X1.specialBack hx (y := (⟨"java/util/ArrayList", "<init>", "()V"⟩ : MethodName)) rfl hown (mvT hZ (hw _ (List.mem_of_getElem? (i := 3) rfl))) (mvT hZ (hw _ (List.mem_of_getElem? (i := 4) rfl))) (mvT hZ (hw _ (List.mem_of_getElem? (i := 5) rfl))) (by decide) (backOf (W := 1) (own_rm1 l Z a0 hw [] b1 _ _ wd h1 n0 Z1 (D1 (Or.inl (hw _ (List.mem_of_getElem? (i := 22) rfl))) (ty := .int) (by decide)) (D1 (Or.inl (hw _ (List.mem_of_getElem? (i := 25) rfl))) (ty := (.array (.object "java/lang/Object"))) (by decide)) A1 g_b1 (S.ext E1)) hZ (hw _ (List.mem_of_getElem? (i := 5) rfl)) (hw _ (List.mem_of_getElem? (i := 2) rfl)) (by decide) (by decide)) (g := (mkF m 54 #[.val (.int f), .val (.long en), .second, .val (.long ro), .second, .val (.long d), .second, .val (.int k), .val (.int (k &&& (3 : Int32))), .val (.long sz), .second, .val (.int fm), .unset, .unset, .unset] [(.ref b1), (.ref b1)])) rfl (by rw [hml]; rfl) (Steps.refl _) (a := b1) (argsL := []) (rest := [(.ref b1)]) (lenOf own_pd0 rfl) rfl (by show 2 * 0 + _ ≤ _; exact Nat.le_of_eq rfl) (hb hby at_54) (fun _ _ => ⟨rfl, e1, (by decide : 1 + 0 ≤ _), (by decide : 3 + 0 ≤ _)⟩)
      dsimp only [Pt.U, Pt.locs, Pt.cells, Pt.slots] at X2 l2 y2 z2 st2 hQ2
      subst l2 y2 z2
      obtain ⟨h2, e2⟩ : ∃ h, T2.heap = h := ⟨_, rfl⟩
      rw [e2] at hQ2
      obtain ⟨rfl, N2q, K2⟩ := hQ2
      have N2 := Fr.app NJ N2q
      refine own_t (T' := T2) (g' := (mkF m 57 #[.val (.int f), .val (.long en), .second, .val (.long ro), .second, .val (.long d), .second, .val (.int k), .val (.int (k &&& (3 : Int32))), .val (.long sz), .second, .val (.int fm), .unset, .unset, .unset] [(.ref b1)])) st2 ?_
      have Z2 : n0 ≤ h2.size := Nat.le_trans Z1 K2.1
      refine own_w (T' := T2) (g' := (mkF m 59 #[.val (.int f), .val (.long en), .second, .val (.long ro), .second, .val (.long d), .second, .val (.int k), .val (.int (k &&& (3 : Int32))), .val (.long sz), .second, .val (.int fm), .val (.ref b1), .unset, .unset] [])) (fun _ k_ => XS.astore X2.here hx rfl (hb hby at_57) rfl rfl (l' := #[.val (.int f), .val (.long en), .second, .val (.long ro), .second, .val (.long d), .second, .val (.int k), .val (.int (k &&& (3 : Int32))), .val (.long sz), .second, .val (.int fm), .val (.ref b1), .unset, .unset]) rfl k_) ?_
      obtain ⟨T3, h3, X3, e3, E3, A3, D3, -, st3⟩ := newO X2 hx hZ hown (hw _ (List.mem_of_getElem? (i := 26) rfl)) (hw _ (List.mem_of_getElem? (i := 27) rfl)) (hw _ (List.mem_of_getElem? (i := 28) rfl)) e2 (g := (mkF m 59 #[.val (.int f), .val (.long en), .second, .val (.long ro), .second, .val (.long d), .second, .val (.int k), .val (.int (k &&& (3 : Int32))), .val (.long sz), .second, .val (.int fm), .val (.ref b1), .unset, .unset] [])) rfl (hb hby at_59) (by decide) (by decide)
      obtain ⟨b3, gq3⟩ : ∃ z, z = h2.size := ⟨_, rfl⟩
      rw [← gq3] at A3 D3 st3
      have g_b3 : n0 ≤ b3 := Nat.le_trans Z2 (Nat.le_of_eq gq3.symm)
      have Z3 : n0 ≤ h3.size := Nat.le_trans Z2 E3.1
      refine own_w (T' := T3) (g' := (mkF m 62 #[.val (.int f), .val (.long en), .second, .val (.long ro), .second, .val (.long d), .second, .val (.int k), .val (.int (k &&& (3 : Int32))), .val (.long sz), .second, .val (.int fm), .val (.ref b1), .unset, .unset] [(.ref b3)])) st3 ?_
      refine own_w (T' := T3) (g' := (mkF m 63 #[.val (.int f), .val (.long en), .second, .val (.long ro), .second, .val (.long d), .second, .val (.int k), .val (.int (k &&& (3 : Int32))), .val (.long sz), .second, .val (.int fm), .val (.ref b1), .unset, .unset] [(.ref b3), (.ref b3)])) (fun _ k_ => XS.dup X3.here hx rfl (hb hby at_62) rfl rfl k_) ?_
      refine own_w (T' := T3) (g' := (mkF m 65 #[.val (.int f), .val (.long en), .second, .val (.long ro), .second, .val (.long d), .second, .val (.int k), .val (.int (k &&& (3 : Int32))), .val (.long sz), .second, .val (.int fm), .val (.ref b1), .unset, .unset] [(.int fm), (.ref b3), (.ref b3)])) (fun _ k_ => XS.iload X3.here hx rfl (hb hby at_63) rfl k_) ?_
      refine own_w (T' := T3) (g' := (mkF m 66 #[.val (.int f), .val (.long en), .second, .val (.long ro), .second, .val (.long d), .second, .val (.int k), .val (.int (k &&& (3 : Int32))), .val (.long sz), .second, .val (.int fm), .val (.ref b1), .unset, .unset] [(.long en), (.int fm), (.ref b3), (.ref b3)])) (fun _ k_ => XS.lloadN X3.here hx rfl (hb hby at_65) rfl k_) ?_
      refine own_w (T' := T3) (g' := (mkF m 67 #[.val (.int f), .val (.long en), .second, .val (.long ro), .second, .val (.long d), .second, .val (.int k), .val (.int (k &&& (3 : Int32))), .val (.long sz), .second, .val (.int fm), .val (.ref b1), .unset, .unset] [(.long ro), (.long en), (.int fm), (.ref b3), (.ref b3)])) (fun _ k_ => XS.lloadN X3.here hx rfl (hb hby at_66) rfl k_) ?_
      refine own_w (T' := T3) (g' := (mkF m 69 #[.val (.int f), .val (.long en), .second, .val (.long ro), .second, .val (.long d), .second, .val (.int k), .val (.int (k &&& (3 : Int32))), .val (.long sz), .second, .val (.int fm), .val (.ref b1), .unset, .unset] [(.long sz), (.long ro), (.long en), (.int fm), (.ref b3), (.ref b3)])) (fun _ k_ => XS.lload X3.here hx rfl (hb hby at_67) rfl k_) ?_
      refine own_w (T' := T3) (g' := (mkF m 71 #[.val (.int f), .val (.long en), .second, .val (.long ro), .second, .val (.long d), .second, .val (.int k), .val (.int (k &&& (3 : Int32))), .val (.long sz), .second, .val (.int fm), .val (.ref b1), .unset, .unset] [(.long d), (.long sz), (.long ro), (.long en), (.int fm), (.ref b3), (.ref b3)])) (fun _ k_ => XS.lload X3.here hx rfl (hb hby at_69) rfl k_) ?_
      refine own_w (T' := T3) (g' := (mkF m 73 #[.val (.int f), .val (.long en), .second, .val (.long ro), .second, .val (.long d), .second, .val (.int k), .val (.int (k &&& (3 : Int32))), .val (.long sz), .second, .val (.int fm), .val (.ref b1), .unset, .unset] [(.long d), (.long d), (.long sz), (.long ro), (.long en), (.int fm), (.ref b3), (.ref b3)])) (fun _ k_ => XS.lload X3.here hx rfl (hb hby at_71) rfl k_) ?_
      refine own_w (T' := T3) (g' := (mkF m 75 #[.val (.int f), .val (.long en), .second, .val (.long ro), .second, .val (.long d), .second, .val (.int k), .val (.int (k &&& (3 : Int32))), .val (.long sz), .second, .val (.int fm), .val (.ref b1), .unset, .unset] [(.ref b1), (.long d), (.long d), (.long sz), (.long ro), (.long en), (.int fm), (.ref b3), (.ref b3)])) (fun _ k_ => XS.aload X3.here hx rfl (hb hby at_73) rfl rfl k_) ?_
      refine own_w (T' := T3) (g' := (mkF m 77 #[.val (.int f), .val (.long en), .second, .val (.long ro), .second, .val (.long d), .second, .val (.int k), .val (.int (k &&& (3 : Int32))), .val (.long sz), .second, .val (.int fm), .val (.ref b1), .unset, .unset] [(.long d), (.ref b1), (.long d), (.long d), (.long sz), (.long ro), (.long en), (.int fm), (.ref b3), (.ref b3)])) (fun _ k_ => XS.lload X3.here hx rfl (hb hby at_75) rfl k_) ?_
      obtain ⟨_, _, ⟨T4, L4, k4, n4⟩, -, X4, ⟨Lc4, hQ4, l4, y4, z4⟩, st4⟩ := X3.specialBack hx (y := (⟨"com/example/oaken_shelf/oakenshelf/journal/Frames$Reading", "<init>", "(IJJJJJLjava/util/List;J)V"⟩ : MethodName)) rfl hown (mvT hZ (hw _ (List.mem_of_getElem? (i := 29) rfl))) (mvT hZ (hw _ (List.mem_of_getElem? (i := 30) rfl))) (mvT hZ (hw _ (List.mem_of_getElem? (i := 31) rfl))) (by decide) (backOf (W := 1) (own_rm5 l Z a0 hw [] b3 fm en ro sz d d b1 d _ _ _ _ _ _ _ _  h3 n0 Z3 (D3 (Or.inr (hw _ (List.mem_of_getElem? (i := 39) rfl))) (ty := .int) (by decide)) (D3 (Or.inr (hw _ (List.mem_of_getElem? (i := 41) rfl))) (ty := .long) (by decide)) (D3 (Or.inr (hw _ (List.mem_of_getElem? (i := 43) rfl))) (ty := .long) (by decide)) (D3 (Or.inr (hw _ (List.mem_of_getElem? (i := 45) rfl))) (ty := .long) (by decide)) (D3 (Or.inr (hw _ (List.mem_of_getElem? (i := 47) rfl))) (ty := .long) (by decide)) (D3 (Or.inr (hw _ (List.mem_of_getElem? (i := 49) rfl))) (ty := .long) (by decide)) (D3 (Or.inr (hw _ (List.mem_of_getElem? (i := 51) rfl))) (ty := (.object "java/util/List")) (by decide)) (D3 (Or.inr (hw _ (List.mem_of_getElem? (i := 53) rfl))) (ty := .long) (by decide)) A3 g_b3) hZ (hw _ (List.mem_of_getElem? (i := 31) rfl)) (hw _ (List.mem_of_getElem? (i := 28) rfl)) (by decide) (by decide)) (g := (mkF m 77 #[.val (.int f), .val (.long en), .second, .val (.long ro), .second, .val (.long d), .second, .val (.int k), .val (.int (k &&& (3 : Int32))), .val (.long sz), .second, .val (.int fm), .val (.ref b1), .unset, .unset] [(.long d), (.ref b1), (.long d), (.long d), (.long sz), (.long ro), (.long en), (.int fm), (.ref b3), (.ref b3)])) rfl (by rw [hml]; rfl) (Steps.refl _) (a := b3) (argsL := [(.int fm), (.long en), (.long ro), (.long sz), (.long d), (.long d), (.ref b1), (.long d)]) (rest := [(.ref b3)]) (lenOf own_pd1 rfl) rfl (by show 2 * 0 + _ ≤ _; exact Nat.le_of_eq rfl) (hb hby at_77) (fun _ _ => ⟨rfl, e3, (by decide : 2 + 0 ≤ _), (by decide : 11 + 0 ≤ _)⟩)
      dsimp only [Pt.U, Pt.locs, Pt.cells, Pt.slots] at X4 l4 y4 z4 st4 hQ4
      subst l4 y4 z4
      obtain ⟨h4, e4⟩ : ∃ h, T4.heap = h := ⟨_, rfl⟩
      rw [e4] at hQ4
      obtain ⟨rfl, N4q, K4, F40, F41, F42, F43⟩ := hQ4
      have N4 := Fr.app N2 N4q
      refine own_t (T' := T4) (g' := (mkF m 80 #[.val (.int f), .val (.long en), .second, .val (.long ro), .second, .val (.long d), .second, .val (.int k), .val (.int (k &&& (3 : Int32))), .val (.long sz), .second, .val (.int fm), .val (.ref b1), .unset, .unset] [(.ref b3)])) st4 ?_
      have Z4 : n0 ≤ h4.size := Nat.le_trans Z3 K4.1
      have E4 := A3.keep K4
      refine own_w (T' := T4) (g' := (mkF m 82 #[.val (.int f), .val (.long en), .second, .val (.long ro), .second, .val (.long d), .second, .val (.int k), .val (.int (k &&& (3 : Int32))), .val (.long sz), .second, .val (.int fm), .val (.ref b1), .val (.ref b3), .unset] [])) (fun _ k_ => XS.astore X4.here hx rfl (hb hby at_80) rfl rfl (l' := #[.val (.int f), .val (.long en), .second, .val (.long ro), .second, .val (.long d), .second, .val (.int k), .val (.int (k &&& (3 : Int32))), .val (.long sz), .second, .val (.int fm), .val (.ref b1), .val (.ref b3), .unset]) rfl k_) ?_
      refine own_w (T' := T4) (g' := (mkF m 84 #[.val (.int f), .val (.long en), .second, .val (.long ro), .second, .val (.long d), .second, .val (.int k), .val (.int (k &&& (3 : Int32))), .val (.long sz), .second, .val (.int fm), .val (.ref b1), .val (.ref b3), .unset] [(.int fm)])) (fun _ k_ => XS.iload X4.here hx rfl (hb hby at_82) rfl k_) ?_
      refine own_w (T' := T4) (g' := (mkF m 85 #[.val (.int f), .val (.long en), .second, .val (.long ro), .second, .val (.long d), .second, .val (.int k), .val (.int (k &&& (3 : Int32))), .val (.long sz), .second, .val (.int fm), .val (.ref b1), .val (.ref b3), .unset] [(.int (1 : Int32)), (.int fm)])) (fun _ k_ => XS.iconst X4.here hx rfl (hb hby at_84) k_) ?_
      by_cases hc85 : fm < (1 : Int32)
      · refine own_w (T' := T4) (g' := (mkF m 101 #[.val (.int f), .val (.long en), .second, .val (.long ro), .second, .val (.long d), .second, .val (.int k), .val (.int (k &&& (3 : Int32))), .val (.long sz), .second, .val (.int fm), .val (.ref b1), .val (.ref b3), .unset] [])) (fun _ k_ => XS.icmpYes X4.here hx rfl (pc0 := 85) (pc' := 101) rfl (hb hby at_85) rfl (tlt hc85).1 (by decide) (by decide) k_) ?_
        refine own_w (T' := T4) (g' := (mkF m 102 #[.val (.int f), .val (.long en), .second, .val (.long ro), .second, .val (.long d), .second, .val (.int k), .val (.int (k &&& (3 : Int32))), .val (.long sz), .second, .val (.int fm), .val (.ref b1), .val (.ref b3), .unset] [(.int (0 : Int32))])) (fun _ k_ => XS.iconst X4.here hx rfl (hb hby at_101) k_) ?_
        refine own_w (T' := T4) (g' := (mkF m 104 #[.val (.int f), .val (.long en), .second, .val (.long ro), .second, .val (.long d), .second, .val (.int k), .val (.int (k &&& (3 : Int32))), .val (.long sz), .second, .val (.int fm), .val (.ref b1), .val (.ref b3), .val (.int (0 : Int32))] [])) (fun _ k_ => XS.istore X4.here hx rfl (hb hby at_102) rfl (l' := #[.val (.int f), .val (.long en), .second, .val (.long ro), .second, .val (.long d), .second, .val (.int k), .val (.int (k &&& (3 : Int32))), .val (.long sz), .second, .val (.int fm), .val (.ref b1), .val (.ref b3), .val (.int (0 : Int32))]) rfl k_) ?_
        refine own_w (T' := T4) (g' := (mkF m 106 #[.val (.int f), .val (.long en), .second, .val (.long ro), .second, .val (.long d), .second, .val (.int k), .val (.int (k &&& (3 : Int32))), .val (.long sz), .second, .val (.int fm), .val (.ref b1), .val (.ref b3), .val (.int (0 : Int32))] [(.ref b3)])) (fun _ k_ => XS.aload X4.here hx rfl (hb hby at_104) rfl rfl k_) ?_
        obtain ⟨cq5, kq5, q5a, q5b, q5c⟩ := isOf hZ e4 E4
        obtain ⟨_, _, ⟨T5, L5, k5, n5⟩, -, X5, ⟨Lc5, hQ5, l5, y5, z5⟩, st5⟩ := X4.virtualBack hx (y := (⟨"com/example/oaken_shelf/oakenshelf/journal/Frames$Reading", "whole", "()Z"⟩ : MethodName)) (z := (⟨"com/example/oaken_shelf/oakenshelf/journal/Frames$Reading", "whole", "()Z"⟩ : MethodName)) hown (mvT hZ (hw _ (List.mem_of_getElem? (i := 54) rfl))) (mvT hZ (hw _ (List.mem_of_getElem? (i := 55) rfl))) (notFace_of_selects (args := #[]) (mvT hZ (hw _ (List.mem_of_getElem? (i := 57) rfl)))) (mvT hZ (hw _ (List.mem_of_getElem? (i := 57) rfl))) (mvT hZ (hw _ (List.mem_of_getElem? (i := 56) rfl))) (by decide) (backOf (W := 0) (own_rm7 l Z a0 hw [] b3 _ _ _ _ h4 n0 Z4 F40 F41 F42 F43) hZ (hw _ (List.mem_of_getElem? (i := 58) rfl)) (hw _ (List.mem_of_getElem? (i := 28) rfl)) (by decide) (by decide)) q5a q5c (g := (mkF m 106 #[.val (.int f), .val (.long en), .second, .val (.long ro), .second, .val (.long d), .second, .val (.int k), .val (.int (k &&& (3 : Int32))), .val (.long sz), .second, .val (.int fm), .val (.ref b1), .val (.ref b3), .val (.int (0 : Int32))] [(.ref b3)])) rfl (by rw [hml]; rfl) (Steps.refl _) (argsL := []) (rest := []) (lenOf own_pd2 rfl) rfl (by show 2 * 0 + _ ≤ _; exact Nat.le_of_eq rfl) (hb hby at_106) (fun _ _ => ⟨rfl, e4, (by decide : 2 + 0 ≤ _), (by decide : 11 + 0 ≤ _)⟩)
        dsimp only [Pt.U, Pt.locs, Pt.cells, Pt.slots] at X5 l5 y5 z5 st5 hQ5
        subst l5 y5 z5
        obtain ⟨rfl, N5q, e5⟩ := hQ5
        have N5 := Fr.app N4 N5q
        refine own_t (T' := T5) (g' := (mkF m 109 #[.val (.int f), .val (.long en), .second, .val (.long ro), .second, .val (.long d), .second, .val (.int k), .val (.int (k &&& (3 : Int32))), .val (.long sz), .second, .val (.int fm), .val (.ref b1), .val (.ref b3), .val (.int (0 : Int32))] [(.int (if ((0 : Int32) < fm ∧ en + ro = sz) then (1 : Int32) else 0))])) st5 ?_
        refine own_w (T' := T5) (g' := (mkF m 111 #[.val (.int f), .val (.long en), .second, .val (.long ro), .second, .val (.long d), .second, .val (.int k), .val (.int (k &&& (3 : Int32))), .val (.long sz), .second, .val (.int fm), .val (.ref b1), .val (.ref b3), .val (.int (0 : Int32))] [(.int (0 : Int32)), (.int (if ((0 : Int32) < fm ∧ en + ro = sz) then (1 : Int32) else 0))])) (fun _ k_ => XS.iload X5.here hx rfl (hb hby at_109) rfl k_) ?_
        refine own_w (T' := T5) (g' := (mkF m 114 #[.val (.int f), .val (.long en), .second, .val (.long ro), .second, .val (.long d), .second, .val (.int k), .val (.int (k &&& (3 : Int32))), .val (.long sz), .second, .val (.int fm), .val (.ref b1), .val (.ref b3), .val (.int (0 : Int32))] [])) (fun _ k_ => XS.icmpNo X5.here hx rfl (hb hby at_111) rfl (teq (own_t1 hc85)).2 k_) ?_
        refine own_w (T' := T5) (g' := (mkF m 115 #[.val (.int f), .val (.long en), .second, .val (.long ro), .second, .val (.long d), .second, .val (.int k), .val (.int (k &&& (3 : Int32))), .val (.long sz), .second, .val (.int fm), .val (.ref b1), .val (.ref b3), .val (.int (0 : Int32))] [(.int (1 : Int32))])) (fun _ k_ => XS.iconst X5.here hx rfl (hb hby at_114) k_) ?_
        refine own_w (T' := T5) (g' := (mkF m 119 #[.val (.int f), .val (.long en), .second, .val (.long ro), .second, .val (.long d), .second, .val (.int k), .val (.int (k &&& (3 : Int32))), .val (.long sz), .second, .val (.int fm), .val (.ref b1), .val (.ref b3), .val (.int (0 : Int32))] [(.int (1 : Int32))])) (fun _ k_ => XS.goto X5.here hx rfl (pc0 := 115) (pc' := 119) rfl (hb hby at_115) (by decide) (by decide) k_) ?_
        obtain ⟨fs, hr, hrun, hended, hW, hsame⟩ := X5.leave (v := some (.int (1 : Int32))) (fun h => by rw [Bd.returns] at h; cases h)
        exact ⟨_, _, retOut X5 hx Bd.returns rfl (Or.inl ⟨rfl, Or.inr (Or.inl rfl), _, rfl⟩) (hb hby at_119) hr, hrun, hended, _, _, rfl, (by show own_Q0 Z f en ro d k wd h0 n0 _ T5.heap _; rw [e5]; exact ⟨rfl, N5⟩), ⟨_, rfl⟩, hW, hsame.mono (by decide) (by decide)⟩
      · refine own_w (T' := T4) (g' := (mkF m 88 #[.val (.int f), .val (.long en), .second, .val (.long ro), .second, .val (.long d), .second, .val (.int k), .val (.int (k &&& (3 : Int32))), .val (.long sz), .second, .val (.int fm), .val (.ref b1), .val (.ref b3), .unset] [])) (fun _ k_ => XS.icmpNo X4.here hx rfl (hb hby at_85) rfl (flt hc85).1 k_) ?_
        refine own_w (T' := T4) (g' := (mkF m 90 #[.val (.int f), .val (.long en), .second, .val (.long ro), .second, .val (.long d), .second, .val (.int k), .val (.int (k &&& (3 : Int32))), .val (.long sz), .second, .val (.int fm), .val (.ref b1), .val (.ref b3), .unset] [(.long sz)])) (fun _ k_ => XS.lload X4.here hx rfl (hb hby at_88) rfl k_) ?_
        refine own_w (T' := T4) (g' := (mkF m 91 #[.val (.int f), .val (.long en), .second, .val (.long ro), .second, .val (.long d), .second, .val (.int k), .val (.int (k &&& (3 : Int32))), .val (.long sz), .second, .val (.int fm), .val (.ref b1), .val (.ref b3), .unset] [(.long en), (.long sz)])) (fun _ k_ => XS.lloadN X4.here hx rfl (hb hby at_90) rfl k_) ?_
        refine own_w (T' := T4) (g' := (mkF m 92 #[.val (.int f), .val (.long en), .second, .val (.long ro), .second, .val (.long d), .second, .val (.int k), .val (.int (k &&& (3 : Int32))), .val (.long sz), .second, .val (.int fm), .val (.ref b1), .val (.ref b3), .unset] [(.long (sz - en))])) (fun _ k_ => XS.lsub X4.here hx rfl (hb hby at_91) rfl k_) ?_
        refine own_w (T' := T4) (g' := (mkF m 93 #[.val (.int f), .val (.long en), .second, .val (.long ro), .second, .val (.long d), .second, .val (.int k), .val (.int (k &&& (3 : Int32))), .val (.long sz), .second, .val (.int fm), .val (.ref b1), .val (.ref b3), .unset] [(.long ro), (.long (sz - en))])) (fun _ k_ => XS.lloadN X4.here hx rfl (hb hby at_92) rfl k_) ?_
        refine own_w (T' := T4) (g' := (mkF m 94 #[.val (.int f), .val (.long en), .second, .val (.long ro), .second, .val (.long d), .second, .val (.int k), .val (.int (k &&& (3 : Int32))), .val (.long sz), .second, .val (.int fm), .val (.ref b1), .val (.ref b3), .unset] [(.int (lcmpW (sz - en) ro))])) (fun _ k_ => XS.lcmp X4.here hx rfl (hb hby at_93) rfl k_) ?_
        by_cases hc94 : (sz - en) = ro
        · refine own_w (T' := T4) (g' := (mkF m 97 #[.val (.int f), .val (.long en), .second, .val (.long ro), .second, .val (.long d), .second, .val (.int k), .val (.int (k &&& (3 : Int32))), .val (.long sz), .second, .val (.int fm), .val (.ref b1), .val (.ref b3), .unset] [])) (fun _ k_ => XS.ifNo X4.here hx rfl (hb hby at_94) rfl ((if0 _ _).trans (teq ((lw_eq _ _).mpr hc94)).2) k_) ?_
          refine own_w (T' := T4) (g' := (mkF m 98 #[.val (.int f), .val (.long en), .second, .val (.long ro), .second, .val (.long d), .second, .val (.int k), .val (.int (k &&& (3 : Int32))), .val (.long sz), .second, .val (.int fm), .val (.ref b1), .val (.ref b3), .unset] [(.int (1 : Int32))])) (fun _ k_ => XS.iconst X4.here hx rfl (hb hby at_97) k_) ?_
          refine own_w (T' := T4) (g' := (mkF m 102 #[.val (.int f), .val (.long en), .second, .val (.long ro), .second, .val (.long d), .second, .val (.int k), .val (.int (k &&& (3 : Int32))), .val (.long sz), .second, .val (.int fm), .val (.ref b1), .val (.ref b3), .unset] [(.int (1 : Int32))])) (fun _ k_ => XS.goto X4.here hx rfl (pc0 := 98) (pc' := 102) rfl (hb hby at_98) (by decide) (by decide) k_) ?_
          refine own_w (T' := T4) (g' := (mkF m 104 #[.val (.int f), .val (.long en), .second, .val (.long ro), .second, .val (.long d), .second, .val (.int k), .val (.int (k &&& (3 : Int32))), .val (.long sz), .second, .val (.int fm), .val (.ref b1), .val (.ref b3), .val (.int (1 : Int32))] [])) (fun _ k_ => XS.istore X4.here hx rfl (hb hby at_102) rfl (l' := #[.val (.int f), .val (.long en), .second, .val (.long ro), .second, .val (.long d), .second, .val (.int k), .val (.int (k &&& (3 : Int32))), .val (.long sz), .second, .val (.int fm), .val (.ref b1), .val (.ref b3), .val (.int (1 : Int32))]) rfl k_) ?_
          refine own_w (T' := T4) (g' := (mkF m 106 #[.val (.int f), .val (.long en), .second, .val (.long ro), .second, .val (.long d), .second, .val (.int k), .val (.int (k &&& (3 : Int32))), .val (.long sz), .second, .val (.int fm), .val (.ref b1), .val (.ref b3), .val (.int (1 : Int32))] [(.ref b3)])) (fun _ k_ => XS.aload X4.here hx rfl (hb hby at_104) rfl rfl k_) ?_
          obtain ⟨cq6, kq6, q6a, q6b, q6c⟩ := isOf hZ e4 E4
          obtain ⟨_, _, ⟨T6, L6, k6, n6⟩, -, X6, ⟨Lc6, hQ6, l6, y6, z6⟩, st6⟩ := X4.virtualBack hx (y := (⟨"com/example/oaken_shelf/oakenshelf/journal/Frames$Reading", "whole", "()Z"⟩ : MethodName)) (z := (⟨"com/example/oaken_shelf/oakenshelf/journal/Frames$Reading", "whole", "()Z"⟩ : MethodName)) hown (mvT hZ (hw _ (List.mem_of_getElem? (i := 54) rfl))) (mvT hZ (hw _ (List.mem_of_getElem? (i := 55) rfl))) (notFace_of_selects (args := #[]) (mvT hZ (hw _ (List.mem_of_getElem? (i := 57) rfl)))) (mvT hZ (hw _ (List.mem_of_getElem? (i := 57) rfl))) (mvT hZ (hw _ (List.mem_of_getElem? (i := 56) rfl))) (by decide) (backOf (W := 0) (own_rm7 l Z a0 hw [] b3 _ _ _ _ h4 n0 Z4 F40 F41 F42 F43) hZ (hw _ (List.mem_of_getElem? (i := 58) rfl)) (hw _ (List.mem_of_getElem? (i := 28) rfl)) (by decide) (by decide)) q6a q6c (g := (mkF m 106 #[.val (.int f), .val (.long en), .second, .val (.long ro), .second, .val (.long d), .second, .val (.int k), .val (.int (k &&& (3 : Int32))), .val (.long sz), .second, .val (.int fm), .val (.ref b1), .val (.ref b3), .val (.int (1 : Int32))] [(.ref b3)])) rfl (by rw [hml]; rfl) (Steps.refl _) (argsL := []) (rest := []) (lenOf own_pd2 rfl) rfl (by show 2 * 0 + _ ≤ _; exact Nat.le_of_eq rfl) (hb hby at_106) (fun _ _ => ⟨rfl, e4, (by decide : 2 + 0 ≤ _), (by decide : 11 + 0 ≤ _)⟩)
          dsimp only [Pt.U, Pt.locs, Pt.cells, Pt.slots] at X6 l6 y6 z6 st6 hQ6
          subst l6 y6 z6
          obtain ⟨rfl, N6q, e6⟩ := hQ6
          have N6 := Fr.app N4 N6q
          refine own_t (T' := T6) (g' := (mkF m 109 #[.val (.int f), .val (.long en), .second, .val (.long ro), .second, .val (.long d), .second, .val (.int k), .val (.int (k &&& (3 : Int32))), .val (.long sz), .second, .val (.int fm), .val (.ref b1), .val (.ref b3), .val (.int (1 : Int32))] [(.int (if ((0 : Int32) < fm ∧ en + ro = sz) then (1 : Int32) else 0))])) st6 ?_
          refine own_w (T' := T6) (g' := (mkF m 111 #[.val (.int f), .val (.long en), .second, .val (.long ro), .second, .val (.long d), .second, .val (.int k), .val (.int (k &&& (3 : Int32))), .val (.long sz), .second, .val (.int fm), .val (.ref b1), .val (.ref b3), .val (.int (1 : Int32))] [(.int (1 : Int32)), (.int (if ((0 : Int32) < fm ∧ en + ro = sz) then (1 : Int32) else 0))])) (fun _ k_ => XS.iload X6.here hx rfl (hb hby at_109) rfl k_) ?_
          refine own_w (T' := T6) (g' := (mkF m 114 #[.val (.int f), .val (.long en), .second, .val (.long ro), .second, .val (.long d), .second, .val (.int k), .val (.int (k &&& (3 : Int32))), .val (.long sz), .second, .val (.int fm), .val (.ref b1), .val (.ref b3), .val (.int (1 : Int32))] [])) (fun _ k_ => XS.icmpNo X6.here hx rfl (hb hby at_111) rfl (teq (own_t2 hc85 hc94)).2 k_) ?_
          refine own_w (T' := T6) (g' := (mkF m 115 #[.val (.int f), .val (.long en), .second, .val (.long ro), .second, .val (.long d), .second, .val (.int k), .val (.int (k &&& (3 : Int32))), .val (.long sz), .second, .val (.int fm), .val (.ref b1), .val (.ref b3), .val (.int (1 : Int32))] [(.int (1 : Int32))])) (fun _ k_ => XS.iconst X6.here hx rfl (hb hby at_114) k_) ?_
          refine own_w (T' := T6) (g' := (mkF m 119 #[.val (.int f), .val (.long en), .second, .val (.long ro), .second, .val (.long d), .second, .val (.int k), .val (.int (k &&& (3 : Int32))), .val (.long sz), .second, .val (.int fm), .val (.ref b1), .val (.ref b3), .val (.int (1 : Int32))] [(.int (1 : Int32))])) (fun _ k_ => XS.goto X6.here hx rfl (pc0 := 115) (pc' := 119) rfl (hb hby at_115) (by decide) (by decide) k_) ?_
          obtain ⟨fs, hr, hrun, hended, hW, hsame⟩ := X6.leave (v := some (.int (1 : Int32))) (fun h => by rw [Bd.returns] at h; cases h)
          exact ⟨_, _, retOut X6 hx Bd.returns rfl (Or.inl ⟨rfl, Or.inr (Or.inl rfl), _, rfl⟩) (hb hby at_119) hr, hrun, hended, _, _, rfl, (by show own_Q0 Z f en ro d k wd h0 n0 _ T6.heap _; rw [e6]; exact ⟨rfl, N6⟩), ⟨_, rfl⟩, hW, hsame.mono (by decide) (by decide)⟩
        · refine own_w (T' := T4) (g' := (mkF m 101 #[.val (.int f), .val (.long en), .second, .val (.long ro), .second, .val (.long d), .second, .val (.int k), .val (.int (k &&& (3 : Int32))), .val (.long sz), .second, .val (.int fm), .val (.ref b1), .val (.ref b3), .unset] [])) (fun _ k_ => XS.ifYes X4.here hx rfl (pc0 := 94) (pc' := 101) rfl (hb hby at_94) rfl ((if0 _ _).trans (feq (mt (lw_eq _ _).mp hc94)).2) (by decide) (by decide) k_) ?_
          refine own_w (T' := T4) (g' := (mkF m 102 #[.val (.int f), .val (.long en), .second, .val (.long ro), .second, .val (.long d), .second, .val (.int k), .val (.int (k &&& (3 : Int32))), .val (.long sz), .second, .val (.int fm), .val (.ref b1), .val (.ref b3), .unset] [(.int (0 : Int32))])) (fun _ k_ => XS.iconst X4.here hx rfl (hb hby at_101) k_) ?_
          refine own_w (T' := T4) (g' := (mkF m 104 #[.val (.int f), .val (.long en), .second, .val (.long ro), .second, .val (.long d), .second, .val (.int k), .val (.int (k &&& (3 : Int32))), .val (.long sz), .second, .val (.int fm), .val (.ref b1), .val (.ref b3), .val (.int (0 : Int32))] [])) (fun _ k_ => XS.istore X4.here hx rfl (hb hby at_102) rfl (l' := #[.val (.int f), .val (.long en), .second, .val (.long ro), .second, .val (.long d), .second, .val (.int k), .val (.int (k &&& (3 : Int32))), .val (.long sz), .second, .val (.int fm), .val (.ref b1), .val (.ref b3), .val (.int (0 : Int32))]) rfl k_) ?_
          refine own_w (T' := T4) (g' := (mkF m 106 #[.val (.int f), .val (.long en), .second, .val (.long ro), .second, .val (.long d), .second, .val (.int k), .val (.int (k &&& (3 : Int32))), .val (.long sz), .second, .val (.int fm), .val (.ref b1), .val (.ref b3), .val (.int (0 : Int32))] [(.ref b3)])) (fun _ k_ => XS.aload X4.here hx rfl (hb hby at_104) rfl rfl k_) ?_
          obtain ⟨cq7, kq7, q7a, q7b, q7c⟩ := isOf hZ e4 E4
          obtain ⟨_, _, ⟨T7, L7, k7, n7⟩, -, X7, ⟨Lc7, hQ7, l7, y7, z7⟩, st7⟩ := X4.virtualBack hx (y := (⟨"com/example/oaken_shelf/oakenshelf/journal/Frames$Reading", "whole", "()Z"⟩ : MethodName)) (z := (⟨"com/example/oaken_shelf/oakenshelf/journal/Frames$Reading", "whole", "()Z"⟩ : MethodName)) hown (mvT hZ (hw _ (List.mem_of_getElem? (i := 54) rfl))) (mvT hZ (hw _ (List.mem_of_getElem? (i := 55) rfl))) (notFace_of_selects (args := #[]) (mvT hZ (hw _ (List.mem_of_getElem? (i := 57) rfl)))) (mvT hZ (hw _ (List.mem_of_getElem? (i := 57) rfl))) (mvT hZ (hw _ (List.mem_of_getElem? (i := 56) rfl))) (by decide) (backOf (W := 0) (own_rm7 l Z a0 hw [] b3 _ _ _ _ h4 n0 Z4 F40 F41 F42 F43) hZ (hw _ (List.mem_of_getElem? (i := 58) rfl)) (hw _ (List.mem_of_getElem? (i := 28) rfl)) (by decide) (by decide)) q7a q7c (g := (mkF m 106 #[.val (.int f), .val (.long en), .second, .val (.long ro), .second, .val (.long d), .second, .val (.int k), .val (.int (k &&& (3 : Int32))), .val (.long sz), .second, .val (.int fm), .val (.ref b1), .val (.ref b3), .val (.int (0 : Int32))] [(.ref b3)])) rfl (by rw [hml]; rfl) (Steps.refl _) (argsL := []) (rest := []) (lenOf own_pd2 rfl) rfl (by show 2 * 0 + _ ≤ _; exact Nat.le_of_eq rfl) (hb hby at_106) (fun _ _ => ⟨rfl, e4, (by decide : 2 + 0 ≤ _), (by decide : 11 + 0 ≤ _)⟩)
          dsimp only [Pt.U, Pt.locs, Pt.cells, Pt.slots] at X7 l7 y7 z7 st7 hQ7
          subst l7 y7 z7
          obtain ⟨rfl, N7q, e7⟩ := hQ7
          have N7 := Fr.app N4 N7q
          refine own_t (T' := T7) (g' := (mkF m 109 #[.val (.int f), .val (.long en), .second, .val (.long ro), .second, .val (.long d), .second, .val (.int k), .val (.int (k &&& (3 : Int32))), .val (.long sz), .second, .val (.int fm), .val (.ref b1), .val (.ref b3), .val (.int (0 : Int32))] [(.int (if ((0 : Int32) < fm ∧ en + ro = sz) then (1 : Int32) else 0))])) st7 ?_
          refine own_w (T' := T7) (g' := (mkF m 111 #[.val (.int f), .val (.long en), .second, .val (.long ro), .second, .val (.long d), .second, .val (.int k), .val (.int (k &&& (3 : Int32))), .val (.long sz), .second, .val (.int fm), .val (.ref b1), .val (.ref b3), .val (.int (0 : Int32))] [(.int (0 : Int32)), (.int (if ((0 : Int32) < fm ∧ en + ro = sz) then (1 : Int32) else 0))])) (fun _ k_ => XS.iload X7.here hx rfl (hb hby at_109) rfl k_) ?_
          refine own_w (T' := T7) (g' := (mkF m 114 #[.val (.int f), .val (.long en), .second, .val (.long ro), .second, .val (.long d), .second, .val (.int k), .val (.int (k &&& (3 : Int32))), .val (.long sz), .second, .val (.int fm), .val (.ref b1), .val (.ref b3), .val (.int (0 : Int32))] [])) (fun _ k_ => XS.icmpNo X7.here hx rfl (hb hby at_111) rfl (teq (own_t3 hc94)).2 k_) ?_
          refine own_w (T' := T7) (g' := (mkF m 115 #[.val (.int f), .val (.long en), .second, .val (.long ro), .second, .val (.long d), .second, .val (.int k), .val (.int (k &&& (3 : Int32))), .val (.long sz), .second, .val (.int fm), .val (.ref b1), .val (.ref b3), .val (.int (0 : Int32))] [(.int (1 : Int32))])) (fun _ k_ => XS.iconst X7.here hx rfl (hb hby at_114) k_) ?_
          refine own_w (T' := T7) (g' := (mkF m 119 #[.val (.int f), .val (.long en), .second, .val (.long ro), .second, .val (.long d), .second, .val (.int k), .val (.int (k &&& (3 : Int32))), .val (.long sz), .second, .val (.int fm), .val (.ref b1), .val (.ref b3), .val (.int (0 : Int32))] [(.int (1 : Int32))])) (fun _ k_ => XS.goto X7.here hx rfl (pc0 := 115) (pc' := 119) rfl (hb hby at_115) (by decide) (by decide) k_) ?_
          obtain ⟨fs, hr, hrun, hended, hW, hsame⟩ := X7.leave (v := some (.int (1 : Int32))) (fun h => by rw [Bd.returns] at h; cases h)
          exact ⟨_, _, retOut X7 hx Bd.returns rfl (Or.inl ⟨rfl, Or.inr (Or.inl rfl), _, rfl⟩) (hb hby at_119) hr, hrun, hended, _, _, rfl, (by show own_Q0 Z f en ro d k wd h0 n0 _ T7.heap _; rw [e7]; exact ⟨rfl, N7⟩), ⟨_, rfl⟩, hW, hsame.mono (by decide) (by decide)⟩
    by_cases hc33 : (((k.toUInt32 >>> ((2 : Int32) &&& 31).toUInt32).toInt32) &&& (1 : Int32)) = (0 : Int32)
    · refine own_w (T' := TJ) (g' := (mkF m 40 #[.val (.int f), .val (.long en), .second, .val (.long ro), .second, .val (.long d), .second, .val (.int k), .val (.int (k &&& (3 : Int32))), .val (.long sz), .second, .unset, .unset, .unset, .unset] [])) (fun _ k_ => XS.ifYes XJ.here hx rfl (pc0 := 33) (pc' := 40) rfl (hb hby at_33) rfl ((if0 _ _).trans (teq hc33).1) (by decide) (by decide) k_) ?_
      refine own_w (T' := TJ) (g' := (mkF m 42 #[.val (.int f), .val (.long en), .second, .val (.long ro), .second, .val (.long d), .second, .val (.int k), .val (.int (k &&& (3 : Int32))), .val (.long sz), .second, .unset, .unset, .unset, .unset] [(.int k)])) (fun _ k_ => XS.iload XJ.here hx rfl (hb hby at_40) rfl k_) ?_
      refine own_w (T' := TJ) (g' := (mkF m 43 #[.val (.int f), .val (.long en), .second, .val (.long ro), .second, .val (.long d), .second, .val (.int k), .val (.int (k &&& (3 : Int32))), .val (.long sz), .second, .unset, .unset, .unset, .unset] [(.int (3 : Int32)), (.int k)])) (fun _ k_ => XS.iconst XJ.here hx rfl (hb hby at_42) k_) ?_
      refine own_w (T' := TJ) (g' := (mkF m 44 #[.val (.int f), .val (.long en), .second, .val (.long ro), .second, .val (.long d), .second, .val (.int k), .val (.int (k &&& (3 : Int32))), .val (.long sz), .second, .unset, .unset, .unset, .unset] [(.int ((k.toUInt32 >>> ((3 : Int32) &&& 31).toUInt32).toInt32))])) (fun _ k_ => XS.iushr XJ.here hx rfl (hb hby at_43) rfl k_) ?_
      refine own_w (T' := TJ) (g' := (mkF m 45 #[.val (.int f), .val (.long en), .second, .val (.long ro), .second, .val (.long d), .second, .val (.int k), .val (.int (k &&& (3 : Int32))), .val (.long sz), .second, .unset, .unset, .unset, .unset] [(.int (3 : Int32)), (.int ((k.toUInt32 >>> ((3 : Int32) &&& 31).toUInt32).toInt32))])) (fun _ k_ => XS.iconst XJ.here hx rfl (hb hby at_44) k_) ?_
      refine own_w (T' := TJ) (g' := (mkF m 46 #[.val (.int f), .val (.long en), .second, .val (.long ro), .second, .val (.long d), .second, .val (.int k), .val (.int (k &&& (3 : Int32))), .val (.long sz), .second, .unset, .unset, .unset, .unset] [(.int (((k.toUInt32 >>> ((3 : Int32) &&& 31).toUInt32).toInt32) &&& (3 : Int32)))])) (fun _ k_ => XS.iand XJ.here hx rfl (hb hby at_45) rfl k_) ?_
      refine own_w (T' := TJ) (g' := (mkF m 47 #[.val (.int f), .val (.long en), .second, .val (.long ro), .second, .val (.long d), .second, .val (.int k), .val (.int (k &&& (3 : Int32))), .val (.long sz), .second, .unset, .unset, .unset, .unset] [(.int (1 : Int32)), (.int (((k.toUInt32 >>> ((3 : Int32) &&& 31).toUInt32).toInt32) &&& (3 : Int32)))])) (fun _ k_ => XS.iconst XJ.here hx rfl (hb hby at_46) k_) ?_
      refine own_w (T' := TJ) (g' := (mkF m 48 #[.val (.int f), .val (.long en), .second, .val (.long ro), .second, .val (.long d), .second, .val (.int k), .val (.int (k &&& (3 : Int32))), .val (.long sz), .second, .unset, .unset, .unset, .unset] [(.int ((((k.toUInt32 >>> ((3 : Int32) &&& 31).toUInt32).toInt32) &&& (3 : Int32)) - (1 : Int32)))])) (fun _ k_ => XS.isub XJ.here hx rfl (hb hby at_47) rfl k_) ?_
      exact J48 _ _ XJ eJ NJ ((((k.toUInt32 >>> ((3 : Int32) &&& 31).toUInt32).toInt32) &&& (3 : Int32)) - (1 : Int32))
    · refine own_w (T' := TJ) (g' := (mkF m 36 #[.val (.int f), .val (.long en), .second, .val (.long ro), .second, .val (.long d), .second, .val (.int k), .val (.int (k &&& (3 : Int32))), .val (.long sz), .second, .unset, .unset, .unset, .unset] [])) (fun _ k_ => XS.ifNo XJ.here hx rfl (hb hby at_33) rfl ((if0 _ _).trans (feq hc33).1) k_) ?_
      refine own_w (T' := TJ) (g' := (mkF m 37 #[.val (.int f), .val (.long en), .second, .val (.long ro), .second, .val (.long d), .second, .val (.int k), .val (.int (k &&& (3 : Int32))), .val (.long sz), .second, .unset, .unset, .unset, .unset] [(.int f)])) (fun _ k_ => XS.iloadN XJ.here hx rfl (hb hby at_36) rfl k_) ?_
      refine own_w (T' := TJ) (g' := (mkF m 48 #[.val (.int f), .val (.long en), .second, .val (.long ro), .second, .val (.long d), .second, .val (.int k), .val (.int (k &&& (3 : Int32))), .val (.long sz), .second, .unset, .unset, .unset, .unset] [(.int f)])) (fun _ k_ => XS.goto XJ.here hx rfl (pc0 := 37) (pc' := 48) rfl (hb hby at_37) (by decide) (by decide) k_) ?_
      exact J48 _ _ XJ eJ NJ f
  by_cases hc8 : (k &&& (3 : Int32)) = (0 : Int32)
  · refine own_w (T' := s₁) (g' := (mkF m 11 #[.val (.int f), .val (.long en), .second, .val (.long ro), .second, .val (.long d), .second, .val (.int k), .val (.int (k &&& (3 : Int32))), .unset, .unset, .unset, .unset, .unset, .unset] [])) (fun _ k_ => XS.ifNo X0.here hx rfl (hb hby at_8) rfl ((if0 _ _).trans (teq hc8).2) k_) ?_
    refine own_w (T' := s₁) (g' := (mkF m 13 #[.val (.int f), .val (.long en), .second, .val (.long ro), .second, .val (.long d), .second, .val (.int k), .val (.int (k &&& (3 : Int32))), .unset, .unset, .unset, .unset, .unset, .unset] [(.long d)])) (fun _ k_ => XS.lload X0.here hx rfl (hb hby at_11) rfl k_) ?_
    refine own_w (T' := s₁) (g' := (mkF m 25 #[.val (.int f), .val (.long en), .second, .val (.long ro), .second, .val (.long d), .second, .val (.int k), .val (.int (k &&& (3 : Int32))), .unset, .unset, .unset, .unset, .unset, .unset] [(.long d)])) (fun _ k_ => XS.goto X0.here hx rfl (pc0 := 13) (pc' := 25) rfl (hb hby at_13) (by decide) (by decide) k_) ?_
    exact J25 _ _ X0 e0 N0 d
  · refine own_w (T' := s₁) (g' := (mkF m 16 #[.val (.int f), .val (.long en), .second, .val (.long ro), .second, .val (.long d), .second, .val (.int k), .val (.int (k &&& (3 : Int32))), .unset, .unset, .unset, .unset, .unset, .unset] [])) (fun _ k_ => XS.ifYes X0.here hx rfl (pc0 := 8) (pc' := 16) rfl (hb hby at_8) rfl ((if0 _ _).trans (feq hc8).2) (by decide) (by decide) k_) ?_
    refine own_w (T' := s₁) (g' := (mkF m 17 #[.val (.int f), .val (.long en), .second, .val (.long ro), .second, .val (.long d), .second, .val (.int k), .val (.int (k &&& (3 : Int32))), .unset, .unset, .unset, .unset, .unset, .unset] [(.long en)])) (fun _ k_ => XS.lloadN X0.here hx rfl (hb hby at_16) rfl k_) ?_
    refine own_w (T' := s₁) (g' := (mkF m 18 #[.val (.int f), .val (.long en), .second, .val (.long ro), .second, .val (.long d), .second, .val (.int k), .val (.int (k &&& (3 : Int32))), .unset, .unset, .unset, .unset, .unset, .unset] [(.long ro), (.long en)])) (fun _ k_ => XS.lloadN X0.here hx rfl (hb hby at_17) rfl k_) ?_
    refine own_w (T' := s₁) (g' := (mkF m 19 #[.val (.int f), .val (.long en), .second, .val (.long ro), .second, .val (.long d), .second, .val (.int k), .val (.int (k &&& (3 : Int32))), .unset, .unset, .unset, .unset, .unset, .unset] [(.long (en + ro))])) (fun _ k_ => XS.ladd X0.here hx rfl (hb hby at_18) rfl k_) ?_
    refine own_w (T' := s₁) (g' := (mkF m 21 #[.val (.int f), .val (.long en), .second, .val (.long ro), .second, .val (.long d), .second, .val (.int k), .val (.int (k &&& (3 : Int32))), .unset, .unset, .unset, .unset, .unset, .unset] [(.int (k &&& (3 : Int32))), (.long (en + ro))])) (fun _ k_ => XS.iload X0.here hx rfl (hb hby at_19) rfl k_) ?_
    refine own_w (T' := s₁) (g' := (mkF m 22 #[.val (.int f), .val (.long en), .second, .val (.long ro), .second, .val (.long d), .second, .val (.int k), .val (.int (k &&& (3 : Int32))), .unset, .unset, .unset, .unset, .unset, .unset] [(.int (2 : Int32)), (.int (k &&& (3 : Int32))), (.long (en + ro))])) (fun _ k_ => XS.iconst X0.here hx rfl (hb hby at_21) k_) ?_
    refine own_w (T' := s₁) (g' := (mkF m 23 #[.val (.int f), .val (.long en), .second, .val (.long ro), .second, .val (.long d), .second, .val (.int k), .val (.int (k &&& (3 : Int32))), .unset, .unset, .unset, .unset, .unset, .unset] [(.int ((k &&& (3 : Int32)) - (2 : Int32))), (.long (en + ro))])) (fun _ k_ => XS.isub X0.here hx rfl (hb hby at_22) rfl k_) ?_
    refine own_w (T' := s₁) (g' := (mkF m 24 #[.val (.int f), .val (.long en), .second, .val (.long ro), .second, .val (.long d), .second, .val (.int k), .val (.int (k &&& (3 : Int32))), .unset, .unset, .unset, .unset, .unset, .unset] [(.long (((k &&& (3 : Int32)) - (2 : Int32)).toInt64)), (.long (en + ro))])) (fun _ k_ => XS.i2l X0.here hx rfl (hb hby at_23) rfl k_) ?_
    refine own_w (T' := s₁) (g' := (mkF m 25 #[.val (.int f), .val (.long en), .second, .val (.long ro), .second, .val (.long d), .second, .val (.int k), .val (.int (k &&& (3 : Int32))), .unset, .unset, .unset, .unset, .unset, .unset] [(.long ((en + ro) + (((k &&& (3 : Int32)) - (2 : Int32)).toInt64)))])) (fun _ k_ => XS.ladd X0.here hx rfl (hb hby at_24) rfl k_) ?_
    exact J25 _ _ X0 e0 N0 ((en + ro) + (((k &&& (3 : Int32)) - (2 : Int32)).toInt64))
set_option maxRecDepth 65536 in
set_option maxHeartbeats 40000000 in
theorem comes_1 {Post : Tables → Env → Array Value → State → Outcome → State → Prop} (hpost : ∀ tb e args s v u, (limb_1_1.after args s (.returned v) u = true ∧ limb_1_2.after args s (.returned v) u = true ∧ True) → FrameEnd s (.returned v) u (Jvm.fieldLocs frame_1_writes args s ++ Jvm.arrayLocs frame_1_arrays args s ++ Jvm.staticLocs frame_1_statics s) 16 128 → Post tb e args s (.returned v) u) :
    ArmFor flags0 classFile x code maxLocals ret World_1 tables_1 room_1 Calls_1 rest_1 Pre_1 Post := by
  intro l hfl _ _ p e ha hc hk s m args below hf hA hF happ hP
  obtain ⟨hcalls, hrest, hpre⟩ := hP
  obtain ⟨-, -, -, hnamed, -, -, -, hat⟩ := (Spec.applies_iff hf).mp happ
  obtain ⟨hg, hn⟩ := and_e (Cond.before_iff.mp (show (Jvm.Cond.and given_1 narrow_1).before args s = true from hpre))
  obtain ⟨hcount, hr0⟩ := and_e hg
  obtain ⟨ga0, hr1⟩ := and_e hr0
  obtain ⟨ga1, hr2⟩ := and_e hr1
  obtain ⟨ga2, hr3⟩ := and_e hr2
  obtain ⟨ga3, hr4⟩ := and_e hr3
  have ga4 := hr4
  obtain ⟨w0, w1, w2, w3, w4, rfl⟩ : ∃ w0 w1 w2 w3 w4 : Value, args = #[w0, w1, w2, w3, w4] := by
    have hs : args.size = 5 := by simpa [Cond.value, given_1] using hcount
    obtain ⟨L⟩ := args
    match L, hs with
    | [w0, w1, w2, w3, w4], _ => exact ⟨w0, w1, w2, w3, w4, rfl⟩
  have hw := fun d (hd : d ∈ tables_1) => atoms_spec (ws := Jvm.Cond.code x code maxLocals ret :: tables_1) hat d (List.mem_cons_of_mem _ hd)
  obtain ⟨i0, ei0⟩ := is_v ga0
  obtain rfl : w0 = (.int i0) := Option.some.inj ei0
  obtain ⟨i1, ei1⟩ := isL_v ga1
  obtain rfl : w1 = (.long i1) := Option.some.inj ei1
  obtain ⟨i2, ei2⟩ := isL_v ga2
  obtain rfl : w2 = (.long i2) := Option.some.inj ei2
  obtain ⟨i3, ei3⟩ := isL_v ga3
  obtain rfl : w3 = (.long i3) := Option.some.inj ei3
  obtain ⟨i4, ei4⟩ := is_v ga4
  obtain rfl : w4 = (.int i4) := Option.some.inj ei4
  obtain ⟨hsets, hown0⟩ := atoms_of _ (rest_1_c_eq ▸ (show rest_1_c.before _ s = true from hrest))
  obtain ⟨wd, _, _, _, ev, _⟩ := Cond.exactly_spec (hsets _ (List.mem_of_getElem? (i := 7) rfl))
  have S := Sta.start ev (Or.inr ⟨hw _ (List.mem_of_getElem? (i := 2) rfl), hsets _ (List.mem_of_getElem? (i := 2) rfl)⟩)
  obtain ⟨n, o, h1, h2, h3, _, L, rfl, ⟨rfl, N⟩, hq⟩ := own_rm0 l s _ hw tables_1 i0 i1 i2 i3 i4 wd s.heap s.heap.size (Nat.le_refl _) S p e ha hc hk s m _ below hf ((Spec.applies_iff_loose hf).mp happ).1 ⟨rfl, State.Warmed39.refl s, rfl⟩ trivial
  refine ⟨n, _, h1, h2, h3, hpost _ _ _ _ _ _ ⟨Cond.after_iff.mpr rfl, Cond.after_iff.mpr (eq_i res_at (Term.int_eval (1)) rfl), trivial⟩ ⟨hq.1, hq.2.1, (hq.2.2.sift fun y hy => Or.inr (N y hy)).mono (by decide) (by decide)⟩⟩
theorem main_1_1 : Claimed_1_1 := comes_1 fun _ _ _ _ _ _ h hF => ⟨h.1, hF⟩
theorem main_1_2 : Claimed_1_2 := comes_1 fun _ _ _ _ _ _ h hF => ⟨h.2.1, hF⟩
end Jvm.Pilot.@@N@@
namespace Jvm.Pilot.@@N@@
open Jvm Jvm.ClassFile Sem Op Lib Jvm.Free Jvm.Stand Jvm.Pilot.@@N@@.Jvm.D
/-! MADE BY PROGRAM (witnessworld.py) out of the Statement's table words and the real class files: 19 classes; the members and pool entries that the words name. The judged class is class 1, her method 1. -/
namespace start1
open Jvm.ClassFile
def u (s : String) : CpInfo := .utf8 (stringToUtf16 s)
/-- a pool by its gaps: so many unusable entries, then the entry; so many at the end -/
def gap : Nat → List CpInfo → List CpInfo
  | 0, r => r
  | n + 1, r => .unusable :: gap n r
def poolList (es : List (Nat × CpInfo)) (last : Nat) : List CpInfo := es.foldr (fun e r => gap e.1 (e.2 :: r)) (gap last [])
def pool (es : List (Nat × CpInfo)) (last : Nat) : Array CpInfo := ⟨poolList es last⟩
def fileOf (pool : Array CpInfo) (this : Nat) (attrs : Array Attribute := #[]) (ms : Array MethodInfo := #[]) (fl : Nat := 33) (sup : Nat := 0) (ifs : Array Nat := #[]) (fds : Array FieldInfo := #[]) : ClassFile where
  minorVersion := 0
  majorVersion := 65
  constantPool := pool
  accessFlags := fl
  thisClass := this
  superClass := sup
  interfaces := ifs
  fields := fds
  methods := ms
  attributes := attrs
def plain (name : String) (sup : Option ClassId) : Class where
  name := name
  kind := .ordinary
  loader := none
  accessFlags := 33
  super := sup
  interfaces := #[]
  cf := none
  fields := #[]
  methods := #[]
  instanceTypes := #[]
  staticTypes := #[]
  resolved := #[]
  callSites := []
  init := .initialized
  statics := none
  mirror := none

def pool0 : Array CpInfo := pool [(5, u "<init>"), (0, u "()V"), (1, .class_ 10), (1, u "java/lang/Object")] 113

def k0c0 : Code := { maxStack := 0, maxLocals := 1, code := object_method_1_code, exceptionTable := #[], attributes := #[] }
def k0m0 : Method := { name := "<init>", desc := "()V", sig := { parameters := [], returnType := none }, accessFlags := 1, code := some k0c0 }
/-- java/lang/Object -/
def k0 : Class := { plain "java/lang/Object" none with
  accessFlags := 33
  interfaces := #[]
  cf := some (fileOf pool0 8 #[] #[{ accessFlags := 1, nameIndex := 5, descriptorIndex := 6, attributes := #[] }] 33 0 #[] #[])
  fields := #[]
  methods := #[k0m0]
  instanceTypes := #[]
  staticTypes := #[]
  resolved := Array.replicate 124 none
  statics := none }

def pool1 : Array CpInfo := pool [(2, .class_ 4), (0, .nameAndType 5 6), (0, u "java/lang/Object"), (0, u "<init>"), (0, u "()V"), (0, .class_ 8), (0, u "java/util/ArrayList"), (0, .methodref 7 3), (0, .class_ 11), (0, u "com/example/oaken_shelf/oakenshelf/journal/Frames$Reading"), (0, .methodref 10 13), (0, .nameAndType 5 14), (0, u "(IJJJJJLjava/util/List;J)V"), (0, .methodref 10 16), (0, .nameAndType 17 18), (0, u "whole"), (0, u "()Z"), (0, .class_ 20), (0, u "com/example/oaken_shelf/oakenshelf/journal/ReadingWholePinLaw"), (2, u "law"), (0, u "(IJJJI)Z")] 7

def k1m0 : Method := { name := "<init>", desc := "()V", sig := { parameters := [], returnType := none }, accessFlags := 1, code := none }
def k1c1 : Code := { maxStack := 16, maxLocals := 15, code := code, exceptionTable := #[], attributes := #[] }
def k1m1 : Method := { name := "law", desc := "(IJJJI)Z", sig := { parameters := [.int, .long, .long, .long, .int], returnType := some .boolean }, accessFlags := 9, code := some k1c1 }
/-- com/example/oaken_shelf/oakenshelf/journal/ReadingWholePinLaw -/
def k1 : Class := { plain "com/example/oaken_shelf/oakenshelf/journal/ReadingWholePinLaw" (some 0) with
  accessFlags := 49
  interfaces := #[]
  cf := some (fileOf pool1 19 #[] #[{ accessFlags := 1, nameIndex := 5, descriptorIndex := 6, attributes := #[] }, { accessFlags := 9, nameIndex := 23, descriptorIndex := 24, attributes := #[] }] 49 2 #[] #[])
  fields := #[]
  methods := #[k1m0, k1m1]
  instanceTypes := #[]
  staticTypes := #[]
  resolved := Array.replicate 32 none
  statics := none }

def pool2 : Array CpInfo := pool [(8, .class_ 10), (1, u "java/lang/Iterable"), (24, .class_ 36), (0, u "java/lang/Object")] 25

/-- java/lang/Iterable -/
def k2 : Class := { plain "java/lang/Iterable" (some 0) with
  accessFlags := 1537
  interfaces := #[]
  cf := some (fileOf pool2 8 #[] #[] 1537 35 #[] #[])
  fields := #[]
  methods := #[]
  instanceTypes := #[]
  staticTypes := #[]
  resolved := Array.replicate 62 none
  statics := none }

def pool3 : Array CpInfo := pool [(10, .class_ 12), (1, u "java/util/Collection"), (47, .class_ 61), (0, u "java/lang/Object"), (0, .class_ 63), (0, u "java/lang/Iterable")] 51

/-- java/util/Collection -/
def k3 : Class := { plain "java/util/Collection" (some 0) with
  accessFlags := 1537
  interfaces := #[2]
  cf := some (fileOf pool3 10 #[] #[] 1537 60 #[62] #[])
  fields := #[]
  methods := #[]
  instanceTypes := #[]
  staticTypes := #[]
  resolved := Array.replicate 115 none
  statics := none }

def pool4 : Array CpInfo := pool [(1, .methodref 2 3), (0, .class_ 4), (0, .nameAndType 5 6), (0, u "java/lang/Object"), (0, u "<init>"), (0, u "()V"), (1, .class_ 10), (1, u "java/util/AbstractCollection"), (66, .class_ 78), (0, u "java/util/Collection")] 81

def k4c0 : Code := { maxStack := 1, maxLocals := 1, code := jdk_22_method_1_code, exceptionTable := #[], attributes := #[] }
def k4m0 : Method := { name := "<init>", desc := "()V", sig := { parameters := [], returnType := none }, accessFlags := 4, code := some k4c0 }
/-- java/util/AbstractCollection -/
def k4 : Class := { plain "java/util/AbstractCollection" (some 0) with
  accessFlags := 1057
  interfaces := #[3]
  cf := some (fileOf pool4 8 #[] #[{ accessFlags := 4, nameIndex := 5, descriptorIndex := 6, attributes := #[] }] 1057 2 #[77] #[])
  fields := #[]
  methods := #[k4m0]
  instanceTypes := #[]
  staticTypes := #[]
  resolved := Array.replicate 160 none
  statics := none }

def pool5 : Array CpInfo := pool [(8, .class_ 10), (1, u "java/util/SequencedCollection"), (15, .class_ 27), (0, u "java/lang/Object"), (0, .class_ 29), (0, u "java/util/Collection")] 27

/-- java/util/SequencedCollection -/
def k5 : Class := { plain "java/util/SequencedCollection" (some 0) with
  accessFlags := 1537
  interfaces := #[3]
  cf := some (fileOf pool5 8 #[] #[] 1537 26 #[28] #[])
  fields := #[]
  methods := #[]
  instanceTypes := #[]
  staticTypes := #[]
  resolved := Array.replicate 57 none
  statics := none }

def pool6 : Array CpInfo := pool [(8, .class_ 10), (1, u "java/util/List"), (92, .class_ 104), (0, u "java/lang/Object"), (15, .class_ 121), (0, u "java/util/SequencedCollection")] 129

/-- java/util/List -/
def k6 : Class := { plain "java/util/List" (some 0) with
  accessFlags := 1537
  interfaces := #[5]
  cf := some (fileOf pool6 8 #[] #[] 1537 103 #[120] #[])
  fields := #[]
  methods := #[]
  instanceTypes := #[]
  staticTypes := #[]
  resolved := Array.replicate 251 none
  statics := none }

def pool7 : Array CpInfo := pool [(1, .methodref 2 3), (0, .class_ 4), (0, .nameAndType 5 6), (0, u "java/util/AbstractCollection"), (0, u "<init>"), (0, u "()V"), (0, .fieldref 8 9), (0, .class_ 10), (0, .nameAndType 11 12), (0, u "java/util/AbstractList"), (0, u "modCount"), (0, u "I"), (64, .class_ 78), (0, u "java/util/AbstractList$Itr"), (3, .class_ 83), (0, u "java/util/AbstractList$ListItr"), (9, .class_ 94), (0, u "java/util/AbstractList$RandomAccessSubList"), (3, .class_ 99), (0, u "java/util/AbstractList$SubList"), (33, .class_ 134), (0, u "java/util/List"), (73, .class_ 209), (0, u "java/util/AbstractList$SubList$1"), (0, .class_ 211), (0, u "java/util/AbstractList$RandomAccessSpliterator")] 6

def k7c0 : Code := { maxStack := 2, maxLocals := 1, code := jdk_39_method_1_code, exceptionTable := #[], attributes := #[] }
def k7m0 : Method := { name := "<init>", desc := "()V", sig := { parameters := [], returnType := none }, accessFlags := 4, code := some k7c0 }
/-- java/util/AbstractList -/
def k7 : Class := { plain "java/util/AbstractList" (some 4) with
  accessFlags := 1057
  interfaces := #[6]
  cf := some (fileOf pool7 8 #[.nestMembers #[93, 98, 208, 210, 82, 77]] #[{ accessFlags := 4, nameIndex := 5, descriptorIndex := 6, attributes := #[] }] 1057 2 #[133] #[{ accessFlags := 132, nameIndex := 11, descriptorIndex := 12, attributes := #[] }])
  fields := #[{ name := "modCount", type := .int, accessFlags := 132, slot := 0, constantValue := 0 }]
  methods := #[k7m0]
  instanceTypes := #[.int]
  staticTypes := #[]
  resolved := Array.replicate 218 none
  statics := none }

def pool8 : Array CpInfo := pool [(1, .class_ 2), (0, u "java/util/RandomAccess"), (0, .class_ 4), (0, u "java/lang/Object")] 2

/-- java/util/RandomAccess -/
def k8 : Class := { plain "java/util/RandomAccess" (some 0) with
  accessFlags := 1537
  interfaces := #[]
  cf := some (fileOf pool8 1 #[] #[] 1537 3 #[] #[])
  fields := #[]
  methods := #[]
  instanceTypes := #[]
  staticTypes := #[]
  resolved := Array.replicate 7 none
  statics := none }

def pool9 : Array CpInfo := pool [(1, .class_ 2), (0, u "java/lang/Cloneable"), (0, .class_ 4), (0, u "java/lang/Object")] 2

/-- java/lang/Cloneable -/
def k9 : Class := { plain "java/lang/Cloneable" (some 0) with
  accessFlags := 1537
  interfaces := #[]
  cf := some (fileOf pool9 1 #[] #[] 1537 3 #[] #[])
  fields := #[]
  methods := #[]
  instanceTypes := #[]
  staticTypes := #[]
  resolved := Array.replicate 7 none
  statics := none }

def pool10 : Array CpInfo := pool [(1, .class_ 2), (0, u "java/io/Serializable"), (0, .class_ 4), (0, u "java/lang/Object")] 2

/-- java/io/Serializable -/
def k10 : Class := { plain "java/io/Serializable" (some 0) with
  accessFlags := 1537
  interfaces := #[]
  cf := some (fileOf pool10 1 #[] #[] 1537 3 #[] #[])
  fields := #[]
  methods := #[]
  instanceTypes := #[]
  staticTypes := #[]
  resolved := Array.replicate 7 none
  statics := none }

def pool11 : Array CpInfo := pool [(1, .methodref 2 3), (0, .class_ 4), (0, .nameAndType 5 6), (0, u "java/util/AbstractList"), (0, u "<init>"), (0, u "()V"), (2, .fieldref 10 11), (0, .class_ 12), (0, .nameAndType 13 14), (0, u "java/util/ArrayList"), (0, u "elementData"), (0, u "[Ljava/lang/Object;"), (2, u "EMPTY_ELEMENTDATA"), (21, .fieldref 10 40), (0, .nameAndType 41 14), (0, u "DEFAULTCAPACITY_EMPTY_ELEMENTDATA"), (8, u "size"), (0, u "I"), (96, .class_ 149), (0, u "java/util/List"), (112, .class_ 263), (0, u "java/util/ArrayList$ListItr"), (3, .class_ 268), (0, u "java/util/ArrayList$Itr"), (7, .class_ 277), (0, u "java/util/ArrayList$SubList"), (12, .class_ 291), (0, u "java/util/ArrayList$ArrayListSpliterator"), (37, .class_ 330), (0, u "java/util/RandomAccess"), (0, .class_ 332), (0, u "java/lang/Cloneable"), (0, .class_ 334), (0, u "java/io/Serializable"), (0, u "serialVersionUID"), (0, u "J"), (3, u "DEFAULT_CAPACITY"), (159, .class_ 501), (0, u "java/util/ArrayList$SubList$2"), (0, .class_ 503), (0, u "java/util/ArrayList$SubList$1")] 5

def k11c0 : Code := { maxStack := 2, maxLocals := 1, code := jdk_38_method_2_code, exceptionTable := #[], attributes := #[] }
def k11m0 : Method := { name := "<init>", desc := "()V", sig := { parameters := [], returnType := none }, accessFlags := 1, code := some k11c0 }
/-- java/util/ArrayList -/
def k11 : Class := { plain "java/util/ArrayList" (some 7) with
  accessFlags := 33
  interfaces := #[6, 8, 9, 10]
  cf := some (fileOf pool11 10 #[.nestMembers #[290, 276, 500, 502, 262, 267]] #[{ accessFlags := 1, nameIndex := 5, descriptorIndex := 6, attributes := #[] }] 33 2 #[148, 329, 331, 333] #[{ accessFlags := 26, nameIndex := 335, descriptorIndex := 336, attributes := #[] }, { accessFlags := 26, nameIndex := 340, descriptorIndex := 51, attributes := #[] }, { accessFlags := 26, nameIndex := 17, descriptorIndex := 14, attributes := #[] }, { accessFlags := 26, nameIndex := 41, descriptorIndex := 14, attributes := #[] }, { accessFlags := 128, nameIndex := 13, descriptorIndex := 14, attributes := #[] }, { accessFlags := 2, nameIndex := 50, descriptorIndex := 51, attributes := #[] }])
  fields := #[{ name := "serialVersionUID", type := .long, accessFlags := 26, slot := 0, constantValue := 0 }, { name := "DEFAULT_CAPACITY", type := .int, accessFlags := 26, slot := 1, constantValue := 0 }, { name := "EMPTY_ELEMENTDATA", type := (.array (.object "java/lang/Object")), accessFlags := 26, slot := 2, constantValue := 0 }, { name := "DEFAULTCAPACITY_EMPTY_ELEMENTDATA", type := (.array (.object "java/lang/Object")), accessFlags := 26, slot := 3, constantValue := 0 }, { name := "elementData", type := (.array (.object "java/lang/Object")), accessFlags := 128, slot := 1, constantValue := 0 }, { name := "size", type := .int, accessFlags := 2, slot := 2, constantValue := 0 }]
  methods := #[k11m0]
  instanceTypes := #[.int, (.array (.object "java/lang/Object")), .int]
  staticTypes := #[.long, .int, (.array (.object "java/lang/Object")), (.array (.object "java/lang/Object"))]
  resolved := Array.replicate 509 none
  statics := some 0 }

def pool12 : Array CpInfo := pool [(1, .methodref 2 3), (0, .class_ 4), (0, .nameAndType 5 6), (0, u "java/lang/Object"), (0, u "<init>"), (0, u "()V"), (0, .class_ 8), (0, u "java/lang/Record")] 13

def k12c0 : Code := { maxStack := 1, maxLocals := 1, code := jdk_30_method_1_code, exceptionTable := #[], attributes := #[] }
def k12m0 : Method := { name := "<init>", desc := "()V", sig := { parameters := [], returnType := none }, accessFlags := 4, code := some k12c0 }
/-- java/lang/Record -/
def k12 : Class := { plain "java/lang/Record" (some 0) with
  accessFlags := 1057
  interfaces := #[]
  cf := some (fileOf pool12 7 #[] #[{ accessFlags := 4, nameIndex := 5, descriptorIndex := 6, attributes := #[] }] 1057 2 #[] #[])
  fields := #[]
  methods := #[k12m0]
  instanceTypes := #[]
  staticTypes := #[]
  resolved := Array.replicate 22 none
  statics := none }

def pool13 : Array CpInfo := pool [(1, .methodref 2 3), (0, .class_ 4), (0, .nameAndType 5 6), (0, u "java/lang/Record"), (0, u "<init>"), (0, u "()V"), (0, .fieldref 8 9), (0, .class_ 10), (0, .nameAndType 11 12), (0, u "com/example/oaken_shelf/oakenshelf/journal/Frames$Reading"), (0, u "format"), (0, u "I"), (0, .fieldref 8 14), (0, .nameAndType 15 16), (0, u "end"), (0, u "J"), (0, .fieldref 8 18), (0, .nameAndType 19 16), (0, u "room"), (0, .fieldref 8 21), (0, .nameAndType 22 16), (0, u "size"), (0, .fieldref 8 24), (0, .nameAndType 25 16), (0, u "records"), (0, .fieldref 8 27), (0, .nameAndType 28 16), (0, u "openWrite"), (0, .fieldref 8 30), (0, .nameAndType 31 32), (0, u "damage"), (0, u "Ljava/util/List;"), (0, .fieldref 8 34), (0, .nameAndType 35 16), (0, u "laterRecords"), (5, u "()Z"), (26, u "(IJJJJJLjava/util/List;J)V"), (4, u "whole"), (10, .class_ 85), (0, u "com/example/oaken_shelf/oakenshelf/journal/Frames")] 27

def k13c0 : Code := { maxStack := 3, maxLocals := 15, code := prog_35_method_1_code, exceptionTable := #[], attributes := #[] }
def k13m0 : Method := { name := "<init>", desc := "(IJJJJJLjava/util/List;J)V", sig := { parameters := [.int, .long, .long, .long, .long, .long, (.object "java/util/List"), .long], returnType := none }, accessFlags := 1, code := some k13c0 }
def k13c1 : Code := { maxStack := 4, maxLocals := 1, code := prog_35_method_2_code, exceptionTable := #[], attributes := #[] }
def k13m1 : Method := { name := "whole", desc := "()Z", sig := { parameters := [], returnType := some .boolean }, accessFlags := 1, code := some k13c1 }
/-- com/example/oaken_shelf/oakenshelf/journal/Frames$Reading -/
def k13 : Class := { plain "com/example/oaken_shelf/oakenshelf/journal/Frames$Reading" (some 12) with
  accessFlags := 49
  interfaces := #[]
  cf := some (fileOf pool13 8 #[.nestHost 84] #[{ accessFlags := 1, nameIndex := 5, descriptorIndex := 68, attributes := #[] }, { accessFlags := 1, nameIndex := 73, descriptorIndex := 41, attributes := #[] }] 49 2 #[] #[{ accessFlags := 18, nameIndex := 11, descriptorIndex := 12, attributes := #[] }, { accessFlags := 18, nameIndex := 15, descriptorIndex := 16, attributes := #[] }, { accessFlags := 18, nameIndex := 19, descriptorIndex := 16, attributes := #[] }, { accessFlags := 18, nameIndex := 22, descriptorIndex := 16, attributes := #[] }, { accessFlags := 18, nameIndex := 25, descriptorIndex := 16, attributes := #[] }, { accessFlags := 18, nameIndex := 28, descriptorIndex := 16, attributes := #[] }, { accessFlags := 18, nameIndex := 31, descriptorIndex := 32, attributes := #[] }, { accessFlags := 18, nameIndex := 35, descriptorIndex := 16, attributes := #[] }])
  fields := #[{ name := "format", type := .int, accessFlags := 18, slot := 0, constantValue := 0 }, { name := "end", type := .long, accessFlags := 18, slot := 1, constantValue := 0 }, { name := "room", type := .long, accessFlags := 18, slot := 2, constantValue := 0 }, { name := "size", type := .long, accessFlags := 18, slot := 3, constantValue := 0 }, { name := "records", type := .long, accessFlags := 18, slot := 4, constantValue := 0 }, { name := "openWrite", type := .long, accessFlags := 18, slot := 5, constantValue := 0 }, { name := "damage", type := (.object "java/util/List"), accessFlags := 18, slot := 6, constantValue := 0 }, { name := "laterRecords", type := .long, accessFlags := 18, slot := 7, constantValue := 0 }]
  methods := #[k13m0, k13m1]
  instanceTypes := #[.int, .long, .long, .long, .long, .long, (.object "java/util/List"), .long]
  staticTypes := #[]
  resolved := Array.replicate 113 none
  statics := none }

/-- the primitive byte -/
def k14 : Class := { plain "byte" none with kind := .primitive 'B', accessFlags := 0x411 }
/-- [B -/
def k15 : Class := { plain "[B" (some 0) with kind := .array 14 .byte, interfaces := #[9, 10], accessFlags := 1041 }

/-- the primitive int -/
def k16 : Class := { plain "int" none with kind := .primitive 'I', accessFlags := 0x411 }
/-- [I -/
def k17 : Class := { plain "[I" (some 0) with kind := .array 16 .int, interfaces := #[9, 10], accessFlags := 1041 }

/-- [Ljava/lang/Object; -/
def k18 : Class := { plain "[Ljava/lang/Object;" (some 0) with kind := .array 0 (.object "java/lang/Object"), interfaces := #[9, 10], accessFlags := 1041 }

def heap : Heap := #[{ cls := 11, slots := #[.long 0, .int 0, .ref 1, .ref 2], vm := .statics 11 },
  { cls := 18, slots := #[], vm := .none },
  { cls := 18, slots := #[], vm := .none }]
def classes : Array Class := #[k0, k1, k2, k3, k4, k5, k6, k7, k8, k9, k10, k11, k12, k13, k14, k15, k16, k17, k18]
def interned : List (Array UInt16 × Addr) := []
def slotsUsed : Nat := 4
def theMethod : MethodId := ⟨1, 1⟩
def args0 : Array Value := #[.int 1, .long 7, .long 9, .long 3, .int 2]
def aboutOver (below : List Frame) : State where
  vm := { classes := classes, interned := interned.toArray }
  heap := heap
  slotsUsed := slotsUsed
  threads := #[{ frames := .invoking theMethod args0 :: below }]
def below0 : List Frame := [.native { method := ⟨0, 0⟩, args := #[] }]
def about1 : State := aboutOver below0
def p0 : Program := .bare "" "" ""
def e0 : Env := launch0.env 0 0 0
theorem w_frames : about1.frames = Frame.invoking theMethod args0 :: below0 := rfl
set_option maxRecDepth 65536 in
theorem w_args : argsFit about1.vm theMethod args0 = true := by decide +kernel
set_option maxRecDepth 65536 in
theorem w_heap : heapFits about1 = true := by decide +kernel
set_option maxRecDepth 65536 in
theorem w_runnable : about1.curStatus? = some .runnable := by decide +kernel
set_option maxRecDepth 65536 in
theorem w_alone : about1.alone = true := by decide +kernel
set_option maxRecDepth 65536 in
theorem w_named : about1.methodNamed? x = some theMethod := by decide +kernel
set_option maxRecDepth 65536 in
theorem w_hears : about1.hears theMethod below0 = true := by decide +kernel
set_option maxRecDepth 65536 in
theorem w_ripe : about1.ripe theMethod args0 below0 = true := by decide +kernel
theorem w_running : about1.status = .running := rfl
set_option maxRecDepth 65536 in
theorem w_room : about1.hasRoom e0.platform room_1 = true :=
  launch0.hasRoom_least _ room_1 (by decide +kernel) (by decide +kernel) (by decide +kernel) (by decide +kernel) (by decide +kernel) (by decide +kernel)
theorem allAtoms_all (ts : List Jvm.Cond) (a : Array Jvm.Value) (st : Jvm.State) : (allAtoms ts).before a st = ts.all (fun c => c.before a st) := by
  induction ts with
  | nil => rfl
  | cons c t ih =>
    show (Jvm.Cond.and c (allAtoms t)).before a st = _
    rw [Jvm.Cond.before_and, ih, List.all_cons]
def words1 : List Jvm.Cond := Jvm.Cond.code x code maxLocals ret :: tables_1
/-- a 'code' word, met by the world's own term for the bytes: nothing is compared byte by byte -/
theorem code_word {y : MethodName} {bytes : ByteArray} {mx : Nat} {rt : Option FieldType} {a : Array Value} {s : State} {m : MethodId} {meth : Method} {c : Code} (h1 : s.methodNamed? y = some m) (h2 : s.vm.method? m = some meth) (h3 : meth.code = some c) (h4 : c.code = bytes)
    (h5 : (c.maxLocals == mx && c.exceptionTable.isEmpty && decide (c.maxStack ≤ mostOperands) && decide (meth.sig.returnType = rt) && !meth.locks && decide (parseMethodDescriptor y.desc = some meth.sig)) = true) : (Jvm.Cond.code y bytes mx rt).before a s = true := by
  simp only [Bool.and_eq_true, beq_iff_eq, Bool.not_eq_true', decide_eq_true_eq] at h5
  obtain ⟨⟨⟨⟨⟨g1, g2⟩, g3⟩, g4⟩, g5⟩, g6⟩ := h5
  simp [Cond.before, Cond.holds, Cond.value, h1, h2, h3, h4, g1, g2, g3, g4, g5, g6]
def isCode : Jvm.Cond → Bool
  | .code _ _ _ _ => true
  | _ => false
theorem all_split {L : List Jvm.Cond} {P : Jvm.Cond → Bool} (h1 : L.all (fun c => isCode c || P c) = true) (h2 : ∀ c ∈ L.filter isCode, P c = true) : L.all P = true := by
  refine List.all_eq_true.mpr fun c hc => ?_
  have h := List.all_eq_true.mp h1 c hc
  rcases Bool.eq_false_or_eq_true (isCode c) with hi | hi
  · exact h2 c (List.mem_filter.mpr ⟨hc, hi⟩)
  · simpa [hi] using h
set_option maxRecDepth 65536 in
theorem w_c0 : (Jvm.Cond.code x code maxLocals ret).before args0 about1 = true := code_word (m := ⟨1, 1⟩) (meth := k1m1) (c := k1c1) (by decide +kernel) rfl rfl rfl (by decide +kernel)
set_option maxRecDepth 65536 in
theorem w_c1 : (Jvm.Cond.code ({ cls := "java/util/ArrayList", name := "<init>", desc := "()V" } : Jvm.MethodName) jdk_38_method_2_code (1 : Nat) (Option.none : Option Jvm.ClassFile.FieldType)).before args0 about1 = true := code_word (m := ⟨11, 0⟩) (meth := k11m0) (c := k11c0) (by decide +kernel) rfl rfl rfl (by decide +kernel)
set_option maxRecDepth 65536 in
theorem w_c2 : (Jvm.Cond.code ({ cls := "java/util/AbstractList", name := "<init>", desc := "()V" } : Jvm.MethodName) jdk_39_method_1_code (1 : Nat) (Option.none : Option Jvm.ClassFile.FieldType)).before args0 about1 = true := code_word (m := ⟨7, 0⟩) (meth := k7m0) (c := k7c0) (by decide +kernel) rfl rfl rfl (by decide +kernel)
set_option maxRecDepth 65536 in
theorem w_c3 : (Jvm.Cond.code ({ cls := "java/util/AbstractCollection", name := "<init>", desc := "()V" } : Jvm.MethodName) jdk_22_method_1_code (1 : Nat) (Option.none : Option Jvm.ClassFile.FieldType)).before args0 about1 = true := code_word (m := ⟨4, 0⟩) (meth := k4m0) (c := k4c0) (by decide +kernel) rfl rfl rfl (by decide +kernel)
set_option maxRecDepth 65536 in
theorem w_c4 : (Jvm.Cond.code ({ cls := "java/lang/Object", name := "<init>", desc := "()V" } : Jvm.MethodName) object_method_1_code (1 : Nat) (Option.none : Option Jvm.ClassFile.FieldType)).before args0 about1 = true := code_word (m := ⟨0, 0⟩) (meth := k0m0) (c := k0c0) (by decide +kernel) rfl rfl rfl (by decide +kernel)
set_option maxRecDepth 65536 in
theorem w_c5 : (Jvm.Cond.code ({ cls := "com/example/oaken_shelf/oakenshelf/journal/Frames$Reading", name := "<init>", desc := "(IJJJJJLjava/util/List;J)V" } : Jvm.MethodName) prog_35_method_1_code (15 : Nat) (Option.none : Option Jvm.ClassFile.FieldType)).before args0 about1 = true := code_word (m := ⟨13, 0⟩) (meth := k13m0) (c := k13c0) (by decide +kernel) rfl rfl rfl (by decide +kernel)
set_option maxRecDepth 65536 in
theorem w_c6 : (Jvm.Cond.code ({ cls := "java/lang/Record", name := "<init>", desc := "()V" } : Jvm.MethodName) jdk_30_method_1_code (1 : Nat) (Option.none : Option Jvm.ClassFile.FieldType)).before args0 about1 = true := code_word (m := ⟨12, 0⟩) (meth := k12m0) (c := k12c0) (by decide +kernel) rfl rfl rfl (by decide +kernel)
set_option maxRecDepth 65536 in
theorem w_c7 : (Jvm.Cond.code ({ cls := "com/example/oaken_shelf/oakenshelf/journal/Frames$Reading", name := "whole", desc := "()Z" } : Jvm.MethodName) prog_35_method_2_code (1 : Nat) (Option.some Jvm.ClassFile.FieldType.boolean)).before args0 about1 = true := code_word (m := ⟨13, 1⟩) (meth := k13m1) (c := k13c1) (by decide +kernel) rfl rfl rfl (by decide +kernel)
def codes1 : List Jvm.Cond := [Jvm.Cond.code x code maxLocals ret, Jvm.Cond.code ({ cls := "java/util/ArrayList", name := "<init>", desc := "()V" } : Jvm.MethodName) jdk_38_method_2_code (1 : Nat) (Option.none : Option Jvm.ClassFile.FieldType), Jvm.Cond.code ({ cls := "java/util/AbstractList", name := "<init>", desc := "()V" } : Jvm.MethodName) jdk_39_method_1_code (1 : Nat) (Option.none : Option Jvm.ClassFile.FieldType), Jvm.Cond.code ({ cls := "java/util/AbstractCollection", name := "<init>", desc := "()V" } : Jvm.MethodName) jdk_22_method_1_code (1 : Nat) (Option.none : Option Jvm.ClassFile.FieldType), Jvm.Cond.code ({ cls := "java/lang/Object", name := "<init>", desc := "()V" } : Jvm.MethodName) object_method_1_code (1 : Nat) (Option.none : Option Jvm.ClassFile.FieldType), Jvm.Cond.code ({ cls := "com/example/oaken_shelf/oakenshelf/journal/Frames$Reading", name := "<init>", desc := "(IJJJJJLjava/util/List;J)V" } : Jvm.MethodName) prog_35_method_1_code (15 : Nat) (Option.none : Option Jvm.ClassFile.FieldType), Jvm.Cond.code ({ cls := "java/lang/Record", name := "<init>", desc := "()V" } : Jvm.MethodName) jdk_30_method_1_code (1 : Nat) (Option.none : Option Jvm.ClassFile.FieldType), Jvm.Cond.code ({ cls := "com/example/oaken_shelf/oakenshelf/journal/Frames$Reading", name := "whole", desc := "()Z" } : Jvm.MethodName) prog_35_method_2_code (1 : Nat) (Option.some Jvm.ClassFile.FieldType.boolean)]
set_option maxRecDepth 65536 in
theorem codes_eq : words1.filter isCode = codes1 := rfl
theorem w_codes : ∀ c ∈ words1.filter isCode, c.before args0 about1 = true := by
  rw [codes_eq]
  intro c hc
  simp only [codes1, List.mem_cons, List.not_mem_nil, or_false] at hc
  rcases hc with rfl | rfl | rfl | rfl | rfl | rfl | rfl | rfl
  · exact w_c0
  · exact w_c1
  · exact w_c2
  · exact w_c3
  · exact w_c4
  · exact w_c5
  · exact w_c6
  · exact w_c7
set_option maxRecDepth 65536 in
theorem w_t1 : (words1.take 24).all (fun c => isCode c || c.before args0 about1) = true := by decide +kernel
set_option maxRecDepth 65536 in
theorem w_t2 : ((words1.drop 24).take 24).all (fun c => isCode c || c.before args0 about1) = true := by decide +kernel
set_option maxRecDepth 65536 in
theorem w_t3 : ((words1.drop 24).drop 24).all (fun c => isCode c || c.before args0 about1) = true := by decide +kernel
theorem w_tables : (allAtoms (Jvm.Cond.code x code maxLocals ret :: tables_1)).before args0 about1 = true := by
  rw [allAtoms_all]
  show words1.all (fun c => c.before args0 about1) = true
  refine all_split ?_ w_codes
  rw [← List.take_append_drop 24 words1, List.all_append, w_t1, ← List.take_append_drop 24 (words1.drop 24), List.all_append, w_t2, w_t3]
  rfl
set_option maxRecDepth 65536 in
theorem w_rest : rest_1_c.before args0 about1 = true := by decide +kernel
set_option maxRecDepth 65536 in
theorem w_case : (Jvm.Cond.and given_1 narrow_1).before args0 about1 = true := by decide +kernel
theorem w_applies : (headSpec (Jvm.Cond.code x code maxLocals ret :: tables_1) room_1).applies x e0.platform about1 = true :=
  (Spec.applies_iff w_frames).mpr ⟨w_running, w_runnable, w_alone, w_named, w_hears, w_ripe, w_room, w_tables⟩
theorem atStart : AtStart classFile x code maxLocals ret World_1 tables_1 room_1 Calls_1 rest_1 Pre_1 launch0 p0 e0 about1 theMethod args0 below0 :=
  ⟨lists_1, trivial, launch0.admits_env _ _ _, launch0.least_env, fairChoices_fair.cas, fairChoices_fair.clock, w_frames, w_args, w_heap, w_applies, trivial, w_rest, w_case⟩
end start1
theorem witness_1 : WitnessClaimed_1 := ⟨start1.p0, start1.e0, start1.about1, start1.theMethod, start1.args0, start1.below0, start1.atStart⟩
end Jvm.Pilot.@@N@@
