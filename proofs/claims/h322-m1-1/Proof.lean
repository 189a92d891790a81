import JvmDerived
import JvmDerived.Pilot.@@N@@Statement
import JvmDerived.Pilot.@@N@@Code
set_option linter.unusedVariables false
set_option linter.unusedSimpArgs false
namespace Jvm.Pilot.@@N@@
open Jvm Jvm.ClassFile Sem Op Lib Jvm.Free Jvm.Stand Jvm.LawKit Jvm.RoadKit Bundle Jvm.Pilot.@@N@@.Jvm.D
/-- what is left to show at a frame of the walk: the run from there ends as the contract says -/
def own_G (p : Program) (e : Env) (below : List Frame) (s : State) (Q : Option Value → Heap → List Loc → Prop) (ce sl : Nat) (T : State) (g : JFrame) : Prop :=
  ∃ s₂ o, Steps p.tables e below (T.setTop g) s₂ ∧ s₂.status = .running ∧ Ended s₂ below o ∧ ∃ v L, o = .returned v ∧ Q v s₂.heap L ∧ FrameEnd s o s₂ L ce sl
theorem own_w {p : Program} {e : Env} {below : List Frame} {s : State} {Q : Option Value → Heap → List Loc → Prop} {ce sl : Nat} {T T' : State} {g g' : JFrame}
    (st : ∀ target, Steps p.tables e below (T'.setTop g') target → Steps p.tables e below (T.setTop g) target) (k : own_G p e below s Q ce sl T' g') : own_G p e below s Q ce sl T g := by
  obtain ⟨u, o, a, r⟩ := k
  exact ⟨u, o, st u a, r⟩
theorem own_t {p : Program} {e : Env} {below : List Frame} {s : State} {Q : Option Value → Heap → List Loc → Prop} {ce sl : Nat} {T T' : State} {g g' : JFrame}
    (st : Steps p.tables e below (T.setTop g) (T'.setTop g')) (k : own_G p e below s Q ce sl T' g') : own_G p e below s Q ce sl T g := own_w (fun _ k => st.trans k) k
theorem own_sta {Z : State} {h h' : Heap} {C n d : String} {v : Value} {a : Addr} (F : Sta Z h C n d v) (K : Keep h h' [a]) (na : ∀ cell : Cell, h[a]? = some cell → cell.vm.isStatics = false) : Sta Z h' C n d v := by
  obtain ⟨cf, i, k, f, st, cell, h1, h2, h3, h4, h5, h6, h7⟩ := F
  refine ⟨cf, i, k, f, st, cell, h1, h2, h3, h4, K.2.1 st cell h5 (fun q => ?_), h6, h7⟩
  have e : st = a := List.mem_singleton.mp q
  subst e
  rw [na _ h5] at h6; cases h6
theorem own_nb {P : Prop} [Decidable P] : narrow .boolean (.int (if P then (1 : Int32) else 0)) = .int (if P then (1 : Int32) else 0) := by split <;> rfl
theorem own_ite0 {P : Prop} [Decidable P] : ((if P then (1 : Int32) else 0) = 0) = ¬ P := by by_cases h : P <;> simp [h]
def own_mx (a b : Int32) : Int32 := if a < b then b else a
def own_mxL (a b : Int64) : Int64 := if a < b then b else a
def own_mnL (a b : Int64) : Int64 := if b < a then b else a
theorem own_d1_0 : decode jdk_29_method_65_code 0 = .ok (.iload_n 0, 1) := by decide +kernel
theorem own_d1_1 : decode jdk_29_method_65_code 1 = .ok (.iload_n 1, 1) := by decide +kernel
theorem own_d1_2 : decode jdk_29_method_65_code 2 = .ok (.if_icmp .lt 7, 3) := by decide +kernel
theorem own_d1_9 : decode jdk_29_method_65_code 9 = .ok (.iload_n 1, 1) := by decide +kernel
theorem own_d1_10 : decode jdk_29_method_65_code 10 = .ok (.ireturn, 1) := by decide +kernel
theorem own_d1_5 : decode jdk_29_method_65_code 5 = .ok (.iload_n 0, 1) := by decide +kernel
theorem own_d1_6 : decode jdk_29_method_65_code 6 = .ok (.goto 4, 3) := by decide +kernel
theorem own_rm1_ef (m : MethodId) (a : Int32) (b : Int32) : entryFrame m #[(.int a), (.int b)] 2 = mkF m 0 #[.val (.int a), .val (.int b)] [] := by first | (simp [entryFrame, mkF, argsToLocals, Value.category]; done) | rfl
def own_Q1 (Z : State) (a : Int32) (b : Int32) (h0 : Heap) (n0 : Nat) (v_ : Option Value) (h : Heap) (L_ : List Loc) : Prop := v_ = some (.int (own_mx a b)) ∧ Fr n0 L_ ∧ (h = h0)
set_option maxRecDepth 65536 in
set_option maxHeartbeats 40000000 in
theorem own_rm1 (l : Launch) (Z : State) (a0 : Array Value) (hw : ∀ d ∈ tables_1, d.before a0 Z = true) (ws : List Jvm.Cond) (a : Int32) (b : Int32) (h0 : Heap) (n0 : Nat) (Z0 : n0 ≤ h0.size)  :
    MetFree l (⟨"java/lang/Math", "max", "(II)I"⟩ : MethodName) (head1 (Jvm.Cond.code (⟨"java/lang/Math", "max", "(II)I"⟩ : MethodName) jdk_29_method_65_code 2 (some .int) :: ws) ({ frames := 0, cells := 0, slots := 0, locals := 0 } : Room)) (fun a_ U_ => a_ = #[(.int a), (.int b)] ∧ Z.Warmed39 U_.vm ∧ U_.heap = h0) (fun _ _ _ _ _ => True) (fun _ U_ o_ V_ => ∃ v_ L_, o_ = .returned v_ ∧ own_Q1 Z a b h0 n0 v_ V_.heap L_ ∧ FrameEnd U_ o_ V_ L_ ({ frames := 0, cells := 0, slots := 0, locals := 0 } : Room).cells ({ frames := 0, cells := 0, slots := 0, locals := 0 } : Room).slots) := by
  refine MetFree.of_bodySF (Jvm.Free.JP.mathPlain rfl (by decide +kernel)) hisR ?_
  intro p e s m args below meth c s₁ Bd hml0 hP hK
  obtain ⟨rfl, hZ, hh⟩ := hP
  have hx := Bd.exec
  have hby := Bd.bytes
  have hml : c.maxLocals = 2 := hml0
  have hown : s.vm.findClass "java/lang/Math" = some m.cls := findClass_of_methodNamed Bd.named
  have hnm := (name_of_methodNamed Bd.named Bd.method).1
  have X0 : Stand p l e ({ frames := 0, cells := 0, slots := 0, locals := 0 } : Room) s m #[(.int a), (.int b)] below meth c s₁ [] 0 0 := Stand.of_body Bd
  have e0 : s₁.heap = h0 := by rw [← hh, Bd.state]; rfl
  have N0 := Fr.nil n0
  show own_G p e below s (own_Q1 Z a b h0 n0) ({ frames := 0, cells := 0, slots := 0, locals := 0 } : Room).cells ({ frames := 0, cells := 0, slots := 0, locals := 0 } : Room).slots s₁ (entryFrame m #[(.int a), (.int b)] 2)
  rw [own_rm1_ef]
  refine own_w (T' := s₁) (g' := (mkF m 1 #[.val (.int a), .val (.int b)] [(.int a)])) (fun _ k_ => XS.iloadN X0.here hx rfl (hb hby own_d1_0) rfl k_) ?_
  refine own_w (T' := s₁) (g' := (mkF m 2 #[.val (.int a), .val (.int b)] [(.int b), (.int a)])) (fun _ k_ => XS.iloadN X0.here hx rfl (hb hby own_d1_1) rfl k_) ?_
  by_cases hc2 : a < b
  · refine own_w (T' := s₁) (g' := (mkF m 9 #[.val (.int a), .val (.int b)] [])) (fun _ k_ => XS.icmpYes X0.here hx rfl (pc0 := 2) (pc' := 9) rfl (hb hby own_d1_2) rfl (tlt hc2).1 (by decide) (by decide) k_) ?_
    refine own_w (T' := s₁) (g' := (mkF m 10 #[.val (.int a), .val (.int b)] [(.int b)])) (fun _ k_ => XS.iloadN X0.here hx rfl (hb hby own_d1_9) rfl k_) ?_
    obtain ⟨fs, hr, hrun, hended, hW, hsame⟩ := X0.leave (v := some (.int b)) (fun h => by rw [Bd.returns] at h; cases h)
    exact ⟨_, _, retOut X0 hx Bd.returns rfl (Or.inl ⟨rfl, Or.inl rfl, _, rfl⟩) (hb hby own_d1_10) hr, hrun, hended, _, _, rfl, (by show own_Q1 Z a b h0 n0 _ s₁.heap _; rw [e0]; exact ⟨(by simp [own_mx, hc2]), N0, rfl⟩), ⟨_, rfl⟩, hW, hsame.mono (by decide) (by decide)⟩
  · refine own_w (T' := s₁) (g' := (mkF m 5 #[.val (.int a), .val (.int b)] [])) (fun _ k_ => XS.icmpNo X0.here hx rfl (hb hby own_d1_2) rfl (flt hc2).1 k_) ?_
    refine own_w (T' := s₁) (g' := (mkF m 6 #[.val (.int a), .val (.int b)] [(.int a)])) (fun _ k_ => XS.iloadN X0.here hx rfl (hb hby own_d1_5) rfl k_) ?_
    refine own_w (T' := s₁) (g' := (mkF m 10 #[.val (.int a), .val (.int b)] [(.int a)])) (fun _ k_ => XS.goto X0.here hx rfl (pc0 := 6) (pc' := 10) rfl (hb hby own_d1_6) (by decide) (by decide) k_) ?_
    obtain ⟨fs, hr, hrun, hended, hW, hsame⟩ := X0.leave (v := some (.int a)) (fun h => by rw [Bd.returns] at h; cases h)
    exact ⟨_, _, retOut X0 hx Bd.returns rfl (Or.inl ⟨rfl, Or.inl rfl, _, rfl⟩) (hb hby own_d1_10) hr, hrun, hended, _, _, rfl, (by show own_Q1 Z a b h0 n0 _ s₁.heap _; rw [e0]; exact ⟨(by simp [own_mx, hc2]), N0, rfl⟩), ⟨_, rfl⟩, hW, hsame.mono (by decide) (by decide)⟩
theorem own_d6_0 : decode jdk_29_method_70_code 0 = .ok (.lload_n 0, 1) := by decide +kernel
theorem own_d6_1 : decode jdk_29_method_70_code 1 = .ok (.lload_n 2, 1) := by decide +kernel
theorem own_d6_2 : decode jdk_29_method_70_code 2 = .ok (.lcmp, 1) := by decide +kernel
theorem own_d6_3 : decode jdk_29_method_70_code 3 = .ok (.ifCond .gt 7, 3) := by decide +kernel
theorem own_d6_10 : decode jdk_29_method_70_code 10 = .ok (.lload_n 2, 1) := by decide +kernel
theorem own_d6_11 : decode jdk_29_method_70_code 11 = .ok (.lreturn, 1) := by decide +kernel
theorem own_d6_6 : decode jdk_29_method_70_code 6 = .ok (.lload_n 0, 1) := by decide +kernel
theorem own_d6_7 : decode jdk_29_method_70_code 7 = .ok (.goto 4, 3) := by decide +kernel
theorem own_rm6_ef (m : MethodId) (a : Int64) (b : Int64) : entryFrame m #[(.long a), (.long b)] 4 = mkF m 0 #[.val (.long a), .second, .val (.long b), .second] [] := by first | (simp [entryFrame, mkF, argsToLocals, Value.category]; done) | rfl
def own_Q6 (Z : State) (a : Int64) (b : Int64) (h0 : Heap) (n0 : Nat) (v_ : Option Value) (h : Heap) (L_ : List Loc) : Prop := v_ = some (.long (own_mnL a b)) ∧ Fr n0 L_ ∧ (h = h0)
set_option maxRecDepth 65536 in
set_option maxHeartbeats 40000000 in
theorem own_rm6 (l : Launch) (Z : State) (a0 : Array Value) (hw : ∀ d ∈ tables_1, d.before a0 Z = true) (ws : List Jvm.Cond) (a : Int64) (b : Int64) (h0 : Heap) (n0 : Nat) (Z0 : n0 ≤ h0.size)  :
    MetFree l (⟨"java/lang/Math", "min", "(JJ)J"⟩ : MethodName) (head1 (Jvm.Cond.code (⟨"java/lang/Math", "min", "(JJ)J"⟩ : MethodName) jdk_29_method_70_code 4 (some .long) :: ws) ({ frames := 0, cells := 0, slots := 0, locals := 0 } : Room)) (fun a_ U_ => a_ = #[(.long a), (.long b)] ∧ Z.Warmed39 U_.vm ∧ U_.heap = h0) (fun _ _ _ _ _ => True) (fun _ U_ o_ V_ => ∃ v_ L_, o_ = .returned v_ ∧ own_Q6 Z a b h0 n0 v_ V_.heap L_ ∧ FrameEnd U_ o_ V_ L_ ({ frames := 0, cells := 0, slots := 0, locals := 0 } : Room).cells ({ frames := 0, cells := 0, slots := 0, locals := 0 } : Room).slots) := by
  refine MetFree.of_bodySF (Jvm.Free.JP.mathPlain rfl (by decide +kernel)) hisR ?_
  intro p e s m args below meth c s₁ Bd hml0 hP hK
  obtain ⟨rfl, hZ, hh⟩ := hP
  have hx := Bd.exec
  have hby := Bd.bytes
  have hml : c.maxLocals = 4 := hml0
  have hown : s.vm.findClass "java/lang/Math" = some m.cls := findClass_of_methodNamed Bd.named
  have hnm := (name_of_methodNamed Bd.named Bd.method).1
  have X0 : Stand p l e ({ frames := 0, cells := 0, slots := 0, locals := 0 } : Room) s m #[(.long a), (.long b)] below meth c s₁ [] 0 0 := Stand.of_body Bd
  have e0 : s₁.heap = h0 := by rw [← hh, Bd.state]; rfl
  have N0 := Fr.nil n0
  show own_G p e below s (own_Q6 Z a b h0 n0) ({ frames := 0, cells := 0, slots := 0, locals := 0 } : Room).cells ({ frames := 0, cells := 0, slots := 0, locals := 0 } : Room).slots s₁ (entryFrame m #[(.long a), (.long b)] 4)
  rw [own_rm6_ef]
  refine own_w (T' := s₁) (g' := (mkF m 1 #[.val (.long a), .second, .val (.long b), .second] [(.long a)])) (fun _ k_ => XS.lloadN X0.here hx rfl (hb hby own_d6_0) rfl k_) ?_
  refine own_w (T' := s₁) (g' := (mkF m 2 #[.val (.long a), .second, .val (.long b), .second] [(.long b), (.long a)])) (fun _ k_ => XS.lloadN X0.here hx rfl (hb hby own_d6_1) rfl k_) ?_
  refine own_w (T' := s₁) (g' := (mkF m 3 #[.val (.long a), .second, .val (.long b), .second] [(.int (lcmpW a b))])) (fun _ k_ => XS.lcmp X0.here hx rfl (hb hby own_d6_2) rfl k_) ?_
  by_cases hc3 : b < a
  · refine own_w (T' := s₁) (g' := (mkF m 10 #[.val (.long a), .second, .val (.long b), .second] [])) (fun _ k_ => XS.ifYes X0.here hx rfl (pc0 := 3) (pc' := 10) rfl (hb hby own_d6_3) rfl ((if0 _ _).trans (tlt ((lw_gt _ _).mpr hc3)).2.2.1) (by decide) (by decide) k_) ?_
    refine own_w (T' := s₁) (g' := (mkF m 11 #[.val (.long a), .second, .val (.long b), .second] [(.long b)])) (fun _ k_ => XS.lloadN X0.here hx rfl (hb hby own_d6_10) rfl k_) ?_
    obtain ⟨fs, hr, hrun, hended, hW, hsame⟩ := X0.leave (v := some (.long b)) (fun h => by rw [Bd.returns] at h; cases h)
    exact ⟨_, _, retOut X0 hx Bd.returns rfl (Or.inr (Or.inl ⟨rfl, rfl, _, rfl⟩)) (hb hby own_d6_11) hr, hrun, hended, _, _, rfl, (by show own_Q6 Z a b h0 n0 _ s₁.heap _; rw [e0]; exact ⟨(by simp [own_mnL, hc3]), N0, rfl⟩), ⟨_, rfl⟩, hW, hsame.mono (by decide) (by decide)⟩
  · refine own_w (T' := s₁) (g' := (mkF m 6 #[.val (.long a), .second, .val (.long b), .second] [])) (fun _ k_ => XS.ifNo X0.here hx rfl (hb hby own_d6_3) rfl ((if0 _ _).trans (flt (mt (lw_gt _ _).mp hc3)).2.2.1) k_) ?_
    refine own_w (T' := s₁) (g' := (mkF m 7 #[.val (.long a), .second, .val (.long b), .second] [(.long a)])) (fun _ k_ => XS.lloadN X0.here hx rfl (hb hby own_d6_6) rfl k_) ?_
    refine own_w (T' := s₁) (g' := (mkF m 11 #[.val (.long a), .second, .val (.long b), .second] [(.long a)])) (fun _ k_ => XS.goto X0.here hx rfl (pc0 := 7) (pc' := 11) rfl (hb hby own_d6_7) (by decide) (by decide) k_) ?_
    obtain ⟨fs, hr, hrun, hended, hW, hsame⟩ := X0.leave (v := some (.long a)) (fun h => by rw [Bd.returns] at h; cases h)
    exact ⟨_, _, retOut X0 hx Bd.returns rfl (Or.inr (Or.inl ⟨rfl, rfl, _, rfl⟩)) (hb hby own_d6_11) hr, hrun, hended, _, _, rfl, (by show own_Q6 Z a b h0 n0 _ s₁.heap _; rw [e0]; exact ⟨(by simp [own_mnL, hc3]), N0, rfl⟩), ⟨_, rfl⟩, hW, hsame.mono (by decide) (by decide)⟩
theorem own_d7_0 : decode jdk_29_method_66_code 0 = .ok (.lload_n 0, 1) := by decide +kernel
theorem own_d7_1 : decode jdk_29_method_66_code 1 = .ok (.lload_n 2, 1) := by decide +kernel
theorem own_d7_2 : decode jdk_29_method_66_code 2 = .ok (.lcmp, 1) := by decide +kernel
theorem own_d7_3 : decode jdk_29_method_66_code 3 = .ok (.ifCond .lt 7, 3) := by decide +kernel
theorem own_d7_10 : decode jdk_29_method_66_code 10 = .ok (.lload_n 2, 1) := by decide +kernel
theorem own_d7_11 : decode jdk_29_method_66_code 11 = .ok (.lreturn, 1) := by decide +kernel
theorem own_d7_6 : decode jdk_29_method_66_code 6 = .ok (.lload_n 0, 1) := by decide +kernel
theorem own_d7_7 : decode jdk_29_method_66_code 7 = .ok (.goto 4, 3) := by decide +kernel
theorem own_rm7_ef (m : MethodId) (a : Int64) (b : Int64) : entryFrame m #[(.long a), (.long b)] 4 = mkF m 0 #[.val (.long a), .second, .val (.long b), .second] [] := by first | (simp [entryFrame, mkF, argsToLocals, Value.category]; done) | rfl
def own_Q7 (Z : State) (a : Int64) (b : Int64) (h0 : Heap) (n0 : Nat) (v_ : Option Value) (h : Heap) (L_ : List Loc) : Prop := v_ = some (.long (own_mxL a b)) ∧ Fr n0 L_ ∧ (h = h0)
set_option maxRecDepth 65536 in
set_option maxHeartbeats 40000000 in
theorem own_rm7 (l : Launch) (Z : State) (a0 : Array Value) (hw : ∀ d ∈ tables_1, d.before a0 Z = true) (ws : List Jvm.Cond) (a : Int64) (b : Int64) (h0 : Heap) (n0 : Nat) (Z0 : n0 ≤ h0.size)  :
    MetFree l (⟨"java/lang/Math", "max", "(JJ)J"⟩ : MethodName) (head1 (Jvm.Cond.code (⟨"java/lang/Math", "max", "(JJ)J"⟩ : MethodName) jdk_29_method_66_code 4 (some .long) :: ws) ({ frames := 0, cells := 0, slots := 0, locals := 0 } : Room)) (fun a_ U_ => a_ = #[(.long a), (.long b)] ∧ Z.Warmed39 U_.vm ∧ U_.heap = h0) (fun _ _ _ _ _ => True) (fun _ U_ o_ V_ => ∃ v_ L_, o_ = .returned v_ ∧ own_Q7 Z a b h0 n0 v_ V_.heap L_ ∧ FrameEnd U_ o_ V_ L_ ({ frames := 0, cells := 0, slots := 0, locals := 0 } : Room).cells ({ frames := 0, cells := 0, slots := 0, locals := 0 } : Room).slots) := by
  refine MetFree.of_bodySF (Jvm.Free.JP.mathPlain rfl (by decide +kernel)) hisR ?_
  intro p e s m args below meth c s₁ Bd hml0 hP hK
  obtain ⟨rfl, hZ, hh⟩ := hP
  have hx := Bd.exec
  have hby := Bd.bytes
  have hml : c.maxLocals = 4 := hml0
  have hown : s.vm.findClass "java/lang/Math" = some m.cls := findClass_of_methodNamed Bd.named
  have hnm := (name_of_methodNamed Bd.named Bd.method).1
  have X0 : Stand p l e ({ frames := 0, cells := 0, slots := 0, locals := 0 } : Room) s m #[(.long a), (.long b)] below meth c s₁ [] 0 0 := Stand.of_body Bd
  have e0 : s₁.heap = h0 := by rw [← hh, Bd.state]; rfl
  have N0 := Fr.nil n0
  show own_G p e below s (own_Q7 Z a b h0 n0) ({ frames := 0, cells := 0, slots := 0, locals := 0 } : Room).cells ({ frames := 0, cells := 0, slots := 0, locals := 0 } : Room).slots s₁ (entryFrame m #[(.long a), (.long b)] 4)
  rw [own_rm7_ef]
  refine own_w (T' := s₁) (g' := (mkF m 1 #[.val (.long a), .second, .val (.long b), .second] [(.long a)])) (fun _ k_ => XS.lloadN X0.here hx rfl (hb hby own_d7_0) rfl k_) ?_
  refine own_w (T' := s₁) (g' := (mkF m 2 #[.val (.long a), .second, .val (.long b), .second] [(.long b), (.long a)])) (fun _ k_ => XS.lloadN X0.here hx rfl (hb hby own_d7_1) rfl k_) ?_
  refine own_w (T' := s₁) (g' := (mkF m 3 #[.val (.long a), .second, .val (.long b), .second] [(.int (lcmpW a b))])) (fun _ k_ => XS.lcmp X0.here hx rfl (hb hby own_d7_2) rfl k_) ?_
  by_cases hc3 : a < b
  · refine own_w (T' := s₁) (g' := (mkF m 10 #[.val (.long a), .second, .val (.long b), .second] [])) (fun _ k_ => XS.ifYes X0.here hx rfl (pc0 := 3) (pc' := 10) rfl (hb hby own_d7_3) rfl ((if0 _ _).trans (tlt ((lw_lt _ _).mpr hc3)).1) (by decide) (by decide) k_) ?_
    refine own_w (T' := s₁) (g' := (mkF m 11 #[.val (.long a), .second, .val (.long b), .second] [(.long b)])) (fun _ k_ => XS.lloadN X0.here hx rfl (hb hby own_d7_10) rfl k_) ?_
    obtain ⟨fs, hr, hrun, hended, hW, hsame⟩ := X0.leave (v := some (.long b)) (fun h => by rw [Bd.returns] at h; cases h)
    exact ⟨_, _, retOut X0 hx Bd.returns rfl (Or.inr (Or.inl ⟨rfl, rfl, _, rfl⟩)) (hb hby own_d7_11) hr, hrun, hended, _, _, rfl, (by show own_Q7 Z a b h0 n0 _ s₁.heap _; rw [e0]; exact ⟨(by simp [own_mxL, hc3]), N0, rfl⟩), ⟨_, rfl⟩, hW, hsame.mono (by decide) (by decide)⟩
  · refine own_w (T' := s₁) (g' := (mkF m 6 #[.val (.long a), .second, .val (.long b), .second] [])) (fun _ k_ => XS.ifNo X0.here hx rfl (hb hby own_d7_3) rfl ((if0 _ _).trans (flt (mt (lw_lt _ _).mp hc3)).1) k_) ?_
    refine own_w (T' := s₁) (g' := (mkF m 7 #[.val (.long a), .second, .val (.long b), .second] [(.long a)])) (fun _ k_ => XS.lloadN X0.here hx rfl (hb hby own_d7_6) rfl k_) ?_
    refine own_w (T' := s₁) (g' := (mkF m 11 #[.val (.long a), .second, .val (.long b), .second] [(.long a)])) (fun _ k_ => XS.goto X0.here hx rfl (pc0 := 7) (pc' := 11) rfl (hb hby own_d7_7) (by decide) (by decide) k_) ?_
    obtain ⟨fs, hr, hrun, hended, hW, hsame⟩ := X0.leave (v := some (.long a)) (fun h => by rw [Bd.returns] at h; cases h)
    exact ⟨_, _, retOut X0 hx Bd.returns rfl (Or.inr (Or.inl ⟨rfl, rfl, _, rfl⟩)) (hb hby own_d7_11) hr, hrun, hended, _, _, rfl, (by show own_Q7 Z a b h0 n0 _ s₁.heap _; rw [e0]; exact ⟨(by simp [own_mxL, hc3]), N0, rfl⟩), ⟨_, rfl⟩, hW, hsame.mono (by decide) (by decide)⟩
theorem own_d3_0 : decode jdk_30_method_1_code 0 = .ok (.aload_n 0, 1) := by decide +kernel
theorem own_d3_1 : decode jdk_30_method_1_code 1 = .ok (.invokespecial 1, 3) := by decide +kernel
theorem own_d3_4 : decode jdk_30_method_1_code 4 = .ok (.return_, 1) := by decide +kernel
theorem own_pn_java_lang_Record : plainName "java/lang/Record" = true := by first | (simp [plainName, overriddenIn]; done) | decide +kernel
theorem own_rm3_ef (m : MethodId) (a : Addr) : entryFrame m #[(.ref a)] 1 = mkF m 0 #[.val (.ref a)] [] := by first | (simp [entryFrame, mkF, argsToLocals, Value.category]; done) | rfl
def own_Q3 (Z : State) (a : Addr) (h0 : Heap) (n0 : Nat) (v_ : Option Value) (h : Heap) (L_ : List Loc) : Prop := v_ = none ∧ Fr n0 L_ ∧ (h = h0)
set_option maxRecDepth 65536 in
set_option maxHeartbeats 40000000 in
theorem own_rm3 (l : Launch) (Z : State) (a0 : Array Value) (hw : ∀ d ∈ tables_1, d.before a0 Z = true) (ws : List Jvm.Cond) (a : Addr) (h0 : Heap) (n0 : Nat) (Z0 : n0 ≤ h0.size)  :
    MetFree l (⟨"java/lang/Record", "<init>", "()V"⟩ : MethodName) (head1 (Jvm.Cond.code (⟨"java/lang/Record", "<init>", "()V"⟩ : MethodName) jdk_30_method_1_code 1 none :: ws) ({ frames := 1, cells := 0, slots := 0, locals := 12 } : Room)) (fun a_ U_ => a_ = #[(.ref a)] ∧ Z.Warmed39 U_.vm ∧ U_.heap = h0) (fun _ _ _ _ _ => True) (fun _ U_ o_ V_ => ∃ v_ L_, o_ = .returned v_ ∧ own_Q3 Z a h0 n0 v_ V_.heap L_ ∧ FrameEnd U_ o_ V_ L_ ({ frames := 1, cells := 0, slots := 0, locals := 12 } : Room).cells ({ frames := 1, cells := 0, slots := 0, locals := 12 } : Room).slots) := by
  refine MetFree.of_bodySF (plainFor_of_name own_pn_java_lang_Record) hisR ?_
  intro p e s m args below meth c s₁ Bd hml0 hP hK
  obtain ⟨rfl, hZ, hh⟩ := hP
  have hx := Bd.exec
  have hby := Bd.bytes
  have hml : c.maxLocals = 1 := hml0
  have hown : s.vm.findClass "java/lang/Record" = some m.cls := findClass_of_methodNamed Bd.named
  have hnm := (name_of_methodNamed Bd.named Bd.method).1
  have X0 : Stand p l e ({ frames := 1, cells := 0, slots := 0, locals := 12 } : Room) s m #[(.ref a)] below meth c s₁ [] 0 0 := Stand.of_body Bd
  have e0 : s₁.heap = h0 := by rw [← hh, Bd.state]; rfl
  have N0 := Fr.nil n0
  show own_G p e below s (own_Q3 Z a h0 n0) ({ frames := 1, cells := 0, slots := 0, locals := 12 } : Room).cells ({ frames := 1, cells := 0, slots := 0, locals := 12 } : Room).slots s₁ (entryFrame m #[(.ref a)] 1)
  rw [own_rm3_ef]
  refine own_w (T' := s₁) (g' := (mkF m 1 #[.val (.ref a)] [(.ref a)])) (fun _ k_ => XS.aloadN X0.here hx rfl (hb hby own_d3_0) rfl rfl k_) ?_
  obtain ⟨T1, X1, e1, st1⟩ := initO X0 hx hZ hown (hw _ (List.mem_of_getElem? (i := 16) rfl)) (hw _ (List.mem_of_getElem? (i := 17) rfl)) (hw _ (List.mem_of_getElem? (i := 18) rfl)) e0 (g := (mkF m 1 #[.val (.ref a)] [(.ref a)])) rfl (by rw [hml]; rfl) rfl (hb hby own_d3_1) (by decide) (W := 0) (by show 2 * 0 + _ ≤ _; exact Nat.le_of_eq rfl) (by decide)
  refine own_w (T' := T1) (g' := (mkF m 4 #[.val (.ref a)] [])) st1 ?_
  obtain ⟨fs, hr, hrun, hended, hW, hsame⟩ := X1.leave (v := none) (fun _ => rfl)
  exact ⟨_, _, X1.returnOut hx Bd.returns (hb hby own_d3_4) hr, hrun, hended, _, _, rfl, (by show own_Q3 Z a h0 n0 _ T1.heap _; rw [e1]; exact ⟨rfl, N0, rfl⟩), ⟨_, rfl⟩, hW, hsame.mono (by decide) (by decide)⟩
theorem own_d2_0 : decode prog_10_method_1_code 0 = .ok (.aload_n 0, 1) := by decide +kernel
theorem own_d2_1 : decode prog_10_method_1_code 1 = .ok (.invokespecial 1, 3) := by decide +kernel
theorem own_pd0 : parseMethodDescriptor "()V" = some ⟨[], none⟩ := by decide +kernel
theorem own_d2_4 : decode prog_10_method_1_code 4 = .ok (.iload_n 1, 1) := by decide +kernel
theorem own_d2_5 : decode prog_10_method_1_code 5 = .ok (.iconst 1, 1) := by decide +kernel
theorem own_d2_6 : decode prog_10_method_1_code 6 = .ok (.if_icmp .ge 17, 3) := by decide +kernel
theorem own_d2_23 : decode prog_10_method_1_code 23 = .ok (.aload_n 0, 1) := by decide +kernel
theorem own_d2_24 : decode prog_10_method_1_code 24 = .ok (.iload_n 1, 1) := by decide +kernel
theorem own_d2_25 : decode prog_10_method_1_code 25 = .ok (.putfield 16, 3) := by decide +kernel
theorem own_d2_28 : decode prog_10_method_1_code 28 = .ok (.return_, 1) := by decide +kernel
theorem own_pn_com_example_fuda_fuda_domain_LockoutPolicy : plainName "com/example/fuda/fuda/domain/LockoutPolicy" = true := by first | (simp [plainName, overriddenIn]; done) | decide +kernel
theorem own_rm2_ef (m : MethodId) (a : Addr) (t : Int32) : entryFrame m #[(.ref a), (.int t)] 2 = mkF m 0 #[.val (.ref a), .val (.int t)] [] := by first | (simp [entryFrame, mkF, argsToLocals, Value.category]; done) | rfl
def own_Q2 (Z : State) (a : Addr) (t : Int32) (u : Value) (h0 : Heap) (n0 : Nat) (v_ : Option Value) (h : Heap) (L_ : List Loc) : Prop := v_ = none ∧ Fr n0 L_ ∧ (Keep h0 h [a]) ∧ (Fld Z h a "com/example/fuda/fuda/domain/LockoutPolicy" "failureThreshold" "I" (.int t))
set_option maxRecDepth 65536 in
set_option maxHeartbeats 40000000 in
theorem own_rm2 (l : Launch) (Z : State) (a0 : Array Value) (hw : ∀ d ∈ tables_1, d.before a0 Z = true) (ws : List Jvm.Cond) (a : Addr) (t : Int32) (u : Value) (h0 : Heap) (n0 : Nat) (Z0 : n0 ≤ h0.size) (F : Fld Z h0 a "com/example/fuda/fuda/domain/LockoutPolicy" "failureThreshold" "I" u) (E : Exa Z h0 a "com/example/fuda/fuda/domain/LockoutPolicy") (g_a : n0 ≤ a) (ht : ¬ t < (1 : Int32)) :
    MetFree l (⟨"com/example/fuda/fuda/domain/LockoutPolicy", "<init>", "(I)V"⟩ : MethodName) (head1 (Jvm.Cond.code (⟨"com/example/fuda/fuda/domain/LockoutPolicy", "<init>", "(I)V"⟩ : MethodName) prog_10_method_1_code 2 none :: ws) ({ frames := 2, cells := 0, slots := 0, locals := 24 } : Room)) (fun a_ U_ => a_ = #[(.ref a), (.int t)] ∧ Z.Warmed39 U_.vm ∧ U_.heap = h0) (fun _ _ _ _ _ => True) (fun _ U_ o_ V_ => ∃ v_ L_, o_ = .returned v_ ∧ own_Q2 Z a t u h0 n0 v_ V_.heap L_ ∧ FrameEnd U_ o_ V_ L_ ({ frames := 2, cells := 0, slots := 0, locals := 24 } : Room).cells ({ frames := 2, cells := 0, slots := 0, locals := 24 } : Room).slots) := by
  refine MetFree.of_bodySF (plainFor_of_name own_pn_com_example_fuda_fuda_domain_LockoutPolicy) hisR ?_
  intro p e s m args below meth c s₁ Bd hml0 hP hK
  obtain ⟨rfl, hZ, hh⟩ := hP
  have hx := Bd.exec
  have hby := Bd.bytes
  have hml : c.maxLocals = 2 := hml0
  have hown : s.vm.findClass "com/example/fuda/fuda/domain/LockoutPolicy" = some m.cls := findClass_of_methodNamed Bd.named
  have hnm := (name_of_methodNamed Bd.named Bd.method).1
  have X0 : Stand p l e ({ frames := 2, cells := 0, slots := 0, locals := 24 } : Room) s m #[(.ref a), (.int t)] below meth c s₁ [] 0 0 := Stand.of_body Bd
  have e0 : s₁.heap = h0 := by rw [← hh, Bd.state]; rfl
  have N0 := Fr.nil n0
  show own_G p e below s (own_Q2 Z a t u h0 n0) ({ frames := 2, cells := 0, slots := 0, locals := 24 } : Room).cells ({ frames := 2, cells := 0, slots := 0, locals := 24 } : Room).slots s₁ (entryFrame m #[(.ref a), (.int t)] 2)
  rw [own_rm2_ef]
  refine own_w (T' := s₁) (g' := (mkF m 1 #[.val (.ref a), .val (.int t)] [(.ref a)])) (fun _ k_ => XS.aloadN X0.here hx rfl (hb hby own_d2_0) rfl rfl k_) ?_
  obtain ⟨_, _, ⟨T1, L1, k1, n1⟩, -, X1, ⟨Lc1, hQ1, l1, y1, z1⟩, st1⟩ := X0.specialBack hx (y := (⟨"java/lang/Record", "<init>", "()V"⟩ : MethodName)) rfl hown (mvT hZ (hw _ (List.mem_of_getElem? (i := 11) rfl))) (mvT hZ (hw _ (List.mem_of_getElem? (i := 12) rfl))) (mvT hZ (hw _ (List.mem_of_getElem? (i := 15) rfl))) (by decide) (backOf (W := 0) (own_rm3 l Z a0 hw [] a  h0 n0 Z0 ) hZ (hw _ (List.mem_of_getElem? (i := 15) rfl)) (hw _ (List.mem_of_getElem? (i := 14) rfl)) (by decide) (by decide)) (g := (mkF m 1 #[.val (.ref a), .val (.int t)] [(.ref a)])) rfl (by rw [hml]; rfl) (Steps.refl _) (a := a) (argsL := []) (rest := []) (lenOf own_pd0 rfl) rfl (by show 2 * 0 + _ ≤ _; exact Nat.le_of_eq rfl) (hb hby own_d2_1) (fun _ _ => ⟨rfl, e0, (by decide : 0 + 0 ≤ _), (by decide : 0 + 0 ≤ _)⟩)
  dsimp only [Pt.U, Pt.locs, Pt.cells, Pt.slots] at X1 l1 y1 z1 st1 hQ1
  subst l1 y1 z1
  obtain ⟨rfl, N1q, e1⟩ := hQ1
  have N1 := Fr.app N0 N1q
  refine own_t (T' := T1) (g' := (mkF m 4 #[.val (.ref a), .val (.int t)] [])) st1 ?_
  refine own_w (T' := T1) (g' := (mkF m 5 #[.val (.ref a), .val (.int t)] [(.int t)])) (fun _ k_ => XS.iloadN X1.here hx rfl (hb hby own_d2_4) rfl k_) ?_
  refine own_w (T' := T1) (g' := (mkF m 6 #[.val (.ref a), .val (.int t)] [(.int (1 : Int32)), (.int t)])) (fun _ k_ => XS.iconst X1.here hx rfl (hb hby own_d2_5) k_) ?_
  refine own_w (T' := T1) (g' := (mkF m 23 #[.val (.ref a), .val (.int t)] [])) (fun _ k_ => XS.icmpYes X1.here hx rfl (pc0 := 6) (pc' := 23) rfl (hb hby own_d2_6) rfl (flt ht).2.1 (by decide) (by decide) k_) ?_
  refine own_w (T' := T1) (g' := (mkF m 24 #[.val (.ref a), .val (.int t)] [(.ref a)])) (fun _ k_ => XS.aloadN X1.here hx rfl (hb hby own_d2_23) rfl rfl k_) ?_
  refine own_w (T' := T1) (g' := (mkF m 25 #[.val (.ref a), .val (.int t)] [(.int t), (.ref a)])) (fun _ k_ => XS.iloadN X1.here hx rfl (hb hby own_d2_24) rfl k_) ?_
  obtain ⟨T2, h2, X2, e2, W2, st2⟩ := putF X1 hx hZ hown (host := "") (Or.inl (hw _ (List.mem_of_getElem? (i := 19) rfl))) Via.refl e1 F E (Or.inr ⟨(hw _ (List.mem_of_getElem? (i := 20) rfl)), rfl, hnm⟩) (hw _ (List.mem_of_getElem? (i := 6) rfl)) (ty := .int) (by decide) rfl rfl (g := (mkF m 25 #[.val (.ref a), .val (.int t)] [(.int t), (.ref a)])) rfl rfl (hb hby own_d2_25)
  have N2 := Fr.snoc X2 N1 g_a
  refine own_w (T' := T2) (g' := (mkF m 28 #[.val (.ref a), .val (.int t)] [])) st2 ?_
  obtain ⟨fs, hr, hrun, hended, hW, hsame⟩ := X2.leave (v := none) (fun _ => rfl)
  exact ⟨_, _, X2.returnOut hx Bd.returns (hb hby own_d2_28) hr, hrun, hended, _, _, rfl, (by show own_Q2 Z a t u h0 n0 _ T2.heap _; rw [e2]; exact ⟨rfl, N2, Keep.of_wr W2, F.same W2⟩), ⟨_, rfl⟩, hW, hsame.mono (by decide) (by decide)⟩
theorem own_d5_0 : decode prog_10_method_2_code 0 = .ok (.lload_n 1, 1) := by decide +kernel
theorem own_d5_1 : decode prog_10_method_2_code 1 = .ok (.aload_n 0, 1) := by decide +kernel
theorem own_d5_2 : decode prog_10_method_2_code 2 = .ok (.getfield 16, 3) := by decide +kernel
theorem own_d5_5 : decode prog_10_method_2_code 5 = .ok (.i2l, 1) := by decide +kernel
theorem own_d5_6 : decode prog_10_method_2_code 6 = .ok (.lcmp, 1) := by decide +kernel
theorem own_d5_7 : decode prog_10_method_2_code 7 = .ok (.ifCond .lt 7, 3) := by decide +kernel
theorem own_d5_14 : decode prog_10_method_2_code 14 = .ok (.iconst 0, 1) := by decide +kernel
theorem own_d5_15 : decode prog_10_method_2_code 15 = .ok (.ireturn, 1) := by decide +kernel
theorem own_d5_10 : decode prog_10_method_2_code 10 = .ok (.iconst 1, 1) := by decide +kernel
theorem own_d5_11 : decode prog_10_method_2_code 11 = .ok (.goto 4, 3) := by decide +kernel
theorem own_rm5_ef (m : MethodId) (a : Addr) (q : Int64) : entryFrame m #[(.ref a), (.long q)] 3 = mkF m 0 #[.val (.ref a), .val (.long q), .second] [] := by first | (simp [entryFrame, mkF, argsToLocals, Value.category]; done) | rfl
def own_Q5 (Z : State) (a : Addr) (q : Int64) (t : Int32) (h0 : Heap) (n0 : Nat) (v_ : Option Value) (h : Heap) (L_ : List Loc) : Prop := v_ = some (.int (if ¬ q < t.toInt64 then (1 : Int32) else 0)) ∧ Fr n0 L_ ∧ (h = h0)
set_option maxRecDepth 65536 in
set_option maxHeartbeats 40000000 in
theorem own_rm5 (l : Launch) (Z : State) (a0 : Array Value) (hw : ∀ d ∈ tables_1, d.before a0 Z = true) (ws : List Jvm.Cond) (a : Addr) (q : Int64) (t : Int32) (h0 : Heap) (n0 : Nat) (Z0 : n0 ≤ h0.size) (F : Fld Z h0 a "com/example/fuda/fuda/domain/LockoutPolicy" "failureThreshold" "I" (.int t)) :
    MetFree l (⟨"com/example/fuda/fuda/domain/LockoutPolicy", "locksAt", "(J)Z"⟩ : MethodName) (head1 (Jvm.Cond.code (⟨"com/example/fuda/fuda/domain/LockoutPolicy", "locksAt", "(J)Z"⟩ : MethodName) prog_10_method_2_code 3 (some .boolean) :: ws) ({ frames := 0, cells := 0, slots := 0, locals := 0 } : Room)) (fun a_ U_ => a_ = #[(.ref a), (.long q)] ∧ Z.Warmed39 U_.vm ∧ U_.heap = h0) (fun _ _ _ _ _ => True) (fun _ U_ o_ V_ => ∃ v_ L_, o_ = .returned v_ ∧ own_Q5 Z a q t h0 n0 v_ V_.heap L_ ∧ FrameEnd U_ o_ V_ L_ ({ frames := 0, cells := 0, slots := 0, locals := 0 } : Room).cells ({ frames := 0, cells := 0, slots := 0, locals := 0 } : Room).slots) := by
  refine MetFree.of_bodySF (plainFor_of_name own_pn_com_example_fuda_fuda_domain_LockoutPolicy) hisR ?_
  intro p e s m args below meth c s₁ Bd hml0 hP hK
  obtain ⟨rfl, hZ, hh⟩ := hP
  have hx := Bd.exec
  have hby := Bd.bytes
  have hml : c.maxLocals = 3 := hml0
  have hown : s.vm.findClass "com/example/fuda/fuda/domain/LockoutPolicy" = some m.cls := findClass_of_methodNamed Bd.named
  have hnm := (name_of_methodNamed Bd.named Bd.method).1
  have X0 : Stand p l e ({ frames := 0, cells := 0, slots := 0, locals := 0 } : Room) s m #[(.ref a), (.long q)] below meth c s₁ [] 0 0 := Stand.of_body Bd
  have e0 : s₁.heap = h0 := by rw [← hh, Bd.state]; rfl
  have N0 := Fr.nil n0
  show own_G p e below s (own_Q5 Z a q t h0 n0) ({ frames := 0, cells := 0, slots := 0, locals := 0 } : Room).cells ({ frames := 0, cells := 0, slots := 0, locals := 0 } : Room).slots s₁ (entryFrame m #[(.ref a), (.long q)] 3)
  rw [own_rm5_ef]
  refine own_w (T' := s₁) (g' := (mkF m 1 #[.val (.ref a), .val (.long q), .second] [(.long q)])) (fun _ k_ => XS.lloadN X0.here hx rfl (hb hby own_d5_0) rfl k_) ?_
  refine own_w (T' := s₁) (g' := (mkF m 2 #[.val (.ref a), .val (.long q), .second] [(.ref a), (.long q)])) (fun _ k_ => XS.aloadN X0.here hx rfl (hb hby own_d5_1) rfl rfl k_) ?_
  obtain ⟨T1, X1, e1, st1⟩ := getF X0 hx hZ hown (host := "") (Or.inl (hw _ (List.mem_of_getElem? (i := 19) rfl))) Via.refl e0 F (g := (mkF m 2 #[.val (.ref a), .val (.long q), .second] [(.ref a), (.long q)])) rfl rfl (hb hby own_d5_2)
  refine own_w (T' := T1) (g' := (mkF m 5 #[.val (.ref a), .val (.long q), .second] [(.int t), (.long q)])) st1 ?_
  refine own_w (T' := T1) (g' := (mkF m 6 #[.val (.ref a), .val (.long q), .second] [(.long (t.toInt64)), (.long q)])) (fun _ k_ => XS.i2l X1.here hx rfl (hb hby own_d5_5) rfl k_) ?_
  refine own_w (T' := T1) (g' := (mkF m 7 #[.val (.ref a), .val (.long q), .second] [(.int (lcmpW q (t.toInt64)))])) (fun _ k_ => XS.lcmp X1.here hx rfl (hb hby own_d5_6) rfl k_) ?_
  by_cases hc7 : q < (t.toInt64)
  · refine own_w (T' := T1) (g' := (mkF m 14 #[.val (.ref a), .val (.long q), .second] [])) (fun _ k_ => XS.ifYes X1.here hx rfl (pc0 := 7) (pc' := 14) rfl (hb hby own_d5_7) rfl ((if0 _ _).trans (tlt ((lw_lt _ _).mpr hc7)).1) (by decide) (by decide) k_) ?_
    refine own_w (T' := T1) (g' := (mkF m 15 #[.val (.ref a), .val (.long q), .second] [(.int (0 : Int32))])) (fun _ k_ => XS.iconst X1.here hx rfl (hb hby own_d5_14) k_) ?_
    obtain ⟨fs, hr, hrun, hended, hW, hsame⟩ := X1.leave (v := some (.int (0 : Int32))) (fun h => by rw [Bd.returns] at h; cases h)
    exact ⟨_, _, retOut X1 hx Bd.returns rfl (Or.inl ⟨rfl, Or.inr (Or.inl rfl), _, rfl⟩) (hb hby own_d5_15) hr, hrun, hended, _, _, rfl, (by show own_Q5 Z a q t h0 n0 _ T1.heap _; rw [e1]; exact ⟨(by simp [hc7]), N0, rfl⟩), ⟨_, rfl⟩, hW, hsame.mono (by decide) (by decide)⟩
  · refine own_w (T' := T1) (g' := (mkF m 10 #[.val (.ref a), .val (.long q), .second] [])) (fun _ k_ => XS.ifNo X1.here hx rfl (hb hby own_d5_7) rfl ((if0 _ _).trans (flt (mt (lw_lt _ _).mp hc7)).1) k_) ?_
    refine own_w (T' := T1) (g' := (mkF m 11 #[.val (.ref a), .val (.long q), .second] [(.int (1 : Int32))])) (fun _ k_ => XS.iconst X1.here hx rfl (hb hby own_d5_10) k_) ?_
    refine own_w (T' := T1) (g' := (mkF m 15 #[.val (.ref a), .val (.long q), .second] [(.int (1 : Int32))])) (fun _ k_ => XS.goto X1.here hx rfl (pc0 := 11) (pc' := 15) rfl (hb hby own_d5_11) (by decide) (by decide) k_) ?_
    obtain ⟨fs, hr, hrun, hended, hW, hsame⟩ := X1.leave (v := some (.int (1 : Int32))) (fun h => by rw [Bd.returns] at h; cases h)
    exact ⟨_, _, retOut X1 hx Bd.returns rfl (Or.inl ⟨rfl, Or.inr (Or.inl rfl), _, rfl⟩) (hb hby own_d5_15) hr, hrun, hended, _, _, rfl, (by show own_Q5 Z a q t h0 n0 _ T1.heap _; rw [e1]; exact ⟨(by simp [hc7]), N0, rfl⟩), ⟨_, rfl⟩, hW, hsame.mono (by decide) (by decide)⟩
def own_thr (a : Int32) : Int32 := own_mx (1 : Int32) (a &&& (2147483647 : Int32))
theorem own_t1 (a : Int32) : ¬ own_thr a < 1 := by
  unfold own_thr own_mx
  split
  · rename_i h; rw [Int32.lt_iff_toInt_lt] at h ⊢; omega
  · decide
theorem own_lt (t : Int32) : t.toInt64 - (1 : Int64) < t.toInt64 := by
  have h1 := t.toInt_lt; have h2 := t.le_toInt
  have e : (t.toInt64).toInt = t.toInt := Int32.toInt_toInt64 t
  have e2 := c_lsub t.toInt64 1
  have e3 : (1 : Int64).toInt = 1 := by decide
  have h3 := (t.toInt64 - 1).toInt_lt; have h4 := (t.toInt64 - 1).le_toInt
  rw [Int64.lt_iff_toInt_lt]
  rw [e, e3] at e2
  rw [e]; omega
theorem own_mono {n m T : Int64} (h : ¬ own_mnL n m < T) : ¬ own_mxL n m < T := by
  unfold own_mnL at h; unfold own_mxL
  simp only [Int64.lt_iff_toInt_lt] at *
  split at h <;> split <;> omega
theorem own_pd1 : parseMethodDescriptor "(II)I" = some ⟨[.int, .int], some .int⟩ := by decide +kernel
theorem own_pd2 : parseMethodDescriptor "(I)V" = some ⟨[.int], none⟩ := by decide +kernel
theorem own_pd3 : parseMethodDescriptor "(J)Z" = some ⟨[.long], some .boolean⟩ := by decide +kernel
theorem own_pd4 : parseMethodDescriptor "(JJ)J" = some ⟨[.long, .long], some .long⟩ := by decide +kernel
theorem own_pn_com_example_fuda_fuda_domain_LockoutPolicyLocksAtPinLaw : plainName "com/example/fuda/fuda/domain/LockoutPolicyLocksAtPinLaw" = true := by first | (simp [plainName, overriddenIn]; done) | decide +kernel
theorem own_rm0_ef (m : MethodId) (a : Int32) (ln : Int64) (lm : Int64) : entryFrame m #[(.int a), (.long ln), (.long lm)] maxLocals = mkF m 0 #[.val (.int a), .val (.long ln), .second, .val (.long lm), .second, .unset, .unset, .unset, .unset, .unset, .unset, .unset, .unset, .unset, .unset, .unset] [] := by first | (simp [entryFrame, mkF, argsToLocals, Value.category, maxLocals]; done) | rfl
def own_Q0 (Z : State) (a : Int32) (ln : Int64) (lm : Int64) (h0 : Heap) (n0 : Nat) (v_ : Option Value) (h : Heap) (L_ : List Loc) : Prop := v_ = some (.int (1 : Int32)) ∧ Fr n0 L_
set_option maxRecDepth 65536 in
set_option maxHeartbeats 40000000 in
theorem own_rm0 (l : Launch) (Z : State) (a0 : Array Value) (hw : ∀ d ∈ tables_1, d.before a0 Z = true) (ws : List Jvm.Cond) (a : Int32) (ln : Int64) (lm : Int64) (h0 : Heap) (n0 : Nat) (Z0 : n0 ≤ h0.size)  :
    MetFree l x (head1 (Jvm.Cond.code x code maxLocals ret :: ws) room_1) (fun a_ U_ => a_ = #[(.int a), (.long ln), (.long lm)] ∧ Z.Warmed39 U_.vm ∧ U_.heap = h0) (fun _ _ _ _ _ => True) (fun _ U_ o_ V_ => ∃ v_ L_, o_ = .returned v_ ∧ own_Q0 Z a ln lm h0 n0 v_ V_.heap L_ ∧ FrameEnd U_ o_ V_ L_ room_1.cells room_1.slots) := by
  refine MetFree.of_bodySF (plainFor_of_name own_pn_com_example_fuda_fuda_domain_LockoutPolicyLocksAtPinLaw) hisR ?_
  intro p e s m args below meth c s₁ Bd hml0 hP hK
  obtain ⟨rfl, hZ, hh⟩ := hP
  have hx := Bd.exec
  have hby := Bd.bytes
  have hml : c.maxLocals = 16 := hml0
  have hown : s.vm.findClass "com/example/fuda/fuda/domain/LockoutPolicyLocksAtPinLaw" = some m.cls := findClass_of_methodNamed Bd.named
  have hnm := (name_of_methodNamed Bd.named Bd.method).1
  have X0 : Stand p l e room_1 s m #[(.int a), (.long ln), (.long lm)] below meth c s₁ [] 0 0 := Stand.of_body Bd
  have e0 : s₁.heap = h0 := by rw [← hh, Bd.state]; rfl
  have N0 := Fr.nil n0
  show own_G p e below s (own_Q0 Z a ln lm h0 n0) room_1.cells room_1.slots s₁ (entryFrame m #[(.int a), (.long ln), (.long lm)] maxLocals)
  rw [own_rm0_ef]
  refine own_w (T' := s₁) (g' := (mkF m 1 #[.val (.int a), .val (.long ln), .second, .val (.long lm), .second, .unset, .unset, .unset, .unset, .unset, .unset, .unset, .unset, .unset, .unset, .unset] [(.int (1 : Int32))])) (fun _ k_ => XS.iconst X0.here hx rfl (hb hby at_0) k_) ?_
  refine own_w (T' := s₁) (g' := (mkF m 2 #[.val (.int a), .val (.long ln), .second, .val (.long lm), .second, .unset, .unset, .unset, .unset, .unset, .unset, .unset, .unset, .unset, .unset, .unset] [(.int a), (.int (1 : Int32))])) (fun _ k_ => XS.iloadN X0.here hx rfl (hb hby at_1) rfl k_) ?_
  refine own_w (T' := s₁) (g' := (mkF m 4 #[.val (.int a), .val (.long ln), .second, .val (.long lm), .second, .unset, .unset, .unset, .unset, .unset, .unset, .unset, .unset, .unset, .unset, .unset] [(.int (2147483647 : Int32)), (.int a), (.int (1 : Int32))])) (X0.ldcInt hx hown (mvT hZ (hw _ (List.mem_of_getElem? (i := 0) rfl))) (g := (mkF m 2 #[.val (.int a), .val (.long ln), .second, .val (.long lm), .second, .unset, .unset, .unset, .unset, .unset, .unset, .unset, .unset, .unset, .unset, .unset] [(.int a), (.int (1 : Int32))])) rfl (hb hby at_2)) ?_
  refine own_w (T' := s₁) (g' := (mkF m 5 #[.val (.int a), .val (.long ln), .second, .val (.long lm), .second, .unset, .unset, .unset, .unset, .unset, .unset, .unset, .unset, .unset, .unset, .unset] [(.int (a &&& (2147483647 : Int32))), (.int (1 : Int32))])) (fun _ k_ => XS.iand X0.here hx rfl (hb hby at_4) rfl k_) ?_
  obtain ⟨_, _, ⟨T1, L1, k1, n1⟩, -, X1, ⟨Lc1, hQ1, l1, y1, z1⟩, st1⟩ := Jvm.LawKit.callS X0 hx (y := (⟨"java/lang/Math", "max", "(II)I"⟩ : MethodName)) hown (mvT hZ (hw _ (List.mem_of_getElem? (i := 1) rfl))) (mvT hZ (hw _ (List.mem_of_getElem? (i := 2) rfl))) (mvT hZ (hw _ (List.mem_of_getElem? (i := 3) rfl))) (mvT hZ (hw _ (List.mem_of_getElem? (i := 4) rfl))) (by decide) (backOf (W := 0) (own_rm1 l Z a0 hw [] (1 : Int32) (a &&& (2147483647 : Int32))  h0 n0 Z0 ) hZ (hw _ (List.mem_of_getElem? (i := 4) rfl)) (hw _ (List.mem_of_getElem? (i := 3) rfl)) (by decide) (by decide)) (g := (mkF m 5 #[.val (.int a), .val (.long ln), .second, .val (.long lm), .second, .unset, .unset, .unset, .unset, .unset, .unset, .unset, .unset, .unset, .unset, .unset] [(.int (a &&& (2147483647 : Int32))), (.int (1 : Int32))])) rfl (by rw [hml]; rfl) (argsL := [(.int (1 : Int32)), (.int (a &&& (2147483647 : Int32)))]) (rest := []) (lenOf own_pd1 rfl) rfl (by show 2 * 0 + _ ≤ _; exact Nat.le_of_eq rfl) (hb hby at_5) (fun _ _ => ⟨rfl, e0, (by decide : 0 + 0 ≤ _), (by decide : 0 + 0 ≤ _)⟩)
  dsimp only [Pt.U, Pt.locs, Pt.cells, Pt.slots] at X1 l1 y1 z1 st1 hQ1
  subst l1 y1 z1
  obtain ⟨rfl, N1q, e1⟩ := hQ1
  have N1 := Fr.app N0 N1q
  refine own_w (T' := T1) (g' := (mkF m 8 #[.val (.int a), .val (.long ln), .second, .val (.long lm), .second, .unset, .unset, .unset, .unset, .unset, .unset, .unset, .unset, .unset, .unset, .unset] [(.int (own_thr a))])) st1 ?_
  refine own_w (T' := T1) (g' := (mkF m 10 #[.val (.int a), .val (.long ln), .second, .val (.long lm), .second, .val (.int (own_thr a)), .unset, .unset, .unset, .unset, .unset, .unset, .unset, .unset, .unset, .unset] [])) (fun _ k_ => XS.istore X1.here hx rfl (hb hby at_8) rfl (l' := #[.val (.int a), .val (.long ln), .second, .val (.long lm), .second, .val (.int (own_thr a)), .unset, .unset, .unset, .unset, .unset, .unset, .unset, .unset, .unset, .unset]) rfl k_) ?_
  obtain ⟨T2, h2, X2, e2, E2, A2, D2, -, st2⟩ := newO X1 hx hZ hown (hw _ (List.mem_of_getElem? (i := 5) rfl)) (hw _ (List.mem_of_getElem? (i := 6) rfl)) (hw _ (List.mem_of_getElem? (i := 7) rfl)) e1 (g := (mkF m 10 #[.val (.int a), .val (.long ln), .second, .val (.long lm), .second, .val (.int (own_thr a)), .unset, .unset, .unset, .unset, .unset, .unset, .unset, .unset, .unset, .unset] [])) rfl (hb hby at_10) (by decide) (by decide)
  obtain ⟨b2, gq2⟩ : ∃ z, z = h0.size := ⟨_, rfl⟩
  rw [← gq2] at A2 D2 st2
  have g_b2 : n0 ≤ b2 := Nat.le_trans Z0 (Nat.le_of_eq gq2.symm)
  have Z2 : n0 ≤ h2.size := Nat.le_trans Z0 E2.1
  refine own_w (T' := T2) (g' := (mkF m 13 #[.val (.int a), .val (.long ln), .second, .val (.long lm), .second, .val (.int (own_thr a)), .unset, .unset, .unset, .unset, .unset, .unset, .unset, .unset, .unset, .unset] [(.ref b2)])) st2 ?_
  refine own_w (T' := T2) (g' := (mkF m 14 #[.val (.int a), .val (.long ln), .second, .val (.long lm), .second, .val (.int (own_thr a)), .unset, .unset, .unset, .unset, .unset, .unset, .unset, .unset, .unset, .unset] [(.ref b2), (.ref b2)])) (fun _ k_ => XS.dup X2.here hx rfl (hb hby at_13) rfl rfl k_) ?_
  refine own_w (T' := T2) (g' := (mkF m 16 #[.val (.int a), .val (.long ln), .second, .val (.long lm), .second, .val (.int (own_thr a)), .unset, .unset, .unset, .unset, .unset, .unset, .unset, .unset, .unset, .unset] [(.int (own_thr a)), (.ref b2), (.ref b2)])) (fun _ k_ => XS.iload X2.here hx rfl (hb hby at_14) rfl k_) ?_
  obtain ⟨_, _, ⟨T3, L3, k3, n3⟩, -, X3, ⟨Lc3, hQ3, l3, y3, z3⟩, st3⟩ := X2.specialBack hx (y := (⟨"com/example/fuda/fuda/domain/LockoutPolicy", "<init>", "(I)V"⟩ : MethodName)) rfl hown (mvT hZ (hw _ (List.mem_of_getElem? (i := 8) rfl))) (mvT hZ (hw _ (List.mem_of_getElem? (i := 9) rfl))) (mvT hZ (hw _ (List.mem_of_getElem? (i := 10) rfl))) (by decide) (backOf (W := 1) (own_rm2 l Z a0 hw [] b2 (own_thr a) _ h2 n0 Z2 (D2 (Or.inr (hw _ (List.mem_of_getElem? (i := 20) rfl))) (ty := .int) (by decide)) A2 g_b2 (own_t1 a)) hZ (hw _ (List.mem_of_getElem? (i := 10) rfl)) (hw _ (List.mem_of_getElem? (i := 7) rfl)) (by decide) (by decide)) (g := (mkF m 16 #[.val (.int a), .val (.long ln), .second, .val (.long lm), .second, .val (.int (own_thr a)), .unset, .unset, .unset, .unset, .unset, .unset, .unset, .unset, .unset, .unset] [(.int (own_thr a)), (.ref b2), (.ref b2)])) rfl (by rw [hml]; rfl) (Steps.refl _) (a := b2) (argsL := [(.int (own_thr a))]) (rest := [(.ref b2)]) (lenOf own_pd2 rfl) rfl (by show 2 * 0 + _ ≤ _; exact Nat.le_of_eq rfl) (hb hby at_16) (fun _ _ => ⟨rfl, e2, (by decide : 1 + 0 ≤ _), (by decide : 1 + 0 ≤ _)⟩)
  dsimp only [Pt.U, Pt.locs, Pt.cells, Pt.slots] at X3 l3 y3 z3 st3 hQ3
  subst l3 y3 z3
  obtain ⟨h3, e3⟩ : ∃ h, T3.heap = h := ⟨_, rfl⟩
  rw [e3] at hQ3
  obtain ⟨rfl, N3q, K3, F3⟩ := hQ3
  have N3 := Fr.app N1 N3q
  refine own_t (T' := T3) (g' := (mkF m 19 #[.val (.int a), .val (.long ln), .second, .val (.long lm), .second, .val (.int (own_thr a)), .unset, .unset, .unset, .unset, .unset, .unset, .unset, .unset, .unset, .unset] [(.ref b2)])) st3 ?_
  have E := A2.keep K3
  have Z3 : n0 ≤ h3.size := Nat.le_trans Z2 K3.1
  refine own_w (T' := T3) (g' := (mkF m 21 #[.val (.int a), .val (.long ln), .second, .val (.long lm), .second, .val (.int (own_thr a)), .val (.ref b2), .unset, .unset, .unset, .unset, .unset, .unset, .unset, .unset, .unset] [])) (fun _ k_ => XS.astore X3.here hx rfl (hb hby at_19) rfl rfl (l' := #[.val (.int a), .val (.long ln), .second, .val (.long lm), .second, .val (.int (own_thr a)), .val (.ref b2), .unset, .unset, .unset, .unset, .unset, .unset, .unset, .unset, .unset]) rfl k_) ?_
  refine own_w (T' := T3) (g' := (mkF m 23 #[.val (.int a), .val (.long ln), .second, .val (.long lm), .second, .val (.int (own_thr a)), .val (.ref b2), .unset, .unset, .unset, .unset, .unset, .unset, .unset, .unset, .unset] [(.ref b2)])) (fun _ k_ => XS.aload X3.here hx rfl (hb hby at_21) rfl rfl k_) ?_
  refine own_w (T' := T3) (g' := (mkF m 25 #[.val (.int a), .val (.long ln), .second, .val (.long lm), .second, .val (.int (own_thr a)), .val (.ref b2), .unset, .unset, .unset, .unset, .unset, .unset, .unset, .unset, .unset] [(.int (own_thr a)), (.ref b2)])) (fun _ k_ => XS.iload X3.here hx rfl (hb hby at_23) rfl k_) ?_
  refine own_w (T' := T3) (g' := (mkF m 26 #[.val (.int a), .val (.long ln), .second, .val (.long lm), .second, .val (.int (own_thr a)), .val (.ref b2), .unset, .unset, .unset, .unset, .unset, .unset, .unset, .unset, .unset] [(.long ((own_thr a).toInt64)), (.ref b2)])) (fun _ k_ => XS.i2l X3.here hx rfl (hb hby at_25) rfl k_) ?_
  obtain ⟨cq4, kq4, q4a, q4b, q4c⟩ := isOf hZ e3 E
  obtain ⟨_, _, ⟨T4, L4, k4, n4⟩, -, X4, ⟨Lc4, hQ4, l4, y4, z4⟩, st4⟩ := X3.virtualBack hx (y := (⟨"com/example/fuda/fuda/domain/LockoutPolicy", "locksAt", "(J)Z"⟩ : MethodName)) (z := (⟨"com/example/fuda/fuda/domain/LockoutPolicy", "locksAt", "(J)Z"⟩ : MethodName)) hown (mvT hZ (hw _ (List.mem_of_getElem? (i := 21) rfl))) (mvT hZ (hw _ (List.mem_of_getElem? (i := 22) rfl))) (notFace_of_selects (args := #[]) (mvT hZ (hw _ (List.mem_of_getElem? (i := 24) rfl)))) (mvT hZ (hw _ (List.mem_of_getElem? (i := 24) rfl))) (mvT hZ (hw _ (List.mem_of_getElem? (i := 23) rfl))) (by decide) (backOf (W := 0) (own_rm5 l Z a0 hw [] b2 ((own_thr a).toInt64) (own_thr a) h3 n0 Z3 F3) hZ (hw _ (List.mem_of_getElem? (i := 25) rfl)) (hw _ (List.mem_of_getElem? (i := 7) rfl)) (by decide) (by decide)) q4a q4c (g := (mkF m 26 #[.val (.int a), .val (.long ln), .second, .val (.long lm), .second, .val (.int (own_thr a)), .val (.ref b2), .unset, .unset, .unset, .unset, .unset, .unset, .unset, .unset, .unset] [(.long ((own_thr a).toInt64)), (.ref b2)])) rfl (by rw [hml]; rfl) (Steps.refl _) (argsL := [(.long ((own_thr a).toInt64))]) (rest := []) (lenOf own_pd3 rfl) rfl (by show 2 * 0 + _ ≤ _; exact Nat.le_of_eq rfl) (hb hby at_26) (fun _ _ => ⟨rfl, e3, (by decide : 1 + 0 ≤ _), (by decide : 1 + 0 ≤ _)⟩)
  dsimp only [Pt.U, Pt.locs, Pt.cells, Pt.slots] at X4 l4 y4 z4 st4 hQ4
  subst l4 y4 z4
  obtain ⟨rfl, N4q, e4⟩ := hQ4
  have N4 := Fr.app N3 N4q
  refine own_t (T' := T4) (g' := (mkF m 29 #[.val (.int a), .val (.long ln), .second, .val (.long lm), .second, .val (.int (own_thr a)), .val (.ref b2), .unset, .unset, .unset, .unset, .unset, .unset, .unset, .unset, .unset] [(.int (if ¬ (own_thr a).toInt64 < (own_thr a).toInt64 then (1 : Int32) else 0))])) st4 ?_
  refine own_w (T' := T4) (g' := (mkF m 31 #[.val (.int a), .val (.long ln), .second, .val (.long lm), .second, .val (.int (own_thr a)), .val (.ref b2), .val (.int (if ¬ (own_thr a).toInt64 < (own_thr a).toInt64 then (1 : Int32) else 0)), .unset, .unset, .unset, .unset, .unset, .unset, .unset, .unset] [])) (fun _ k_ => XS.istore X4.here hx rfl (hb hby at_29) rfl (l' := #[.val (.int a), .val (.long ln), .second, .val (.long lm), .second, .val (.int (own_thr a)), .val (.ref b2), .val (.int (if ¬ (own_thr a).toInt64 < (own_thr a).toInt64 then (1 : Int32) else 0)), .unset, .unset, .unset, .unset, .unset, .unset, .unset, .unset]) rfl k_) ?_
  refine own_w (T' := T4) (g' := (mkF m 33 #[.val (.int a), .val (.long ln), .second, .val (.long lm), .second, .val (.int (own_thr a)), .val (.ref b2), .val (.int (if ¬ (own_thr a).toInt64 < (own_thr a).toInt64 then (1 : Int32) else 0)), .unset, .unset, .unset, .unset, .unset, .unset, .unset, .unset] [(.ref b2)])) (fun _ k_ => XS.aload X4.here hx rfl (hb hby at_31) rfl rfl k_) ?_
  refine own_w (T' := T4) (g' := (mkF m 35 #[.val (.int a), .val (.long ln), .second, .val (.long lm), .second, .val (.int (own_thr a)), .val (.ref b2), .val (.int (if ¬ (own_thr a).toInt64 < (own_thr a).toInt64 then (1 : Int32) else 0)), .unset, .unset, .unset, .unset, .unset, .unset, .unset, .unset] [(.int (own_thr a)), (.ref b2)])) (fun _ k_ => XS.iload X4.here hx rfl (hb hby at_33) rfl k_) ?_
  refine own_w (T' := T4) (g' := (mkF m 36 #[.val (.int a), .val (.long ln), .second, .val (.long lm), .second, .val (.int (own_thr a)), .val (.ref b2), .val (.int (if ¬ (own_thr a).toInt64 < (own_thr a).toInt64 then (1 : Int32) else 0)), .unset, .unset, .unset, .unset, .unset, .unset, .unset, .unset] [(.long ((own_thr a).toInt64)), (.ref b2)])) (fun _ k_ => XS.i2l X4.here hx rfl (hb hby at_35) rfl k_) ?_
  refine own_w (T' := T4) (g' := (mkF m 37 #[.val (.int a), .val (.long ln), .second, .val (.long lm), .second, .val (.int (own_thr a)), .val (.ref b2), .val (.int (if ¬ (own_thr a).toInt64 < (own_thr a).toInt64 then (1 : Int32) else 0)), .unset, .unset, .unset, .unset, .unset, .unset, .unset, .unset] [(.long (1 : Int64)), (.long ((own_thr a).toInt64)), (.ref b2)])) (fun _ k_ => XS.lconst X4.here hx rfl (hb hby at_36) k_) ?_
  refine own_w (T' := T4) (g' := (mkF m 38 #[.val (.int a), .val (.long ln), .second, .val (.long lm), .second, .val (.int (own_thr a)), .val (.ref b2), .val (.int (if ¬ (own_thr a).toInt64 < (own_thr a).toInt64 then (1 : Int32) else 0)), .unset, .unset, .unset, .unset, .unset, .unset, .unset, .unset] [(.long (((own_thr a).toInt64) - (1 : Int64))), (.ref b2)])) (fun _ k_ => XS.lsub X4.here hx rfl (hb hby at_37) rfl k_) ?_
  obtain ⟨cq5, kq5, q5a, q5b, q5c⟩ := isOf hZ e4 E
  obtain ⟨_, _, ⟨T5, L5, k5, n5⟩, -, X5, ⟨Lc5, hQ5, l5, y5, z5⟩, st5⟩ := X4.virtualBack hx (y := (⟨"com/example/fuda/fuda/domain/LockoutPolicy", "locksAt", "(J)Z"⟩ : MethodName)) (z := (⟨"com/example/fuda/fuda/domain/LockoutPolicy", "locksAt", "(J)Z"⟩ : MethodName)) hown (mvT hZ (hw _ (List.mem_of_getElem? (i := 21) rfl))) (mvT hZ (hw _ (List.mem_of_getElem? (i := 22) rfl))) (notFace_of_selects (args := #[]) (mvT hZ (hw _ (List.mem_of_getElem? (i := 24) rfl)))) (mvT hZ (hw _ (List.mem_of_getElem? (i := 24) rfl))) (mvT hZ (hw _ (List.mem_of_getElem? (i := 23) rfl))) (by decide) (backOf (W := 0) (own_rm5 l Z a0 hw [] b2 (((own_thr a).toInt64) - (1 : Int64)) (own_thr a) h3 n0 Z3 F3) hZ (hw _ (List.mem_of_getElem? (i := 25) rfl)) (hw _ (List.mem_of_getElem? (i := 7) rfl)) (by decide) (by decide)) q5a q5c (g := (mkF m 38 #[.val (.int a), .val (.long ln), .second, .val (.long lm), .second, .val (.int (own_thr a)), .val (.ref b2), .val (.int (if ¬ (own_thr a).toInt64 < (own_thr a).toInt64 then (1 : Int32) else 0)), .unset, .unset, .unset, .unset, .unset, .unset, .unset, .unset] [(.long (((own_thr a).toInt64) - (1 : Int64))), (.ref b2)])) rfl (by rw [hml]; rfl) (Steps.refl _) (argsL := [(.long (((own_thr a).toInt64) - (1 : Int64)))]) (rest := []) (lenOf own_pd3 rfl) rfl (by show 2 * 0 + _ ≤ _; exact Nat.le_of_eq rfl) (hb hby at_38) (fun _ _ => ⟨rfl, e4, (by decide : 1 + 0 ≤ _), (by decide : 1 + 0 ≤ _)⟩)
  dsimp only [Pt.U, Pt.locs, Pt.cells, Pt.slots] at X5 l5 y5 z5 st5 hQ5
  subst l5 y5 z5
  obtain ⟨rfl, N5q, e5⟩ := hQ5
  have N5 := Fr.app N4 N5q
  refine own_t (T' := T5) (g' := (mkF m 41 #[.val (.int a), .val (.long ln), .second, .val (.long lm), .second, .val (.int (own_thr a)), .val (.ref b2), .val (.int (if ¬ (own_thr a).toInt64 < (own_thr a).toInt64 then (1 : Int32) else 0)), .unset, .unset, .unset, .unset, .unset, .unset, .unset, .unset] [(.int (if ¬ ((own_thr a).toInt64 - (1 : Int64)) < (own_thr a).toInt64 then (1 : Int32) else 0))])) st5 ?_
  refine own_w (T' := T5) (g' := (mkF m 43 #[.val (.int a), .val (.long ln), .second, .val (.long lm), .second, .val (.int (own_thr a)), .val (.ref b2), .val (.int (if ¬ (own_thr a).toInt64 < (own_thr a).toInt64 then (1 : Int32) else 0)), .val (.int (if ¬ ((own_thr a).toInt64 - (1 : Int64)) < (own_thr a).toInt64 then (1 : Int32) else 0)), .unset, .unset, .unset, .unset, .unset, .unset, .unset] [])) (fun _ k_ => XS.istore X5.here hx rfl (hb hby at_41) rfl (l' := #[.val (.int a), .val (.long ln), .second, .val (.long lm), .second, .val (.int (own_thr a)), .val (.ref b2), .val (.int (if ¬ (own_thr a).toInt64 < (own_thr a).toInt64 then (1 : Int32) else 0)), .val (.int (if ¬ ((own_thr a).toInt64 - (1 : Int64)) < (own_thr a).toInt64 then (1 : Int32) else 0)), .unset, .unset, .unset, .unset, .unset, .unset, .unset]) rfl k_) ?_
  refine own_w (T' := T5) (g' := (mkF m 44 #[.val (.int a), .val (.long ln), .second, .val (.long lm), .second, .val (.int (own_thr a)), .val (.ref b2), .val (.int (if ¬ (own_thr a).toInt64 < (own_thr a).toInt64 then (1 : Int32) else 0)), .val (.int (if ¬ ((own_thr a).toInt64 - (1 : Int64)) < (own_thr a).toInt64 then (1 : Int32) else 0)), .unset, .unset, .unset, .unset, .unset, .unset, .unset] [(.long ln)])) (fun _ k_ => XS.lloadN X5.here hx rfl (hb hby at_43) rfl k_) ?_
  refine own_w (T' := T5) (g' := (mkF m 45 #[.val (.int a), .val (.long ln), .second, .val (.long lm), .second, .val (.int (own_thr a)), .val (.ref b2), .val (.int (if ¬ (own_thr a).toInt64 < (own_thr a).toInt64 then (1 : Int32) else 0)), .val (.int (if ¬ ((own_thr a).toInt64 - (1 : Int64)) < (own_thr a).toInt64 then (1 : Int32) else 0)), .unset, .unset, .unset, .unset, .unset, .unset, .unset] [(.long lm), (.long ln)])) (fun _ k_ => XS.lloadN X5.here hx rfl (hb hby at_44) rfl k_) ?_
  obtain ⟨_, _, ⟨T6, L6, k6, n6⟩, -, X6, ⟨Lc6, hQ6, l6, y6, z6⟩, st6⟩ := Jvm.LawKit.callS X5 hx (y := (⟨"java/lang/Math", "min", "(JJ)J"⟩ : MethodName)) hown (mvT hZ (hw _ (List.mem_of_getElem? (i := 26) rfl))) (mvT hZ (hw _ (List.mem_of_getElem? (i := 27) rfl))) (mvT hZ (hw _ (List.mem_of_getElem? (i := 3) rfl))) (mvT hZ (hw _ (List.mem_of_getElem? (i := 28) rfl))) (by decide) (backOf (W := 0) (own_rm6 l Z a0 hw [] ln lm  h3 n0 Z3 ) hZ (hw _ (List.mem_of_getElem? (i := 28) rfl)) (hw _ (List.mem_of_getElem? (i := 3) rfl)) (by decide) (by decide)) (g := (mkF m 45 #[.val (.int a), .val (.long ln), .second, .val (.long lm), .second, .val (.int (own_thr a)), .val (.ref b2), .val (.int (if ¬ (own_thr a).toInt64 < (own_thr a).toInt64 then (1 : Int32) else 0)), .val (.int (if ¬ ((own_thr a).toInt64 - (1 : Int64)) < (own_thr a).toInt64 then (1 : Int32) else 0)), .unset, .unset, .unset, .unset, .unset, .unset, .unset] [(.long lm), (.long ln)])) rfl (by rw [hml]; rfl) (argsL := [(.long ln), (.long lm)]) (rest := []) (lenOf own_pd4 rfl) rfl (by show 2 * 0 + _ ≤ _; exact Nat.le_of_eq rfl) (hb hby at_45) (fun _ _ => ⟨rfl, e5, (by decide : 1 + 0 ≤ _), (by decide : 1 + 0 ≤ _)⟩)
  dsimp only [Pt.U, Pt.locs, Pt.cells, Pt.slots] at X6 l6 y6 z6 st6 hQ6
  subst l6 y6 z6
  obtain ⟨rfl, N6q, e6⟩ := hQ6
  have N6 := Fr.app N5 N6q
  refine own_w (T' := T6) (g' := (mkF m 48 #[.val (.int a), .val (.long ln), .second, .val (.long lm), .second, .val (.int (own_thr a)), .val (.ref b2), .val (.int (if ¬ (own_thr a).toInt64 < (own_thr a).toInt64 then (1 : Int32) else 0)), .val (.int (if ¬ ((own_thr a).toInt64 - (1 : Int64)) < (own_thr a).toInt64 then (1 : Int32) else 0)), .unset, .unset, .unset, .unset, .unset, .unset, .unset] [(.long (own_mnL ln lm))])) st6 ?_
  refine own_w (T' := T6) (g' := (mkF m 50 #[.val (.int a), .val (.long ln), .second, .val (.long lm), .second, .val (.int (own_thr a)), .val (.ref b2), .val (.int (if ¬ (own_thr a).toInt64 < (own_thr a).toInt64 then (1 : Int32) else 0)), .val (.int (if ¬ ((own_thr a).toInt64 - (1 : Int64)) < (own_thr a).toInt64 then (1 : Int32) else 0)), .val (.long (own_mnL ln lm)), .second, .unset, .unset, .unset, .unset, .unset] [])) (fun _ k_ => XS.lstore X6.here hx rfl (hb hby at_48) rfl (l' := #[.val (.int a), .val (.long ln), .second, .val (.long lm), .second, .val (.int (own_thr a)), .val (.ref b2), .val (.int (if ¬ (own_thr a).toInt64 < (own_thr a).toInt64 then (1 : Int32) else 0)), .val (.int (if ¬ ((own_thr a).toInt64 - (1 : Int64)) < (own_thr a).toInt64 then (1 : Int32) else 0)), .val (.long (own_mnL ln lm)), .second, .unset, .unset, .unset, .unset, .unset]) rfl k_) ?_
  refine own_w (T' := T6) (g' := (mkF m 51 #[.val (.int a), .val (.long ln), .second, .val (.long lm), .second, .val (.int (own_thr a)), .val (.ref b2), .val (.int (if ¬ (own_thr a).toInt64 < (own_thr a).toInt64 then (1 : Int32) else 0)), .val (.int (if ¬ ((own_thr a).toInt64 - (1 : Int64)) < (own_thr a).toInt64 then (1 : Int32) else 0)), .val (.long (own_mnL ln lm)), .second, .unset, .unset, .unset, .unset, .unset] [(.long ln)])) (fun _ k_ => XS.lloadN X6.here hx rfl (hb hby at_50) rfl k_) ?_
  refine own_w (T' := T6) (g' := (mkF m 52 #[.val (.int a), .val (.long ln), .second, .val (.long lm), .second, .val (.int (own_thr a)), .val (.ref b2), .val (.int (if ¬ (own_thr a).toInt64 < (own_thr a).toInt64 then (1 : Int32) else 0)), .val (.int (if ¬ ((own_thr a).toInt64 - (1 : Int64)) < (own_thr a).toInt64 then (1 : Int32) else 0)), .val (.long (own_mnL ln lm)), .second, .unset, .unset, .unset, .unset, .unset] [(.long lm), (.long ln)])) (fun _ k_ => XS.lloadN X6.here hx rfl (hb hby at_51) rfl k_) ?_
  obtain ⟨_, _, ⟨T7, L7, k7, n7⟩, -, X7, ⟨Lc7, hQ7, l7, y7, z7⟩, st7⟩ := Jvm.LawKit.callS X6 hx (y := (⟨"java/lang/Math", "max", "(JJ)J"⟩ : MethodName)) hown (mvT hZ (hw _ (List.mem_of_getElem? (i := 29) rfl))) (mvT hZ (hw _ (List.mem_of_getElem? (i := 30) rfl))) (mvT hZ (hw _ (List.mem_of_getElem? (i := 3) rfl))) (mvT hZ (hw _ (List.mem_of_getElem? (i := 31) rfl))) (by decide) (backOf (W := 0) (own_rm7 l Z a0 hw [] ln lm  h3 n0 Z3 ) hZ (hw _ (List.mem_of_getElem? (i := 31) rfl)) (hw _ (List.mem_of_getElem? (i := 3) rfl)) (by decide) (by decide)) (g := (mkF m 52 #[.val (.int a), .val (.long ln), .second, .val (.long lm), .second, .val (.int (own_thr a)), .val (.ref b2), .val (.int (if ¬ (own_thr a).toInt64 < (own_thr a).toInt64 then (1 : Int32) else 0)), .val (.int (if ¬ ((own_thr a).toInt64 - (1 : Int64)) < (own_thr a).toInt64 then (1 : Int32) else 0)), .val (.long (own_mnL ln lm)), .second, .unset, .unset, .unset, .unset, .unset] [(.long lm), (.long ln)])) rfl (by rw [hml]; rfl) (argsL := [(.long ln), (.long lm)]) (rest := []) (lenOf own_pd4 rfl) rfl (by show 2 * 0 + _ ≤ _; exact Nat.le_of_eq rfl) (hb hby at_52) (fun _ _ => ⟨rfl, e6, (by decide : 1 + 0 ≤ _), (by decide : 1 + 0 ≤ _)⟩)
  dsimp only [Pt.U, Pt.locs, Pt.cells, Pt.slots] at X7 l7 y7 z7 st7 hQ7
  subst l7 y7 z7
  obtain ⟨rfl, N7q, e7⟩ := hQ7
  have N7 := Fr.app N6 N7q
  refine own_w (T' := T7) (g' := (mkF m 55 #[.val (.int a), .val (.long ln), .second, .val (.long lm), .second, .val (.int (own_thr a)), .val (.ref b2), .val (.int (if ¬ (own_thr a).toInt64 < (own_thr a).toInt64 then (1 : Int32) else 0)), .val (.int (if ¬ ((own_thr a).toInt64 - (1 : Int64)) < (own_thr a).toInt64 then (1 : Int32) else 0)), .val (.long (own_mnL ln lm)), .second, .unset, .unset, .unset, .unset, .unset] [(.long (own_mxL ln lm))])) st7 ?_
  refine own_w (T' := T7) (g' := (mkF m 57 #[.val (.int a), .val (.long ln), .second, .val (.long lm), .second, .val (.int (own_thr a)), .val (.ref b2), .val (.int (if ¬ (own_thr a).toInt64 < (own_thr a).toInt64 then (1 : Int32) else 0)), .val (.int (if ¬ ((own_thr a).toInt64 - (1 : Int64)) < (own_thr a).toInt64 then (1 : Int32) else 0)), .val (.long (own_mnL ln lm)), .second, .val (.long (own_mxL ln lm)), .second, .unset, .unset, .unset] [])) (fun _ k_ => XS.lstore X7.here hx rfl (hb hby at_55) rfl (l' := #[.val (.int a), .val (.long ln), .second, .val (.long lm), .second, .val (.int (own_thr a)), .val (.ref b2), .val (.int (if ¬ (own_thr a).toInt64 < (own_thr a).toInt64 then (1 : Int32) else 0)), .val (.int (if ¬ ((own_thr a).toInt64 - (1 : Int64)) < (own_thr a).toInt64 then (1 : Int32) else 0)), .val (.long (own_mnL ln lm)), .second, .val (.long (own_mxL ln lm)), .second, .unset, .unset, .unset]) rfl k_) ?_
  refine own_w (T' := T7) (g' := (mkF m 59 #[.val (.int a), .val (.long ln), .second, .val (.long lm), .second, .val (.int (own_thr a)), .val (.ref b2), .val (.int (if ¬ (own_thr a).toInt64 < (own_thr a).toInt64 then (1 : Int32) else 0)), .val (.int (if ¬ ((own_thr a).toInt64 - (1 : Int64)) < (own_thr a).toInt64 then (1 : Int32) else 0)), .val (.long (own_mnL ln lm)), .second, .val (.long (own_mxL ln lm)), .second, .unset, .unset, .unset] [(.ref b2)])) (fun _ k_ => XS.aload X7.here hx rfl (hb hby at_57) rfl rfl k_) ?_
  refine own_w (T' := T7) (g' := (mkF m 61 #[.val (.int a), .val (.long ln), .second, .val (.long lm), .second, .val (.int (own_thr a)), .val (.ref b2), .val (.int (if ¬ (own_thr a).toInt64 < (own_thr a).toInt64 then (1 : Int32) else 0)), .val (.int (if ¬ ((own_thr a).toInt64 - (1 : Int64)) < (own_thr a).toInt64 then (1 : Int32) else 0)), .val (.long (own_mnL ln lm)), .second, .val (.long (own_mxL ln lm)), .second, .unset, .unset, .unset] [(.long (own_mnL ln lm)), (.ref b2)])) (fun _ k_ => XS.lload X7.here hx rfl (hb hby at_59) rfl k_) ?_
  obtain ⟨cq8, kq8, q8a, q8b, q8c⟩ := isOf hZ e7 E
  obtain ⟨_, _, ⟨T8, L8, k8, n8⟩, -, X8, ⟨Lc8, hQ8, l8, y8, z8⟩, st8⟩ := X7.virtualBack hx (y := (⟨"com/example/fuda/fuda/domain/LockoutPolicy", "locksAt", "(J)Z"⟩ : MethodName)) (z := (⟨"com/example/fuda/fuda/domain/LockoutPolicy", "locksAt", "(J)Z"⟩ : MethodName)) hown (mvT hZ (hw _ (List.mem_of_getElem? (i := 21) rfl))) (mvT hZ (hw _ (List.mem_of_getElem? (i := 22) rfl))) (notFace_of_selects (args := #[]) (mvT hZ (hw _ (List.mem_of_getElem? (i := 24) rfl)))) (mvT hZ (hw _ (List.mem_of_getElem? (i := 24) rfl))) (mvT hZ (hw _ (List.mem_of_getElem? (i := 23) rfl))) (by decide) (backOf (W := 0) (own_rm5 l Z a0 hw [] b2 (own_mnL ln lm) (own_thr a) h3 n0 Z3 F3) hZ (hw _ (List.mem_of_getElem? (i := 25) rfl)) (hw _ (List.mem_of_getElem? (i := 7) rfl)) (by decide) (by decide)) q8a q8c (g := (mkF m 61 #[.val (.int a), .val (.long ln), .second, .val (.long lm), .second, .val (.int (own_thr a)), .val (.ref b2), .val (.int (if ¬ (own_thr a).toInt64 < (own_thr a).toInt64 then (1 : Int32) else 0)), .val (.int (if ¬ ((own_thr a).toInt64 - (1 : Int64)) < (own_thr a).toInt64 then (1 : Int32) else 0)), .val (.long (own_mnL ln lm)), .second, .val (.long (own_mxL ln lm)), .second, .unset, .unset, .unset] [(.long (own_mnL ln lm)), (.ref b2)])) rfl (by rw [hml]; rfl) (Steps.refl _) (argsL := [(.long (own_mnL ln lm))]) (rest := []) (lenOf own_pd3 rfl) rfl (by show 2 * 0 + _ ≤ _; exact Nat.le_of_eq rfl) (hb hby at_61) (fun _ _ => ⟨rfl, e7, (by decide : 1 + 0 ≤ _), (by decide : 1 + 0 ≤ _)⟩)
  dsimp only [Pt.U, Pt.locs, Pt.cells, Pt.slots] at X8 l8 y8 z8 st8 hQ8
  subst l8 y8 z8
  obtain ⟨rfl, N8q, e8⟩ := hQ8
  have N8 := Fr.app N7 N8q
  refine own_t (T' := T8) (g' := (mkF m 64 #[.val (.int a), .val (.long ln), .second, .val (.long lm), .second, .val (.int (own_thr a)), .val (.ref b2), .val (.int (if ¬ (own_thr a).toInt64 < (own_thr a).toInt64 then (1 : Int32) else 0)), .val (.int (if ¬ ((own_thr a).toInt64 - (1 : Int64)) < (own_thr a).toInt64 then (1 : Int32) else 0)), .val (.long (own_mnL ln lm)), .second, .val (.long (own_mxL ln lm)), .second, .unset, .unset, .unset] [(.int (if ¬ (own_mnL ln lm) < (own_thr a).toInt64 then (1 : Int32) else 0))])) st8 ?_
  refine own_w (T' := T8) (g' := (mkF m 66 #[.val (.int a), .val (.long ln), .second, .val (.long lm), .second, .val (.int (own_thr a)), .val (.ref b2), .val (.int (if ¬ (own_thr a).toInt64 < (own_thr a).toInt64 then (1 : Int32) else 0)), .val (.int (if ¬ ((own_thr a).toInt64 - (1 : Int64)) < (own_thr a).toInt64 then (1 : Int32) else 0)), .val (.long (own_mnL ln lm)), .second, .val (.long (own_mxL ln lm)), .second, .val (.int (if ¬ (own_mnL ln lm) < (own_thr a).toInt64 then (1 : Int32) else 0)), .unset, .unset] [])) (fun _ k_ => XS.istore X8.here hx rfl (hb hby at_64) rfl (l' := #[.val (.int a), .val (.long ln), .second, .val (.long lm), .second, .val (.int (own_thr a)), .val (.ref b2), .val (.int (if ¬ (own_thr a).toInt64 < (own_thr a).toInt64 then (1 : Int32) else 0)), .val (.int (if ¬ ((own_thr a).toInt64 - (1 : Int64)) < (own_thr a).toInt64 then (1 : Int32) else 0)), .val (.long (own_mnL ln lm)), .second, .val (.long (own_mxL ln lm)), .second, .val (.int (if ¬ (own_mnL ln lm) < (own_thr a).toInt64 then (1 : Int32) else 0)), .unset, .unset]) rfl k_) ?_
  refine own_w (T' := T8) (g' := (mkF m 68 #[.val (.int a), .val (.long ln), .second, .val (.long lm), .second, .val (.int (own_thr a)), .val (.ref b2), .val (.int (if ¬ (own_thr a).toInt64 < (own_thr a).toInt64 then (1 : Int32) else 0)), .val (.int (if ¬ ((own_thr a).toInt64 - (1 : Int64)) < (own_thr a).toInt64 then (1 : Int32) else 0)), .val (.long (own_mnL ln lm)), .second, .val (.long (own_mxL ln lm)), .second, .val (.int (if ¬ (own_mnL ln lm) < (own_thr a).toInt64 then (1 : Int32) else 0)), .unset, .unset] [(.ref b2)])) (fun _ k_ => XS.aload X8.here hx rfl (hb hby at_66) rfl rfl k_) ?_
  refine own_w (T' := T8) (g' := (mkF m 70 #[.val (.int a), .val (.long ln), .second, .val (.long lm), .second, .val (.int (own_thr a)), .val (.ref b2), .val (.int (if ¬ (own_thr a).toInt64 < (own_thr a).toInt64 then (1 : Int32) else 0)), .val (.int (if ¬ ((own_thr a).toInt64 - (1 : Int64)) < (own_thr a).toInt64 then (1 : Int32) else 0)), .val (.long (own_mnL ln lm)), .second, .val (.long (own_mxL ln lm)), .second, .val (.int (if ¬ (own_mnL ln lm) < (own_thr a).toInt64 then (1 : Int32) else 0)), .unset, .unset] [(.long (own_mxL ln lm)), (.ref b2)])) (fun _ k_ => XS.lload X8.here hx rfl (hb hby at_68) rfl k_) ?_
  obtain ⟨cq9, kq9, q9a, q9b, q9c⟩ := isOf hZ e8 E
  obtain ⟨_, _, ⟨T9, L9, k9, n9⟩, -, X9, ⟨Lc9, hQ9, l9, y9, z9⟩, st9⟩ := X8.virtualBack hx (y := (⟨"com/example/fuda/fuda/domain/LockoutPolicy", "locksAt", "(J)Z"⟩ : MethodName)) (z := (⟨"com/example/fuda/fuda/domain/LockoutPolicy", "locksAt", "(J)Z"⟩ : MethodName)) hown (mvT hZ (hw _ (List.mem_of_getElem? (i := 21) rfl))) (mvT hZ (hw _ (List.mem_of_getElem? (i := 22) rfl))) (notFace_of_selects (args := #[]) (mvT hZ (hw _ (List.mem_of_getElem? (i := 24) rfl)))) (mvT hZ (hw _ (List.mem_of_getElem? (i := 24) rfl))) (mvT hZ (hw _ (List.mem_of_getElem? (i := 23) rfl))) (by decide) (backOf (W := 0) (own_rm5 l Z a0 hw [] b2 (own_mxL ln lm) (own_thr a) h3 n0 Z3 F3) hZ (hw _ (List.mem_of_getElem? (i := 25) rfl)) (hw _ (List.mem_of_getElem? (i := 7) rfl)) (by decide) (by decide)) q9a q9c (g := (mkF m 70 #[.val (.int a), .val (.long ln), .second, .val (.long lm), .second, .val (.int (own_thr a)), .val (.ref b2), .val (.int (if ¬ (own_thr a).toInt64 < (own_thr a).toInt64 then (1 : Int32) else 0)), .val (.int (if ¬ ((own_thr a).toInt64 - (1 : Int64)) < (own_thr a).toInt64 then (1 : Int32) else 0)), .val (.long (own_mnL ln lm)), .second, .val (.long (own_mxL ln lm)), .second, .val (.int (if ¬ (own_mnL ln lm) < (own_thr a).toInt64 then (1 : Int32) else 0)), .unset, .unset] [(.long (own_mxL ln lm)), (.ref b2)])) rfl (by rw [hml]; rfl) (Steps.refl _) (argsL := [(.long (own_mxL ln lm))]) (rest := []) (lenOf own_pd3 rfl) rfl (by show 2 * 0 + _ ≤ _; exact Nat.le_of_eq rfl) (hb hby at_70) (fun _ _ => ⟨rfl, e8, (by decide : 1 + 0 ≤ _), (by decide : 1 + 0 ≤ _)⟩)
  dsimp only [Pt.U, Pt.locs, Pt.cells, Pt.slots] at X9 l9 y9 z9 st9 hQ9
  subst l9 y9 z9
  obtain ⟨rfl, N9q, e9⟩ := hQ9
  have N9 := Fr.app N8 N9q
  refine own_t (T' := T9) (g' := (mkF m 73 #[.val (.int a), .val (.long ln), .second, .val (.long lm), .second, .val (.int (own_thr a)), .val (.ref b2), .val (.int (if ¬ (own_thr a).toInt64 < (own_thr a).toInt64 then (1 : Int32) else 0)), .val (.int (if ¬ ((own_thr a).toInt64 - (1 : Int64)) < (own_thr a).toInt64 then (1 : Int32) else 0)), .val (.long (own_mnL ln lm)), .second, .val (.long (own_mxL ln lm)), .second, .val (.int (if ¬ (own_mnL ln lm) < (own_thr a).toInt64 then (1 : Int32) else 0)), .unset, .unset] [(.int (if ¬ (own_mxL ln lm) < (own_thr a).toInt64 then (1 : Int32) else 0))])) st9 ?_
  refine own_w (T' := T9) (g' := (mkF m 75 #[.val (.int a), .val (.long ln), .second, .val (.long lm), .second, .val (.int (own_thr a)), .val (.ref b2), .val (.int (if ¬ (own_thr a).toInt64 < (own_thr a).toInt64 then (1 : Int32) else 0)), .val (.int (if ¬ ((own_thr a).toInt64 - (1 : Int64)) < (own_thr a).toInt64 then (1 : Int32) else 0)), .val (.long (own_mnL ln lm)), .second, .val (.long (own_mxL ln lm)), .second, .val (.int (if ¬ (own_mnL ln lm) < (own_thr a).toInt64 then (1 : Int32) else 0)), .val (.int (if ¬ (own_mxL ln lm) < (own_thr a).toInt64 then (1 : Int32) else 0)), .unset] [])) (fun _ k_ => XS.istore X9.here hx rfl (hb hby at_73) rfl (l' := #[.val (.int a), .val (.long ln), .second, .val (.long lm), .second, .val (.int (own_thr a)), .val (.ref b2), .val (.int (if ¬ (own_thr a).toInt64 < (own_thr a).toInt64 then (1 : Int32) else 0)), .val (.int (if ¬ ((own_thr a).toInt64 - (1 : Int64)) < (own_thr a).toInt64 then (1 : Int32) else 0)), .val (.long (own_mnL ln lm)), .second, .val (.long (own_mxL ln lm)), .second, .val (.int (if ¬ (own_mnL ln lm) < (own_thr a).toInt64 then (1 : Int32) else 0)), .val (.int (if ¬ (own_mxL ln lm) < (own_thr a).toInt64 then (1 : Int32) else 0)), .unset]) rfl k_) ?_
  refine own_w (T' := T9) (g' := (mkF m 77 #[.val (.int a), .val (.long ln), .second, .val (.long lm), .second, .val (.int (own_thr a)), .val (.ref b2), .val (.int (if ¬ (own_thr a).toInt64 < (own_thr a).toInt64 then (1 : Int32) else 0)), .val (.int (if ¬ ((own_thr a).toInt64 - (1 : Int64)) < (own_thr a).toInt64 then (1 : Int32) else 0)), .val (.long (own_mnL ln lm)), .second, .val (.long (own_mxL ln lm)), .second, .val (.int (if ¬ (own_mnL ln lm) < (own_thr a).toInt64 then (1 : Int32) else 0)), .val (.int (if ¬ (own_mxL ln lm) < (own_thr a).toInt64 then (1 : Int32) else 0)), .unset] [(.int (if ¬ (own_mnL ln lm) < (own_thr a).toInt64 then (1 : Int32) else 0))])) (fun _ k_ => XS.iload X9.here hx rfl (hb hby at_75) rfl k_) ?_
  by_cases hc77 : ¬ (own_mnL ln lm) < (own_thr a).toInt64
  · refine own_w (T' := T9) (g' := (mkF m 80 #[.val (.int a), .val (.long ln), .second, .val (.long lm), .second, .val (.int (own_thr a)), .val (.ref b2), .val (.int (if ¬ (own_thr a).toInt64 < (own_thr a).toInt64 then (1 : Int32) else 0)), .val (.int (if ¬ ((own_thr a).toInt64 - (1 : Int64)) < (own_thr a).toInt64 then (1 : Int32) else 0)), .val (.long (own_mnL ln lm)), .second, .val (.long (own_mxL ln lm)), .second, .val (.int (if ¬ (own_mnL ln lm) < (own_thr a).toInt64 then (1 : Int32) else 0)), .val (.int (if ¬ (own_mxL ln lm) < (own_thr a).toInt64 then (1 : Int32) else 0)), .unset] [])) (fun _ k_ => XS.ifNo X9.here hx rfl (hb hby at_77) rfl ((if0 _ _).trans (feq (fun q => (own_ite0.mp q) (show (¬ (own_mnL ln lm) < (own_thr a).toInt64) from hc77))).1) k_) ?_
    refine own_w (T' := T9) (g' := (mkF m 82 #[.val (.int a), .val (.long ln), .second, .val (.long lm), .second, .val (.int (own_thr a)), .val (.ref b2), .val (.int (if ¬ (own_thr a).toInt64 < (own_thr a).toInt64 then (1 : Int32) else 0)), .val (.int (if ¬ ((own_thr a).toInt64 - (1 : Int64)) < (own_thr a).toInt64 then (1 : Int32) else 0)), .val (.long (own_mnL ln lm)), .second, .val (.long (own_mxL ln lm)), .second, .val (.int (if ¬ (own_mnL ln lm) < (own_thr a).toInt64 then (1 : Int32) else 0)), .val (.int (if ¬ (own_mxL ln lm) < (own_thr a).toInt64 then (1 : Int32) else 0)), .unset] [(.int (if ¬ (own_mxL ln lm) < (own_thr a).toInt64 then (1 : Int32) else 0))])) (fun _ k_ => XS.iload X9.here hx rfl (hb hby at_80) rfl k_) ?_
    refine own_w (T' := T9) (g' := (mkF m 85 #[.val (.int a), .val (.long ln), .second, .val (.long lm), .second, .val (.int (own_thr a)), .val (.ref b2), .val (.int (if ¬ (own_thr a).toInt64 < (own_thr a).toInt64 then (1 : Int32) else 0)), .val (.int (if ¬ ((own_thr a).toInt64 - (1 : Int64)) < (own_thr a).toInt64 then (1 : Int32) else 0)), .val (.long (own_mnL ln lm)), .second, .val (.long (own_mxL ln lm)), .second, .val (.int (if ¬ (own_mnL ln lm) < (own_thr a).toInt64 then (1 : Int32) else 0)), .val (.int (if ¬ (own_mxL ln lm) < (own_thr a).toInt64 then (1 : Int32) else 0)), .unset] [])) (fun _ k_ => XS.ifNo X9.here hx rfl (hb hby at_82) rfl ((if0 _ _).trans (feq (fun q => (own_ite0.mp q) (show (¬ (own_mxL ln lm) < (own_thr a).toInt64) from (own_mono hc77)))).1) k_) ?_
    refine own_w (T' := T9) (g' := (mkF m 86 #[.val (.int a), .val (.long ln), .second, .val (.long lm), .second, .val (.int (own_thr a)), .val (.ref b2), .val (.int (if ¬ (own_thr a).toInt64 < (own_thr a).toInt64 then (1 : Int32) else 0)), .val (.int (if ¬ ((own_thr a).toInt64 - (1 : Int64)) < (own_thr a).toInt64 then (1 : Int32) else 0)), .val (.long (own_mnL ln lm)), .second, .val (.long (own_mxL ln lm)), .second, .val (.int (if ¬ (own_mnL ln lm) < (own_thr a).toInt64 then (1 : Int32) else 0)), .val (.int (if ¬ (own_mxL ln lm) < (own_thr a).toInt64 then (1 : Int32) else 0)), .unset] [(.int (1 : Int32))])) (fun _ k_ => XS.iconst X9.here hx rfl (hb hby at_85) k_) ?_
    refine own_w (T' := T9) (g' := (mkF m 90 #[.val (.int a), .val (.long ln), .second, .val (.long lm), .second, .val (.int (own_thr a)), .val (.ref b2), .val (.int (if ¬ (own_thr a).toInt64 < (own_thr a).toInt64 then (1 : Int32) else 0)), .val (.int (if ¬ ((own_thr a).toInt64 - (1 : Int64)) < (own_thr a).toInt64 then (1 : Int32) else 0)), .val (.long (own_mnL ln lm)), .second, .val (.long (own_mxL ln lm)), .second, .val (.int (if ¬ (own_mnL ln lm) < (own_thr a).toInt64 then (1 : Int32) else 0)), .val (.int (if ¬ (own_mxL ln lm) < (own_thr a).toInt64 then (1 : Int32) else 0)), .unset] [(.int (1 : Int32))])) (fun _ k_ => XS.goto X9.here hx rfl (pc0 := 86) (pc' := 90) rfl (hb hby at_86) (by decide) (by decide) k_) ?_
    refine own_w (T' := T9) (g' := (mkF m 92 #[.val (.int a), .val (.long ln), .second, .val (.long lm), .second, .val (.int (own_thr a)), .val (.ref b2), .val (.int (if ¬ (own_thr a).toInt64 < (own_thr a).toInt64 then (1 : Int32) else 0)), .val (.int (if ¬ ((own_thr a).toInt64 - (1 : Int64)) < (own_thr a).toInt64 then (1 : Int32) else 0)), .val (.long (own_mnL ln lm)), .second, .val (.long (own_mxL ln lm)), .second, .val (.int (if ¬ (own_mnL ln lm) < (own_thr a).toInt64 then (1 : Int32) else 0)), .val (.int (if ¬ (own_mxL ln lm) < (own_thr a).toInt64 then (1 : Int32) else 0)), .val (.int (1 : Int32))] [])) (fun _ k_ => XS.istore X9.here hx rfl (hb hby at_90) rfl (l' := #[.val (.int a), .val (.long ln), .second, .val (.long lm), .second, .val (.int (own_thr a)), .val (.ref b2), .val (.int (if ¬ (own_thr a).toInt64 < (own_thr a).toInt64 then (1 : Int32) else 0)), .val (.int (if ¬ ((own_thr a).toInt64 - (1 : Int64)) < (own_thr a).toInt64 then (1 : Int32) else 0)), .val (.long (own_mnL ln lm)), .second, .val (.long (own_mxL ln lm)), .second, .val (.int (if ¬ (own_mnL ln lm) < (own_thr a).toInt64 then (1 : Int32) else 0)), .val (.int (if ¬ (own_mxL ln lm) < (own_thr a).toInt64 then (1 : Int32) else 0)), .val (.int (1 : Int32))]) rfl k_) ?_
    refine own_w (T' := T9) (g' := (mkF m 94 #[.val (.int a), .val (.long ln), .second, .val (.long lm), .second, .val (.int (own_thr a)), .val (.ref b2), .val (.int (if ¬ (own_thr a).toInt64 < (own_thr a).toInt64 then (1 : Int32) else 0)), .val (.int (if ¬ ((own_thr a).toInt64 - (1 : Int64)) < (own_thr a).toInt64 then (1 : Int32) else 0)), .val (.long (own_mnL ln lm)), .second, .val (.long (own_mxL ln lm)), .second, .val (.int (if ¬ (own_mnL ln lm) < (own_thr a).toInt64 then (1 : Int32) else 0)), .val (.int (if ¬ (own_mxL ln lm) < (own_thr a).toInt64 then (1 : Int32) else 0)), .val (.int (1 : Int32))] [(.int (if ¬ (own_thr a).toInt64 < (own_thr a).toInt64 then (1 : Int32) else 0))])) (fun _ k_ => XS.iload X9.here hx rfl (hb hby at_92) rfl k_) ?_
    refine own_w (T' := T9) (g' := (mkF m 97 #[.val (.int a), .val (.long ln), .second, .val (.long lm), .second, .val (.int (own_thr a)), .val (.ref b2), .val (.int (if ¬ (own_thr a).toInt64 < (own_thr a).toInt64 then (1 : Int32) else 0)), .val (.int (if ¬ ((own_thr a).toInt64 - (1 : Int64)) < (own_thr a).toInt64 then (1 : Int32) else 0)), .val (.long (own_mnL ln lm)), .second, .val (.long (own_mxL ln lm)), .second, .val (.int (if ¬ (own_mnL ln lm) < (own_thr a).toInt64 then (1 : Int32) else 0)), .val (.int (if ¬ (own_mxL ln lm) < (own_thr a).toInt64 then (1 : Int32) else 0)), .val (.int (1 : Int32))] [])) (fun _ k_ => XS.ifNo X9.here hx rfl (hb hby at_94) rfl ((if0 _ _).trans (feq (fun q => (own_ite0.mp q) (show (¬ (own_thr a).toInt64 < (own_thr a).toInt64) from Int64.lt_irrefl))).1) k_) ?_
    refine own_w (T' := T9) (g' := (mkF m 99 #[.val (.int a), .val (.long ln), .second, .val (.long lm), .second, .val (.int (own_thr a)), .val (.ref b2), .val (.int (if ¬ (own_thr a).toInt64 < (own_thr a).toInt64 then (1 : Int32) else 0)), .val (.int (if ¬ ((own_thr a).toInt64 - (1 : Int64)) < (own_thr a).toInt64 then (1 : Int32) else 0)), .val (.long (own_mnL ln lm)), .second, .val (.long (own_mxL ln lm)), .second, .val (.int (if ¬ (own_mnL ln lm) < (own_thr a).toInt64 then (1 : Int32) else 0)), .val (.int (if ¬ (own_mxL ln lm) < (own_thr a).toInt64 then (1 : Int32) else 0)), .val (.int (1 : Int32))] [(.int (if ¬ ((own_thr a).toInt64 - (1 : Int64)) < (own_thr a).toInt64 then (1 : Int32) else 0))])) (fun _ k_ => XS.iload X9.here hx rfl (hb hby at_97) rfl k_) ?_
    refine own_w (T' := T9) (g' := (mkF m 102 #[.val (.int a), .val (.long ln), .second, .val (.long lm), .second, .val (.int (own_thr a)), .val (.ref b2), .val (.int (if ¬ (own_thr a).toInt64 < (own_thr a).toInt64 then (1 : Int32) else 0)), .val (.int (if ¬ ((own_thr a).toInt64 - (1 : Int64)) < (own_thr a).toInt64 then (1 : Int32) else 0)), .val (.long (own_mnL ln lm)), .second, .val (.long (own_mxL ln lm)), .second, .val (.int (if ¬ (own_mnL ln lm) < (own_thr a).toInt64 then (1 : Int32) else 0)), .val (.int (if ¬ (own_mxL ln lm) < (own_thr a).toInt64 then (1 : Int32) else 0)), .val (.int (1 : Int32))] [])) (fun _ k_ => XS.ifNo X9.here hx rfl (hb hby at_99) rfl ((if0 _ _).trans (teq (own_ite0.mpr (show ¬ (¬ ((own_thr a).toInt64 - (1 : Int64)) < (own_thr a).toInt64) from (fun q => q (own_lt _))))).2) k_) ?_
    refine own_w (T' := T9) (g' := (mkF m 104 #[.val (.int a), .val (.long ln), .second, .val (.long lm), .second, .val (.int (own_thr a)), .val (.ref b2), .val (.int (if ¬ (own_thr a).toInt64 < (own_thr a).toInt64 then (1 : Int32) else 0)), .val (.int (if ¬ ((own_thr a).toInt64 - (1 : Int64)) < (own_thr a).toInt64 then (1 : Int32) else 0)), .val (.long (own_mnL ln lm)), .second, .val (.long (own_mxL ln lm)), .second, .val (.int (if ¬ (own_mnL ln lm) < (own_thr a).toInt64 then (1 : Int32) else 0)), .val (.int (if ¬ (own_mxL ln lm) < (own_thr a).toInt64 then (1 : Int32) else 0)), .val (.int (1 : Int32))] [(.int (1 : Int32))])) (fun _ k_ => XS.iload X9.here hx rfl (hb hby at_102) rfl k_) ?_
    refine own_w (T' := T9) (g' := (mkF m 107 #[.val (.int a), .val (.long ln), .second, .val (.long lm), .second, .val (.int (own_thr a)), .val (.ref b2), .val (.int (if ¬ (own_thr a).toInt64 < (own_thr a).toInt64 then (1 : Int32) else 0)), .val (.int (if ¬ ((own_thr a).toInt64 - (1 : Int64)) < (own_thr a).toInt64 then (1 : Int32) else 0)), .val (.long (own_mnL ln lm)), .second, .val (.long (own_mxL ln lm)), .second, .val (.int (if ¬ (own_mnL ln lm) < (own_thr a).toInt64 then (1 : Int32) else 0)), .val (.int (if ¬ (own_mxL ln lm) < (own_thr a).toInt64 then (1 : Int32) else 0)), .val (.int (1 : Int32))] [])) (fun _ k_ => XS.ifNo X9.here hx rfl (hb hby at_104) rfl ((if0 _ _).trans (feq (by decide)).1) k_) ?_
    refine own_w (T' := T9) (g' := (mkF m 108 #[.val (.int a), .val (.long ln), .second, .val (.long lm), .second, .val (.int (own_thr a)), .val (.ref b2), .val (.int (if ¬ (own_thr a).toInt64 < (own_thr a).toInt64 then (1 : Int32) else 0)), .val (.int (if ¬ ((own_thr a).toInt64 - (1 : Int64)) < (own_thr a).toInt64 then (1 : Int32) else 0)), .val (.long (own_mnL ln lm)), .second, .val (.long (own_mxL ln lm)), .second, .val (.int (if ¬ (own_mnL ln lm) < (own_thr a).toInt64 then (1 : Int32) else 0)), .val (.int (if ¬ (own_mxL ln lm) < (own_thr a).toInt64 then (1 : Int32) else 0)), .val (.int (1 : Int32))] [(.int (1 : Int32))])) (fun _ k_ => XS.iconst X9.here hx rfl (hb hby at_107) k_) ?_
    refine own_w (T' := T9) (g' := (mkF m 112 #[.val (.int a), .val (.long ln), .second, .val (.long lm), .second, .val (.int (own_thr a)), .val (.ref b2), .val (.int (if ¬ (own_thr a).toInt64 < (own_thr a).toInt64 then (1 : Int32) else 0)), .val (.int (if ¬ ((own_thr a).toInt64 - (1 : Int64)) < (own_thr a).toInt64 then (1 : Int32) else 0)), .val (.long (own_mnL ln lm)), .second, .val (.long (own_mxL ln lm)), .second, .val (.int (if ¬ (own_mnL ln lm) < (own_thr a).toInt64 then (1 : Int32) else 0)), .val (.int (if ¬ (own_mxL ln lm) < (own_thr a).toInt64 then (1 : Int32) else 0)), .val (.int (1 : Int32))] [(.int (1 : Int32))])) (fun _ k_ => XS.goto X9.here hx rfl (pc0 := 108) (pc' := 112) rfl (hb hby at_108) (by decide) (by decide) k_) ?_
    obtain ⟨fs, hr, hrun, hended, hW, hsame⟩ := X9.leave (v := some (.int (1 : Int32))) (fun h => by rw [Bd.returns] at h; cases h)
    exact ⟨_, _, retOut X9 hx Bd.returns rfl (Or.inl ⟨rfl, Or.inr (Or.inl rfl), _, rfl⟩) (hb hby at_112) hr, hrun, hended, _, _, rfl, (by show own_Q0 Z a ln lm h0 n0 _ T9.heap _; rw [e9]; exact ⟨rfl, N9⟩), ⟨_, rfl⟩, hW, hsame.mono (by decide) (by decide)⟩
  · refine own_w (T' := T9) (g' := (mkF m 85 #[.val (.int a), .val (.long ln), .second, .val (.long lm), .second, .val (.int (own_thr a)), .val (.ref b2), .val (.int (if ¬ (own_thr a).toInt64 < (own_thr a).toInt64 then (1 : Int32) else 0)), .val (.int (if ¬ ((own_thr a).toInt64 - (1 : Int64)) < (own_thr a).toInt64 then (1 : Int32) else 0)), .val (.long (own_mnL ln lm)), .second, .val (.long (own_mxL ln lm)), .second, .val (.int (if ¬ (own_mnL ln lm) < (own_thr a).toInt64 then (1 : Int32) else 0)), .val (.int (if ¬ (own_mxL ln lm) < (own_thr a).toInt64 then (1 : Int32) else 0)), .unset] [])) (fun _ k_ => XS.ifYes X9.here hx rfl (pc0 := 77) (pc' := 85) rfl (hb hby at_77) rfl ((if0 _ _).trans (teq (own_ite0.mpr (show ¬ (¬ (own_mnL ln lm) < (own_thr a).toInt64) from hc77))).1) (by decide) (by decide) k_) ?_
    refine own_w (T' := T9) (g' := (mkF m 86 #[.val (.int a), .val (.long ln), .second, .val (.long lm), .second, .val (.int (own_thr a)), .val (.ref b2), .val (.int (if ¬ (own_thr a).toInt64 < (own_thr a).toInt64 then (1 : Int32) else 0)), .val (.int (if ¬ ((own_thr a).toInt64 - (1 : Int64)) < (own_thr a).toInt64 then (1 : Int32) else 0)), .val (.long (own_mnL ln lm)), .second, .val (.long (own_mxL ln lm)), .second, .val (.int (if ¬ (own_mnL ln lm) < (own_thr a).toInt64 then (1 : Int32) else 0)), .val (.int (if ¬ (own_mxL ln lm) < (own_thr a).toInt64 then (1 : Int32) else 0)), .unset] [(.int (1 : Int32))])) (fun _ k_ => XS.iconst X9.here hx rfl (hb hby at_85) k_) ?_
    refine own_w (T' := T9) (g' := (mkF m 90 #[.val (.int a), .val (.long ln), .second, .val (.long lm), .second, .val (.int (own_thr a)), .val (.ref b2), .val (.int (if ¬ (own_thr a).toInt64 < (own_thr a).toInt64 then (1 : Int32) else 0)), .val (.int (if ¬ ((own_thr a).toInt64 - (1 : Int64)) < (own_thr a).toInt64 then (1 : Int32) else 0)), .val (.long (own_mnL ln lm)), .second, .val (.long (own_mxL ln lm)), .second, .val (.int (if ¬ (own_mnL ln lm) < (own_thr a).toInt64 then (1 : Int32) else 0)), .val (.int (if ¬ (own_mxL ln lm) < (own_thr a).toInt64 then (1 : Int32) else 0)), .unset] [(.int (1 : Int32))])) (fun _ k_ => XS.goto X9.here hx rfl (pc0 := 86) (pc' := 90) rfl (hb hby at_86) (by decide) (by decide) k_) ?_
    refine own_w (T' := T9) (g' := (mkF m 92 #[.val (.int a), .val (.long ln), .second, .val (.long lm), .second, .val (.int (own_thr a)), .val (.ref b2), .val (.int (if ¬ (own_thr a).toInt64 < (own_thr a).toInt64 then (1 : Int32) else 0)), .val (.int (if ¬ ((own_thr a).toInt64 - (1 : Int64)) < (own_thr a).toInt64 then (1 : Int32) else 0)), .val (.long (own_mnL ln lm)), .second, .val (.long (own_mxL ln lm)), .second, .val (.int (if ¬ (own_mnL ln lm) < (own_thr a).toInt64 then (1 : Int32) else 0)), .val (.int (if ¬ (own_mxL ln lm) < (own_thr a).toInt64 then (1 : Int32) else 0)), .val (.int (1 : Int32))] [])) (fun _ k_ => XS.istore X9.here hx rfl (hb hby at_90) rfl (l' := #[.val (.int a), .val (.long ln), .second, .val (.long lm), .second, .val (.int (own_thr a)), .val (.ref b2), .val (.int (if ¬ (own_thr a).toInt64 < (own_thr a).toInt64 then (1 : Int32) else 0)), .val (.int (if ¬ ((own_thr a).toInt64 - (1 : Int64)) < (own_thr a).toInt64 then (1 : Int32) else 0)), .val (.long (own_mnL ln lm)), .second, .val (.long (own_mxL ln lm)), .second, .val (.int (if ¬ (own_mnL ln lm) < (own_thr a).toInt64 then (1 : Int32) else 0)), .val (.int (if ¬ (own_mxL ln lm) < (own_thr a).toInt64 then (1 : Int32) else 0)), .val (.int (1 : Int32))]) rfl k_) ?_
    refine own_w (T' := T9) (g' := (mkF m 94 #[.val (.int a), .val (.long ln), .second, .val (.long lm), .second, .val (.int (own_thr a)), .val (.ref b2), .val (.int (if ¬ (own_thr a).toInt64 < (own_thr a).toInt64 then (1 : Int32) else 0)), .val (.int (if ¬ ((own_thr a).toInt64 - (1 : Int64)) < (own_thr a).toInt64 then (1 : Int32) else 0)), .val (.long (own_mnL ln lm)), .second, .val (.long (own_mxL ln lm)), .second, .val (.int (if ¬ (own_mnL ln lm) < (own_thr a).toInt64 then (1 : Int32) else 0)), .val (.int (if ¬ (own_mxL ln lm) < (own_thr a).toInt64 then (1 : Int32) else 0)), .val (.int (1 : Int32))] [(.int (if ¬ (own_thr a).toInt64 < (own_thr a).toInt64 then (1 : Int32) else 0))])) (fun _ k_ => XS.iload X9.here hx rfl (hb hby at_92) rfl k_) ?_
    refine own_w (T' := T9) (g' := (mkF m 97 #[.val (.int a), .val (.long ln), .second, .val (.long lm), .second, .val (.int (own_thr a)), .val (.ref b2), .val (.int (if ¬ (own_thr a).toInt64 < (own_thr a).toInt64 then (1 : Int32) else 0)), .val (.int (if ¬ ((own_thr a).toInt64 - (1 : Int64)) < (own_thr a).toInt64 then (1 : Int32) else 0)), .val (.long (own_mnL ln lm)), .second, .val (.long (own_mxL ln lm)), .second, .val (.int (if ¬ (own_mnL ln lm) < (own_thr a).toInt64 then (1 : Int32) else 0)), .val (.int (if ¬ (own_mxL ln lm) < (own_thr a).toInt64 then (1 : Int32) else 0)), .val (.int (1 : Int32))] [])) (fun _ k_ => XS.ifNo X9.here hx rfl (hb hby at_94) rfl ((if0 _ _).trans (feq (fun q => (own_ite0.mp q) (show (¬ (own_thr a).toInt64 < (own_thr a).toInt64) from Int64.lt_irrefl))).1) k_) ?_
    refine own_w (T' := T9) (g' := (mkF m 99 #[.val (.int a), .val (.long ln), .second, .val (.long lm), .second, .val (.int (own_thr a)), .val (.ref b2), .val (.int (if ¬ (own_thr a).toInt64 < (own_thr a).toInt64 then (1 : Int32) else 0)), .val (.int (if ¬ ((own_thr a).toInt64 - (1 : Int64)) < (own_thr a).toInt64 then (1 : Int32) else 0)), .val (.long (own_mnL ln lm)), .second, .val (.long (own_mxL ln lm)), .second, .val (.int (if ¬ (own_mnL ln lm) < (own_thr a).toInt64 then (1 : Int32) else 0)), .val (.int (if ¬ (own_mxL ln lm) < (own_thr a).toInt64 then (1 : Int32) else 0)), .val (.int (1 : Int32))] [(.int (if ¬ ((own_thr a).toInt64 - (1 : Int64)) < (own_thr a).toInt64 then (1 : Int32) else 0))])) (fun _ k_ => XS.iload X9.here hx rfl (hb hby at_97) rfl k_) ?_
    refine own_w (T' := T9) (g' := (mkF m 102 #[.val (.int a), .val (.long ln), .second, .val (.long lm), .second, .val (.int (own_thr a)), .val (.ref b2), .val (.int (if ¬ (own_thr a).toInt64 < (own_thr a).toInt64 then (1 : Int32) else 0)), .val (.int (if ¬ ((own_thr a).toInt64 - (1 : Int64)) < (own_thr a).toInt64 then (1 : Int32) else 0)), .val (.long (own_mnL ln lm)), .second, .val (.long (own_mxL ln lm)), .second, .val (.int (if ¬ (own_mnL ln lm) < (own_thr a).toInt64 then (1 : Int32) else 0)), .val (.int (if ¬ (own_mxL ln lm) < (own_thr a).toInt64 then (1 : Int32) else 0)), .val (.int (1 : Int32))] [])) (fun _ k_ => XS.ifNo X9.here hx rfl (hb hby at_99) rfl ((if0 _ _).trans (teq (own_ite0.mpr (show ¬ (¬ ((own_thr a).toInt64 - (1 : Int64)) < (own_thr a).toInt64) from (fun q => q (own_lt _))))).2) k_) ?_
    refine own_w (T' := T9) (g' := (mkF m 104 #[.val (.int a), .val (.long ln), .second, .val (.long lm), .second, .val (.int (own_thr a)), .val (.ref b2), .val (.int (if ¬ (own_thr a).toInt64 < (own_thr a).toInt64 then (1 : Int32) else 0)), .val (.int (if ¬ ((own_thr a).toInt64 - (1 : Int64)) < (own_thr a).toInt64 then (1 : Int32) else 0)), .val (.long (own_mnL ln lm)), .second, .val (.long (own_mxL ln lm)), .second, .val (.int (if ¬ (own_mnL ln lm) < (own_thr a).toInt64 then (1 : Int32) else 0)), .val (.int (if ¬ (own_mxL ln lm) < (own_thr a).toInt64 then (1 : Int32) else 0)), .val (.int (1 : Int32))] [(.int (1 : Int32))])) (fun _ k_ => XS.iload X9.here hx rfl (hb hby at_102) rfl k_) ?_
    refine own_w (T' := T9) (g' := (mkF m 107 #[.val (.int a), .val (.long ln), .second, .val (.long lm), .second, .val (.int (own_thr a)), .val (.ref b2), .val (.int (if ¬ (own_thr a).toInt64 < (own_thr a).toInt64 then (1 : Int32) else 0)), .val (.int (if ¬ ((own_thr a).toInt64 - (1 : Int64)) < (own_thr a).toInt64 then (1 : Int32) else 0)), .val (.long (own_mnL ln lm)), .second, .val (.long (own_mxL ln lm)), .second, .val (.int (if ¬ (own_mnL ln lm) < (own_thr a).toInt64 then (1 : Int32) else 0)), .val (.int (if ¬ (own_mxL ln lm) < (own_thr a).toInt64 then (1 : Int32) else 0)), .val (.int (1 : Int32))] [])) (fun _ k_ => XS.ifNo X9.here hx rfl (hb hby at_104) rfl ((if0 _ _).trans (feq (by decide)).1) k_) ?_
    refine own_w (T' := T9) (g' := (mkF m 108 #[.val (.int a), .val (.long ln), .second, .val (.long lm), .second, .val (.int (own_thr a)), .val (.ref b2), .val (.int (if ¬ (own_thr a).toInt64 < (own_thr a).toInt64 then (1 : Int32) else 0)), .val (.int (if ¬ ((own_thr a).toInt64 - (1 : Int64)) < (own_thr a).toInt64 then (1 : Int32) else 0)), .val (.long (own_mnL ln lm)), .second, .val (.long (own_mxL ln lm)), .second, .val (.int (if ¬ (own_mnL ln lm) < (own_thr a).toInt64 then (1 : Int32) else 0)), .val (.int (if ¬ (own_mxL ln lm) < (own_thr a).toInt64 then (1 : Int32) else 0)), .val (.int (1 : Int32))] [(.int (1 : Int32))])) (fun _ k_ => XS.iconst X9.here hx rfl (hb hby at_107) k_) ?_
    refine own_w (T' := T9) (g' := (mkF m 112 #[.val (.int a), .val (.long ln), .second, .val (.long lm), .second, .val (.int (own_thr a)), .val (.ref b2), .val (.int (if ¬ (own_thr a).toInt64 < (own_thr a).toInt64 then (1 : Int32) else 0)), .val (.int (if ¬ ((own_thr a).toInt64 - (1 : Int64)) < (own_thr a).toInt64 then (1 : Int32) else 0)), .val (.long (own_mnL ln lm)), .second, .val (.long (own_mxL ln lm)), .second, .val (.int (if ¬ (own_mnL ln lm) < (own_thr a).toInt64 then (1 : Int32) else 0)), .val (.int (if ¬ (own_mxL ln lm) < (own_thr a).toInt64 then (1 : Int32) else 0)), .val (.int (1 : Int32))] [(.int (1 : Int32))])) (fun _ k_ => XS.goto X9.here hx rfl (pc0 := 108) (pc' := 112) rfl (hb hby at_108) (by decide) (by decide) k_) ?_
    obtain ⟨fs, hr, hrun, hended, hW, hsame⟩ := X9.leave (v := some (.int (1 : Int32))) (fun h => by rw [Bd.returns] at h; cases h)
    exact ⟨_, _, retOut X9 hx Bd.returns rfl (Or.inl ⟨rfl, Or.inr (Or.inl rfl), _, rfl⟩) (hb hby at_112) hr, hrun, hended, _, _, rfl, (by show own_Q0 Z a ln lm h0 n0 _ T9.heap _; rw [e9]; exact ⟨rfl, N9⟩), ⟨_, rfl⟩, hW, hsame.mono (by decide) (by decide)⟩
set_option maxRecDepth 65536 in
set_option maxHeartbeats 40000000 in
theorem comes_1 {Post : Tables → Env → Array Value → State → Outcome → State → Prop} (hpost : ∀ tb e args s v u, (limb_1_1.after args s (.returned v) u = true ∧ limb_1_2.after args s (.returned v) u = true ∧ True) → FrameEnd s (.returned v) u (Jvm.fieldLocs frame_1_writes args s ++ Jvm.arrayLocs frame_1_arrays args s ++ Jvm.staticLocs frame_1_statics s) 16 128 → Post tb e args s (.returned v) u) :
    ArmFor flags0 classFile x code maxLocals ret World_1 tables_1 room_1 Calls_1 rest_1 Pre_1 Post := by
  intro l hfl _ _ p e ha hc hk s m args below hf hA hF happ hP
  obtain ⟨hcalls, hrest, hpre⟩ := hP
  obtain ⟨-, -, -, hnamed, -, -, -, hat⟩ := (Spec.applies_iff hf).mp happ
  obtain ⟨hg, hn⟩ := and_e (Cond.before_iff.mp (show (Jvm.Cond.and given_1 narrow_1).before args s = true from hpre))
  obtain ⟨hcount, hr0⟩ := and_e hg
  obtain ⟨ga0, hr1⟩ := and_e hr0
  obtain ⟨ga1, hr2⟩ := and_e hr1
  have ga2 := hr2
  obtain ⟨w0, w1, w2, rfl⟩ : ∃ w0 w1 w2 : Value, args = #[w0, w1, w2] := by
    have hs : args.size = 3 := by simpa [Cond.value, given_1] using hcount
    obtain ⟨L⟩ := args
    match L, hs with
    | [w0, w1, w2], _ => exact ⟨w0, w1, w2, rfl⟩
  have hw := fun d (hd : d ∈ tables_1) => atoms_spec (ws := Jvm.Cond.code x code maxLocals ret :: tables_1) hat d (List.mem_cons_of_mem _ hd)
  obtain ⟨i0, ei0⟩ := is_v ga0
  obtain rfl : w0 = (.int i0) := Option.some.inj ei0
  obtain ⟨i1, ei1⟩ := isL_v ga1
  obtain rfl : w1 = (.long i1) := Option.some.inj ei1
  obtain ⟨i2, ei2⟩ := isL_v ga2
  obtain rfl : w2 = (.long i2) := Option.some.inj ei2
  obtain ⟨n, o, h1, h2, h3, _, L, rfl, ⟨rfl, N⟩, hq⟩ := own_rm0 l s _ hw tables_1 i0 i1 i2 s.heap s.heap.size (Nat.le_refl _) p e ha hc hk s m _ below hf ((Spec.applies_iff_loose hf).mp happ).1 ⟨rfl, State.Warmed39.refl s, rfl⟩ trivial
  refine ⟨n, _, h1, h2, h3, hpost _ _ _ _ _ _ ⟨Cond.after_iff.mpr rfl, Cond.after_iff.mpr (eq_i res_at (Term.int_eval (1)) rfl), trivial⟩ ⟨hq.1, hq.2.1, (hq.2.2.sift fun y hy => Or.inr (N y hy)).mono (by decide) (by decide)⟩⟩
theorem main_1_1 : Claimed_1_1 := comes_1 fun _ _ _ _ _ _ h hF => ⟨h.1, hF⟩
theorem main_1_2 : Claimed_1_2 := comes_1 fun _ _ _ _ _ _ h hF => ⟨h.2.1, hF⟩
end Jvm.Pilot.@@N@@
namespace Jvm.Pilot.@@N@@
open Jvm Jvm.ClassFile Sem Op Lib Jvm.Free Jvm.Stand Jvm.Pilot.@@N@@.Jvm.D
/-! MADE BY PROGRAM (witnessworld.py) out of the Statement's table words and the real class files: 11 classes; the members and pool entries that the words name. The judged class is class 1, her method 1. -/
namespace start1
open Jvm.ClassFile
def u (s : String) : CpInfo := .utf8 (stringToUtf16 s)
/-- a pool by its gaps: so many unusable entries, then the entry; so many at the end -/
def gap : Nat → List CpInfo → List CpInfo
  | 0, r => r
  | n + 1, r => .unusable :: gap n r
def poolList (es : List (Nat × CpInfo)) (last : Nat) : List CpInfo := es.foldr (fun e r => gap e.1 (e.2 :: r)) (gap last [])
def pool (es : List (Nat × CpInfo)) (last : Nat) : Array CpInfo := ⟨poolList es last⟩
def fileOf (pool : Array CpInfo) (this : Nat) (attrs : Array Attribute := #[]) (ms : Array MethodInfo := #[]) (fl : Nat := 33) (sup : Nat := 0) (ifs : Array Nat := #[]) (fds : Array FieldInfo := #[]) : ClassFile where
  minorVersion := 0
  majorVersion := 65
  constantPool := pool
  accessFlags := fl
  thisClass := this
  superClass := sup
  interfaces := ifs
  fields := fds
  methods := ms
  attributes := attrs
def plain (name : String) (sup : Option ClassId) : Class where
  name := name
  kind := .ordinary
  loader := none
  accessFlags := 33
  super := sup
  interfaces := #[]
  cf := none
  fields := #[]
  methods := #[]
  instanceTypes := #[]
  staticTypes := #[]
  resolved := #[]
  callSites := []
  init := .initialized
  statics := none
  mirror := none

def pool0 : Array CpInfo := pool [(5, u "<init>"), (0, u "()V"), (1, .class_ 10), (1, u "java/lang/Object")] 113

def k0c0 : Code := { maxStack := 0, maxLocals := 1, code := object_method_1_code, exceptionTable := #[], attributes := #[] }
def k0m0 : Method := { name := "<init>", desc := "()V", sig := { parameters := [], returnType := none }, accessFlags := 1, code := some k0c0 }
/-- java/lang/Object -/
def k0 : Class := { plain "java/lang/Object" none with
  accessFlags := 33
  interfaces := #[]
  cf := some (fileOf pool0 8 #[] #[{ accessFlags := 1, nameIndex := 5, descriptorIndex := 6, attributes := #[] }] 33 0 #[] #[])
  fields := #[]
  methods := #[k0m0]
  instanceTypes := #[]
  staticTypes := #[]
  resolved := Array.replicate 124 none
  statics := none }

def pool1 : Array CpInfo := pool [(2, .class_ 4), (1, u "java/lang/Object"), (0, u "<init>"), (0, u "()V"), (0, .integer 2147483647), (0, .methodref 9 10), (0, .class_ 11), (0, .nameAndType 12 13), (0, u "java/lang/Math"), (0, u "max"), (0, u "(II)I"), (0, .class_ 15), (0, u "com/example/fuda/fuda/domain/LockoutPolicy"), (0, .methodref 14 17), (0, .nameAndType 5 18), (0, u "(I)V"), (0, .methodref 14 20), (0, .nameAndType 21 22), (0, u "locksAt"), (0, u "(J)Z"), (0, .methodref 9 24), (0, .nameAndType 25 26), (0, u "min"), (0, u "(JJ)J"), (0, .methodref 9 28), (0, .nameAndType 12 26), (0, .class_ 30), (0, u "com/example/fuda/fuda/domain/LockoutPolicyLocksAtPinLaw"), (2, u "law"), (0, u "(IJJ)Z")] 3

def k1m0 : Method := { name := "<init>", desc := "()V", sig := { parameters := [], returnType := none }, accessFlags := 1, code := none }
def k1c1 : Code := { maxStack := 5, maxLocals := 16, code := code, exceptionTable := #[], attributes := #[] }
def k1m1 : Method := { name := "law", desc := "(IJJ)Z", sig := { parameters := [.int, .long, .long], returnType := some .boolean }, accessFlags := 9, code := some k1c1 }
/-- com/example/fuda/fuda/domain/LockoutPolicyLocksAtPinLaw -/
def k1 : Class := { plain "com/example/fuda/fuda/domain/LockoutPolicyLocksAtPinLaw" (some 0) with
  accessFlags := 49
  interfaces := #[]
  cf := some (fileOf pool1 29 #[] #[{ accessFlags := 1, nameIndex := 5, descriptorIndex := 6, attributes := #[] }, { accessFlags := 9, nameIndex := 33, descriptorIndex := 34, attributes := #[] }] 49 2 #[] #[])
  fields := #[]
  methods := #[k1m0, k1m1]
  instanceTypes := #[]
  staticTypes := #[]
  resolved := Array.replicate 38 none
  statics := none }

def pool2 : Array CpInfo := pool [(1, .class_ 2), (0, u "java/lang/Math"), (1, .class_ 6), (1, u "java/lang/Object"), (0, u "<init>"), (0, u "()V"), (89, .class_ 100), (1, u "java/lang/Math$RandomNumberGeneratorHolder"), (20, u "(JJ)J"), (50, u "negativeZeroFloatBits"), (0, u "J"), (2, u "negativeZeroDoubleBits"), (21, u "max"), (2, u "min"), (43, u "$assertionsDisabled"), (0, u "Z"), (88, u "(II)I"), (2, u "twoToTheDoubleScaleDown"), (0, u "D"), (4, u "twoToTheDoubleScaleUp"), (9, u "E"), (3, u "PI"), (2, u "TAU"), (2, u "DEGREES_TO_RADIANS"), (0, u "RADIANS_TO_DEGREES")] 94

def k2m0 : Method := { name := "<init>", desc := "()V", sig := { parameters := [], returnType := none }, accessFlags := 2, code := none }
def k2c1 : Code := { maxStack := 2, maxLocals := 2, code := jdk_29_method_65_code, exceptionTable := #[], attributes := #[] }
def k2m1 : Method := { name := "max", desc := "(II)I", sig := { parameters := [.int, .int], returnType := some .int }, accessFlags := 9, code := some k2c1 }
def k2c2 : Code := { maxStack := 4, maxLocals := 4, code := jdk_29_method_66_code, exceptionTable := #[], attributes := #[] }
def k2m2 : Method := { name := "max", desc := "(JJ)J", sig := { parameters := [.long, .long], returnType := some .long }, accessFlags := 9, code := some k2c2 }
def k2c3 : Code := { maxStack := 4, maxLocals := 4, code := jdk_29_method_70_code, exceptionTable := #[], attributes := #[] }
def k2m3 : Method := { name := "min", desc := "(JJ)J", sig := { parameters := [.long, .long], returnType := some .long }, accessFlags := 9, code := some k2c3 }
/-- java/lang/Math -/
def k2 : Class := { plain "java/lang/Math" (some 0) with
  accessFlags := 49
  interfaces := #[]
  cf := some (fileOf pool2 1 #[.nestMembers #[98]] #[{ accessFlags := 2, nameIndex := 7, descriptorIndex := 8, attributes := #[] }, { accessFlags := 9, nameIndex := 198, descriptorIndex := 335, attributes := #[] }, { accessFlags := 9, nameIndex := 198, descriptorIndex := 121, attributes := #[] }, { accessFlags := 9, nameIndex := 201, descriptorIndex := 121, attributes := #[] }] 49 4 #[] #[{ accessFlags := 25, nameIndex := 354, descriptorIndex := 339, attributes := #[] }, { accessFlags := 25, nameIndex := 358, descriptorIndex := 339, attributes := #[] }, { accessFlags := 25, nameIndex := 361, descriptorIndex := 339, attributes := #[] }, { accessFlags := 26, nameIndex := 364, descriptorIndex := 339, attributes := #[] }, { accessFlags := 26, nameIndex := 365, descriptorIndex := 339, attributes := #[] }, { accessFlags := 26, nameIndex := 172, descriptorIndex := 173, attributes := #[] }, { accessFlags := 26, nameIndex := 176, descriptorIndex := 173, attributes := #[] }, { accessFlags := 8, nameIndex := 344, descriptorIndex := 339, attributes := #[] }, { accessFlags := 8, nameIndex := 338, descriptorIndex := 339, attributes := #[] }, { accessFlags := 4120, nameIndex := 245, descriptorIndex := 246, attributes := #[] }])
  fields := #[{ name := "E", type := .double, accessFlags := 25, slot := 0, constantValue := 0 }, { name := "PI", type := .double, accessFlags := 25, slot := 1, constantValue := 0 }, { name := "TAU", type := .double, accessFlags := 25, slot := 2, constantValue := 0 }, { name := "DEGREES_TO_RADIANS", type := .double, accessFlags := 26, slot := 3, constantValue := 0 }, { name := "RADIANS_TO_DEGREES", type := .double, accessFlags := 26, slot := 4, constantValue := 0 }, { name := "negativeZeroFloatBits", type := .long, accessFlags := 26, slot := 5, constantValue := 0 }, { name := "negativeZeroDoubleBits", type := .long, accessFlags := 26, slot := 6, constantValue := 0 }, { name := "twoToTheDoubleScaleUp", type := .double, accessFlags := 8, slot := 7, constantValue := 0 }, { name := "twoToTheDoubleScaleDown", type := .double, accessFlags := 8, slot := 8, constantValue := 0 }, { name := "$assertionsDisabled", type := .boolean, accessFlags := 4120, slot := 9, constantValue := 0 }]
  methods := #[k2m0, k2m1, k2m2, k2m3]
  instanceTypes := #[]
  staticTypes := #[.double, .double, .double, .double, .double, .long, .long, .double, .double, .boolean]
  resolved := Array.replicate 460 none
  statics := none }

def pool3 : Array CpInfo := pool [(1, .methodref 2 3), (0, .class_ 4), (0, .nameAndType 5 6), (0, u "java/lang/Object"), (0, u "<init>"), (0, u "()V"), (0, .class_ 8), (0, u "java/lang/Record")] 13

def k3c0 : Code := { maxStack := 1, maxLocals := 1, code := jdk_30_method_1_code, exceptionTable := #[], attributes := #[] }
def k3m0 : Method := { name := "<init>", desc := "()V", sig := { parameters := [], returnType := none }, accessFlags := 4, code := some k3c0 }
/-- java/lang/Record -/
def k3 : Class := { plain "java/lang/Record" (some 0) with
  accessFlags := 1057
  interfaces := #[]
  cf := some (fileOf pool3 7 #[] #[{ accessFlags := 4, nameIndex := 5, descriptorIndex := 6, attributes := #[] }] 1057 2 #[] #[])
  fields := #[]
  methods := #[k3m0]
  instanceTypes := #[]
  staticTypes := #[]
  resolved := Array.replicate 22 none
  statics := none }

def pool4 : Array CpInfo := pool [(1, .methodref 2 3), (0, .class_ 4), (0, .nameAndType 5 6), (0, u "java/lang/Record"), (0, u "<init>"), (0, u "()V"), (9, .fieldref 17 18), (0, .class_ 19), (0, .nameAndType 20 21), (0, u "com/example/fuda/fuda/domain/LockoutPolicy"), (0, u "failureThreshold"), (0, u "I"), (12, u "(I)V"), (4, u "locksAt"), (0, u "(J)Z")] 30

def k4c0 : Code := { maxStack := 3, maxLocals := 2, code := prog_10_method_1_code, exceptionTable := #[], attributes := #[] }
def k4m0 : Method := { name := "<init>", desc := "(I)V", sig := { parameters := [.int], returnType := none }, accessFlags := 1, code := some k4c0 }
def k4c1 : Code := { maxStack := 4, maxLocals := 3, code := prog_10_method_2_code, exceptionTable := #[], attributes := #[] }
def k4m1 : Method := { name := "locksAt", desc := "(J)Z", sig := { parameters := [.long], returnType := some .boolean }, accessFlags := 1, code := some k4c1 }
/-- com/example/fuda/fuda/domain/LockoutPolicy -/
def k4 : Class := { plain "com/example/fuda/fuda/domain/LockoutPolicy" (some 3) with
  accessFlags := 49
  interfaces := #[]
  cf := some (fileOf pool4 17 #[] #[{ accessFlags := 1, nameIndex := 5, descriptorIndex := 34, attributes := #[] }, { accessFlags := 1, nameIndex := 39, descriptorIndex := 40, attributes := #[] }] 49 2 #[] #[{ accessFlags := 18, nameIndex := 20, descriptorIndex := 21, attributes := #[] }])
  fields := #[{ name := "failureThreshold", type := .int, accessFlags := 18, slot := 0, constantValue := 0 }]
  methods := #[k4m0, k4m1]
  instanceTypes := #[.int]
  staticTypes := #[]
  resolved := Array.replicate 71 none
  statics := none }

def pool5 : Array CpInfo := pool [(1, u "java/lang/Cloneable"), (0, .class_ 1), (0, u "java/lang/Object"), (0, .class_ 3)] 3

/-- java/lang/Cloneable -/
def k5 : Class := { plain "java/lang/Cloneable" (some 0) with
  accessFlags := 1537
  interfaces := #[]
  cf := some (fileOf pool5 2 #[] #[] 1537 4 #[] #[])
  fields := #[]
  methods := #[]
  instanceTypes := #[]
  staticTypes := #[]
  resolved := Array.replicate 8 none
  statics := none }

def pool6 : Array CpInfo := pool [(1, u "java/io/Serializable"), (0, .class_ 1), (0, u "java/lang/Object"), (0, .class_ 3)] 3

/-- java/io/Serializable -/
def k6 : Class := { plain "java/io/Serializable" (some 0) with
  accessFlags := 1537
  interfaces := #[]
  cf := some (fileOf pool6 2 #[] #[] 1537 4 #[] #[])
  fields := #[]
  methods := #[]
  instanceTypes := #[]
  staticTypes := #[]
  resolved := Array.replicate 8 none
  statics := none }

/-- the primitive byte -/
def k7 : Class := { plain "byte" none with kind := .primitive 'B', accessFlags := 0x411 }
/-- [B -/
def k8 : Class := { plain "[B" (some 0) with kind := .array 7 .byte, interfaces := #[5, 6], accessFlags := 1041 }

/-- the primitive int -/
def k9 : Class := { plain "int" none with kind := .primitive 'I', accessFlags := 0x411 }
/-- [I -/
def k10 : Class := { plain "[I" (some 0) with kind := .array 9 .int, interfaces := #[5, 6], accessFlags := 1041 }

def heap : Heap := #[]
def classes : Array Class := #[k0, k1, k2, k3, k4, k5, k6, k7, k8, k9, k10]
def interned : List (Array UInt16 × Addr) := []
def slotsUsed : Nat := 0
def theMethod : MethodId := ⟨1, 1⟩
def args0 : Array Value := #[.int 5, .long 7, .long 9]
def aboutOver (below : List Frame) : State where
  vm := { classes := classes, interned := interned.toArray }
  heap := heap
  slotsUsed := slotsUsed
  threads := #[{ frames := .invoking theMethod args0 :: below }]
def below0 : List Frame := [.native { method := ⟨0, 0⟩, args := #[] }]
def about1 : State := aboutOver below0
def p0 : Program := .bare "" "" ""
def e0 : Env := launch0.env 0 0 0
theorem w_frames : about1.frames = Frame.invoking theMethod args0 :: below0 := rfl
set_option maxRecDepth 65536 in
theorem w_args : argsFit about1.vm theMethod args0 = true := by decide +kernel
set_option maxRecDepth 65536 in
theorem w_heap : heapFits about1 = true := by decide +kernel
set_option maxRecDepth 65536 in
theorem w_runnable : about1.curStatus? = some .runnable := by decide +kernel
set_option maxRecDepth 65536 in
theorem w_alone : about1.alone = true := by decide +kernel
set_option maxRecDepth 65536 in
theorem w_named : about1.methodNamed? x = some theMethod := by decide +kernel
set_option maxRecDepth 65536 in
theorem w_hears : about1.hears theMethod below0 = true := by decide +kernel
set_option maxRecDepth 65536 in
theorem w_ripe : about1.ripe theMethod args0 below0 = true := by decide +kernel
theorem w_running : about1.status = .running := rfl
set_option maxRecDepth 65536 in
theorem w_room : about1.hasRoom e0.platform room_1 = true :=
  launch0.hasRoom_least _ room_1 (by decide +kernel) (by decide +kernel) (by decide +kernel) (by decide +kernel) (by decide +kernel) (by decide +kernel)
theorem allAtoms_all (ts : List Jvm.Cond) (a : Array Jvm.Value) (st : Jvm.State) : (allAtoms ts).before a st = ts.all (fun c => c.before a st) := by
  induction ts with
  | nil => rfl
  | cons c t ih =>
    show (Jvm.Cond.and c (allAtoms t)).before a st = _
    rw [Jvm.Cond.before_and, ih, List.all_cons]
def words1 : List Jvm.Cond := Jvm.Cond.code x code maxLocals ret :: tables_1
/-- a 'code' word, met by the world's own term for the bytes: nothing is compared byte by byte -/
theorem code_word {y : MethodName} {bytes : ByteArray} {mx : Nat} {rt : Option FieldType} {a : Array Value} {s : State} {m : MethodId} {meth : Method} {c : Code} (h1 : s.methodNamed? y = some m) (h2 : s.vm.method? m = some meth) (h3 : meth.code = some c) (h4 : c.code = bytes)
    (h5 : (c.maxLocals == mx && c.exceptionTable.isEmpty && decide (c.maxStack ≤ mostOperands) && decide (meth.sig.returnType = rt) && !meth.locks && decide (parseMethodDescriptor y.desc = some meth.sig)) = true) : (Jvm.Cond.code y bytes mx rt).before a s = true := by
  simp only [Bool.and_eq_true, beq_iff_eq, Bool.not_eq_true', decide_eq_true_eq] at h5
  obtain ⟨⟨⟨⟨⟨g1, g2⟩, g3⟩, g4⟩, g5⟩, g6⟩ := h5
  simp [Cond.before, Cond.holds, Cond.value, h1, h2, h3, h4, g1, g2, g3, g4, g5, g6]
def isCode : Jvm.Cond → Bool
  | .code _ _ _ _ => true
  | _ => false
theorem all_split {L : List Jvm.Cond} {P : Jvm.Cond → Bool} (h1 : L.all (fun c => isCode c || P c) = true) (h2 : ∀ c ∈ L.filter isCode, P c = true) : L.all P = true := by
  refine List.all_eq_true.mpr fun c hc => ?_
  have h := List.all_eq_true.mp h1 c hc
  rcases Bool.eq_false_or_eq_true (isCode c) with hi | hi
  · exact h2 c (List.mem_filter.mpr ⟨hc, hi⟩)
  · simpa [hi] using h
set_option maxRecDepth 65536 in
theorem w_c0 : (Jvm.Cond.code x code maxLocals ret).before args0 about1 = true := code_word (m := ⟨1, 1⟩) (meth := k1m1) (c := k1c1) (by decide +kernel) rfl rfl rfl (by decide +kernel)
set_option maxRecDepth 65536 in
theorem w_c1 : (Jvm.Cond.code ({ cls := "java/lang/Math", name := "max", desc := "(II)I" } : Jvm.MethodName) jdk_29_method_65_code (2 : Nat) (Option.some Jvm.ClassFile.FieldType.int)).before args0 about1 = true := code_word (m := ⟨2, 1⟩) (meth := k2m1) (c := k2c1) (by decide +kernel) rfl rfl rfl (by decide +kernel)
set_option maxRecDepth 65536 in
theorem w_c2 : (Jvm.Cond.code ({ cls := "com/example/fuda/fuda/domain/LockoutPolicy", name := "<init>", desc := "(I)V" } : Jvm.MethodName) prog_10_method_1_code (2 : Nat) (Option.none : Option Jvm.ClassFile.FieldType)).before args0 about1 = true := code_word (m := ⟨4, 0⟩) (meth := k4m0) (c := k4c0) (by decide +kernel) rfl rfl rfl (by decide +kernel)
set_option maxRecDepth 65536 in
theorem w_c3 : (Jvm.Cond.code ({ cls := "java/lang/Record", name := "<init>", desc := "()V" } : Jvm.MethodName) jdk_30_method_1_code (1 : Nat) (Option.none : Option Jvm.ClassFile.FieldType)).before args0 about1 = true := code_word (m := ⟨3, 0⟩) (meth := k3m0) (c := k3c0) (by decide +kernel) rfl rfl rfl (by decide +kernel)
set_option maxRecDepth 65536 in
theorem w_c4 : (Jvm.Cond.code ({ cls := "java/lang/Object", name := "<init>", desc := "()V" } : Jvm.MethodName) object_method_1_code (1 : Nat) (Option.none : Option Jvm.ClassFile.FieldType)).before args0 about1 = true := code_word (m := ⟨0, 0⟩) (meth := k0m0) (c := k0c0) (by decide +kernel) rfl rfl rfl (by decide +kernel)
set_option maxRecDepth 65536 in
theorem w_c5 : (Jvm.Cond.code ({ cls := "com/example/fuda/fuda/domain/LockoutPolicy", name := "locksAt", desc := "(J)Z" } : Jvm.MethodName) prog_10_method_2_code (3 : Nat) (Option.some Jvm.ClassFile.FieldType.boolean)).before args0 about1 = true := code_word (m := ⟨4, 1⟩) (meth := k4m1) (c := k4c1) (by decide +kernel) rfl rfl rfl (by decide +kernel)
set_option maxRecDepth 65536 in
theorem w_c6 : (Jvm.Cond.code ({ cls := "java/lang/Math", name := "min", desc := "(JJ)J" } : Jvm.MethodName) jdk_29_method_70_code (4 : Nat) (Option.some Jvm.ClassFile.FieldType.long)).before args0 about1 = true := code_word (m := ⟨2, 3⟩) (meth := k2m3) (c := k2c3) (by decide +kernel) rfl rfl rfl (by decide +kernel)
set_option maxRecDepth 65536 in
theorem w_c7 : (Jvm.Cond.code ({ cls := "java/lang/Math", name := "max", desc := "(JJ)J" } : Jvm.MethodName) jdk_29_method_66_code (4 : Nat) (Option.some Jvm.ClassFile.FieldType.long)).before args0 about1 = true := code_word (m := ⟨2, 2⟩) (meth := k2m2) (c := k2c2) (by decide +kernel) rfl rfl rfl (by decide +kernel)
def codes1 : List Jvm.Cond := [Jvm.Cond.code x code maxLocals ret, Jvm.Cond.code ({ cls := "java/lang/Math", name := "max", desc := "(II)I" } : Jvm.MethodName) jdk_29_method_65_code (2 : Nat) (Option.some Jvm.ClassFile.FieldType.int), Jvm.Cond.code ({ cls := "com/example/fuda/fuda/domain/LockoutPolicy", name := "<init>", desc := "(I)V" } : Jvm.MethodName) prog_10_method_1_code (2 : Nat) (Option.none : Option Jvm.ClassFile.FieldType), Jvm.Cond.code ({ cls := "java/lang/Record", name := "<init>", desc := "()V" } : Jvm.MethodName) jdk_30_method_1_code (1 : Nat) (Option.none : Option Jvm.ClassFile.FieldType), Jvm.Cond.code ({ cls := "java/lang/Object", name := "<init>", desc := "()V" } : Jvm.MethodName) object_method_1_code (1 : Nat) (Option.none : Option Jvm.ClassFile.FieldType), Jvm.Cond.code ({ cls := "com/example/fuda/fuda/domain/LockoutPolicy", name := "locksAt", desc := "(J)Z" } : Jvm.MethodName) prog_10_method_2_code (3 : Nat) (Option.some Jvm.ClassFile.FieldType.boolean), Jvm.Cond.code ({ cls := "java/lang/Math", name := "min", desc := "(JJ)J" } : Jvm.MethodName) jdk_29_method_70_code (4 : Nat) (Option.some Jvm.ClassFile.FieldType.long), Jvm.Cond.code ({ cls := "java/lang/Math", name := "max", desc := "(JJ)J" } : Jvm.MethodName) jdk_29_method_66_code (4 : Nat) (Option.some Jvm.ClassFile.FieldType.long)]
set_option maxRecDepth 65536 in
theorem codes_eq : words1.filter isCode = codes1 := rfl
theorem w_codes : ∀ c ∈ words1.filter isCode, c.before args0 about1 = true := by
  rw [codes_eq]
  intro c hc
  simp only [codes1, List.mem_cons, List.not_mem_nil, or_false] at hc
  rcases hc with rfl | rfl | rfl | rfl | rfl | rfl | rfl | rfl
  · exact w_c0
  · exact w_c1
  · exact w_c2
  · exact w_c3
  · exact w_c4
  · exact w_c5
  · exact w_c6
  · exact w_c7
set_option maxRecDepth 65536 in
theorem w_t1 : (words1.take 24).all (fun c => isCode c || c.before args0 about1) = true := by decide +kernel
set_option maxRecDepth 65536 in
theorem w_t2 : (words1.drop 24).all (fun c => isCode c || c.before args0 about1) = true := by decide +kernel
theorem w_tables : (allAtoms (Jvm.Cond.code x code maxLocals ret :: tables_1)).before args0 about1 = true := by
  rw [allAtoms_all]
  show words1.all (fun c => c.before args0 about1) = true
  refine all_split ?_ w_codes
  rw [← List.take_append_drop 24 words1, List.all_append, w_t1, w_t2]
  rfl
set_option maxRecDepth 65536 in
theorem w_case : (Jvm.Cond.and given_1 narrow_1).before args0 about1 = true := by decide +kernel
theorem w_applies : (headSpec (Jvm.Cond.code x code maxLocals ret :: tables_1) room_1).applies x e0.platform about1 = true :=
  (Spec.applies_iff w_frames).mpr ⟨w_running, w_runnable, w_alone, w_named, w_hears, w_ripe, w_room, w_tables⟩
theorem atStart : AtStart classFile x code maxLocals ret World_1 tables_1 room_1 Calls_1 rest_1 Pre_1 launch0 p0 e0 about1 theMethod args0 below0 :=
  ⟨lists_1, trivial, launch0.admits_env _ _ _, launch0.least_env, fairChoices_fair.cas, fairChoices_fair.clock, w_frames, w_args, w_heap, w_applies, trivial, trivial, w_case⟩
end start1
theorem witness_1 : WitnessClaimed_1 := ⟨start1.p0, start1.e0, start1.about1, start1.theMethod, start1.args0, start1.below0, start1.atStart⟩
end Jvm.Pilot.@@N@@
