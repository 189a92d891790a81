import JvmDerived
import JvmDerived.Pilot.@@N@@Statement
import JvmDerived.Pilot.@@N@@Code
set_option linter.unusedVariables false
set_option linter.unusedSimpArgs false
namespace Jvm.Pilot.@@N@@
open Jvm Jvm.ClassFile Sem Op Lib Jvm.Free Jvm.Stand Jvm.LawKit Jvm.RoadKit Bundle Jvm.Pilot.@@N@@.Jvm.D
/-- what is left to show at a frame of the walk: the run from there ends as the contract says -/
def own_G (p : Program) (e : Env) (below : List Frame) (s : State) (Q : Option Value → Heap → List Loc → Prop) (ce sl : Nat) (T : State) (g : JFrame) : Prop :=
  ∃ s₂ o, Steps p.tables e below (T.setTop g) s₂ ∧ s₂.status = .running ∧ Ended s₂ below o ∧ ∃ v L, o = .returned v ∧ Q v s₂.heap L ∧ FrameEnd s o s₂ L ce sl
theorem own_w {p : Program} {e : Env} {below : List Frame} {s : State} {Q : Option Value → Heap → List Loc → Prop} {ce sl : Nat} {T T' : State} {g g' : JFrame}
    (st : ∀ target, Steps p.tables e below (T'.setTop g') target → Steps p.tables e below (T.setTop g) target) (k : own_G p e below s Q ce sl T' g') : own_G p e below s Q ce sl T g := by
  obtain ⟨u, o, a, r⟩ := k
  exact ⟨u, o, st u a, r⟩
theorem own_t {p : Program} {e : Env} {below : List Frame} {s : State} {Q : Option Value → Heap → List Loc → Prop} {ce sl : Nat} {T T' : State} {g g' : JFrame}
    (st : Steps p.tables e below (T.setTop g) (T'.setTop g')) (k : own_G p e below s Q ce sl T' g') : own_G p e below s Q ce sl T g := own_w (fun _ k => st.trans k) k
theorem own_sta {Z : State} {h h' : Heap} {C n d : String} {v : Value} {a : Addr} (F : Sta Z h C n d v) (K : Keep h h' [a]) (na : ∀ cell : Cell, h[a]? = some cell → cell.vm.isStatics = false) : Sta Z h' C n d v := by
  obtain ⟨cf, i, k, f, st, cell, h1, h2, h3, h4, h5, h6, h7⟩ := F
  refine ⟨cf, i, k, f, st, cell, h1, h2, h3, h4, K.2.1 st cell h5 (fun q => ?_), h6, h7⟩
  have e : st = a := List.mem_singleton.mp q
  subst e
  rw [na _ h5] at h6; cases h6
theorem own_nb {P : Prop} [Decidable P] : narrow .boolean (.int (if P then (1 : Int32) else 0)) = .int (if P then (1 : Int32) else 0) := by split <;> rfl
theorem own_ite0 {P : Prop} [Decidable P] : ((if P then (1 : Int32) else 0) = 0) = ¬ P := by by_cases h : P <;> simp [h]
def own_dl (now ex : Int64) : Int64 := if ex = 0 then (9223372036854775807 : Int64) else if (9223372036854775807 : Int64) - ex < now then (9223372036854775807 : Int64) else now + ex
def own_ex (now ex : Int64) : Int64 := if ex = 0 then (9223372036854775807 : Int64) else if now < 0 then now + ex else if now + ex < 0 then (9223372036854775807 : Int64) else now + ex
theorem own_law {now ex : Int64} (h : ¬ ex < 0) : own_dl now ex = own_ex now ex := by
  unfold own_dl own_ex
  by_cases h0 : ex = 0
  · rw [if_pos h0, if_pos h0]
  rw [if_neg h0, if_neg h0]
  have e1 := c_lsub (9223372036854775807 : Int64) ex
  have e2 := c_ladd now ex
  have em : ((9223372036854775807 : Int64)).toInt = 9223372036854775807 := by decide
  have z0 : (0 : Int64).toInt = 0 := by decide
  rw [em] at e1
  have b1 := ((9223372036854775807 : Int64) - ex).toInt_lt; have b2 := ((9223372036854775807 : Int64) - ex).le_toInt; have b3 := (now + ex).toInt_lt; have b4 := (now + ex).le_toInt
  have b5 := now.toInt_lt; have b6 := now.le_toInt; have b7 := ex.toInt_lt; have b8 := ex.le_toInt
  simp only [Int64.lt_iff_toInt_lt, z0] at *
  by_cases h1 : ((9223372036854775807 : Int64) - ex).toInt < now.toInt
  · rw [if_pos h1, if_neg (show ¬ now.toInt < 0 by omega), if_pos (show (now + ex).toInt < 0 by omega)]
  · rw [if_neg h1]
    by_cases h2 : now.toInt < 0
    · rw [if_pos h2]
    · rw [if_neg h2, if_neg (show ¬ (now + ex).toInt < 0 by omega)]
theorem own_and {x m : Int64} (h : ¬ m < 0) : ¬ (x &&& m) < 0 := by
  have z0 : (0 : Int64).toInt = 0 := by decide
  simp only [Int64.lt_iff_toInt_lt, z0] at h ⊢
  have := (c_andSL x m).2.2 (by omega)
  omega
theorem own_d2_0 : decode jdk_30_method_1_code 0 = .ok (.aload_n 0, 1) := by decide +kernel
theorem own_d2_1 : decode jdk_30_method_1_code 1 = .ok (.invokespecial 1, 3) := by decide +kernel
theorem own_d2_4 : decode jdk_30_method_1_code 4 = .ok (.return_, 1) := by decide +kernel
theorem own_pn_java_lang_Record : plainName "java/lang/Record" = true := by first | (simp [plainName, overriddenIn]; done) | decide +kernel
theorem own_rm2_ef (m : MethodId) (a : Addr) : entryFrame m #[(.ref a)] 1 = mkF m 0 #[.val (.ref a)] [] := by first | (simp [entryFrame, mkF, argsToLocals, Value.category]; done) | rfl
def own_Q2 (Z : State) (a : Addr) (h0 : Heap) (n0 : Nat) (v_ : Option Value) (h : Heap) (L_ : List Loc) : Prop := v_ = none ∧ Fr n0 L_ ∧ (h = h0)
set_option maxRecDepth 65536 in
set_option maxHeartbeats 40000000 in
theorem own_rm2 (l : Launch) (Z : State) (a0 : Array Value) (hw : ∀ d ∈ tables_1, d.before a0 Z = true) (ws : List Jvm.Cond) (a : Addr) (h0 : Heap) (n0 : Nat) (Z0 : n0 ≤ h0.size)  :
    MetFree l (⟨"java/lang/Record", "<init>", "()V"⟩ : MethodName) (head1 (Jvm.Cond.code (⟨"java/lang/Record", "<init>", "()V"⟩ : MethodName) jdk_30_method_1_code 1 none :: ws) ({ frames := 1, cells := 0, slots := 0, locals := 12 } : Room)) (fun a_ U_ => a_ = #[(.ref a)] ∧ Z.Warmed39 U_.vm ∧ U_.heap = h0) (fun _ _ _ _ _ => True) (fun _ U_ o_ V_ => ∃ v_ L_, o_ = .returned v_ ∧ own_Q2 Z a h0 n0 v_ V_.heap L_ ∧ FrameEnd U_ o_ V_ L_ ({ frames := 1, cells := 0, slots := 0, locals := 12 } : Room).cells ({ frames := 1, cells := 0, slots := 0, locals := 12 } : Room).slots) := by
  refine MetFree.of_bodySF (plainFor_of_name own_pn_java_lang_Record) hisR ?_
  intro p e s m args below meth c s₁ Bd hml0 hP hK
  obtain ⟨rfl, hZ, hh⟩ := hP
  have hx := Bd.exec
  have hby := Bd.bytes
  have hml : c.maxLocals = 1 := hml0
  have hown : s.vm.findClass "java/lang/Record" = some m.cls := findClass_of_methodNamed Bd.named
  have hnm := (name_of_methodNamed Bd.named Bd.method).1
  have X0 : Stand p l e ({ frames := 1, cells := 0, slots := 0, locals := 12 } : Room) s m #[(.ref a)] below meth c s₁ [] 0 0 := Stand.of_body Bd
  have e0 : s₁.heap = h0 := by rw [← hh, Bd.state]; rfl
  have N0 := Fr.nil n0
  show own_G p e below s (own_Q2 Z a h0 n0) ({ frames := 1, cells := 0, slots := 0, locals := 12 } : Room).cells ({ frames := 1, cells := 0, slots := 0, locals := 12 } : Room).slots s₁ (entryFrame m #[(.ref a)] 1)
  rw [own_rm2_ef]
  refine own_w (T' := s₁) (g' := (mkF m 1 #[.val (.ref a)] [(.ref a)])) (fun _ k_ => XS.aloadN X0.here hx rfl (hb hby own_d2_0) rfl rfl k_) ?_
  obtain ⟨T1, X1, e1, st1⟩ := initO X0 hx hZ hown (hw _ (List.mem_of_getElem? (i := 15) rfl)) (hw _ (List.mem_of_getElem? (i := 16) rfl)) (hw _ (List.mem_of_getElem? (i := 17) rfl)) e0 (g := (mkF m 1 #[.val (.ref a)] [(.ref a)])) rfl (by rw [hml]; rfl) rfl (hb hby own_d2_1) (by decide) (W := 0) (by show 2 * 0 + _ ≤ _; exact Nat.le_of_eq rfl) (by decide)
  refine own_w (T' := T1) (g' := (mkF m 4 #[.val (.ref a)] [])) st1 ?_
  obtain ⟨fs, hr, hrun, hended, hW, hsame⟩ := X1.leave (v := none) (fun _ => rfl)
  exact ⟨_, _, X1.returnOut hx Bd.returns (hb hby own_d2_4) hr, hrun, hended, _, _, rfl, (by show own_Q2 Z a h0 n0 _ T1.heap _; rw [e1]; exact ⟨rfl, N0, rfl⟩), ⟨_, rfl⟩, hW, hsame.mono (by decide) (by decide)⟩
theorem own_d1_0 : decode prog_69_method_1_code 0 = .ok (.aload_n 0, 1) := by decide +kernel
theorem own_d1_1 : decode prog_69_method_1_code 1 = .ok (.invokespecial 3, 3) := by decide +kernel
theorem own_pd0 : parseMethodDescriptor "()V" = some ⟨[], none⟩ := by decide +kernel
theorem own_d1_4 : decode prog_69_method_1_code 4 = .ok (.aload_n 0, 1) := by decide +kernel
theorem own_d1_5 : decode prog_69_method_1_code 5 = .ok (.aload_n 1, 1) := by decide +kernel
theorem own_d1_6 : decode prog_69_method_1_code 6 = .ok (.putfield 9, 3) := by decide +kernel
theorem own_d1_9 : decode prog_69_method_1_code 9 = .ok (.aload_n 0, 1) := by decide +kernel
theorem own_d1_10 : decode prog_69_method_1_code 10 = .ok (.lload_n 2, 1) := by decide +kernel
theorem own_d1_11 : decode prog_69_method_1_code 11 = .ok (.putfield 15, 3) := by decide +kernel
theorem own_d1_14 : decode prog_69_method_1_code 14 = .ok (.return_, 1) := by decide +kernel
theorem own_pn_com_example_oaken_shelf_oakenshelf_store_SetOptions : plainName "com/example/oaken_shelf/oakenshelf/store/SetOptions" = true := by first | (simp [plainName, overriddenIn]; done) | decide +kernel
theorem own_rm1_ef (m : MethodId) (a : Addr) (c1 : Addr) (ex : Int64) : entryFrame m #[(.ref a), (.ref c1), (.long ex)] 4 = mkF m 0 #[.val (.ref a), .val (.ref c1), .val (.long ex), .second] [] := by first | (simp [entryFrame, mkF, argsToLocals, Value.category]; done) | rfl
def own_Q1 (Z : State) (a : Addr) (c1 : Addr) (ex : Int64) (u : Value) (u2 : Value) (h0 : Heap) (n0 : Nat) (v_ : Option Value) (h : Heap) (L_ : List Loc) : Prop := v_ = none ∧ Fr n0 L_ ∧ (Keep h0 h [a]) ∧ (Fld Z h a "com/example/oaken_shelf/oakenshelf/store/SetOptions" "expiryMillis" "J" (.long ex))
set_option maxRecDepth 65536 in
set_option maxHeartbeats 40000000 in
theorem own_rm1 (l : Launch) (Z : State) (a0 : Array Value) (hw : ∀ d ∈ tables_1, d.before a0 Z = true) (ws : List Jvm.Cond) (a : Addr) (c1 : Addr) (ex : Int64) (u : Value) (u2 : Value) (h0 : Heap) (n0 : Nat) (Z0 : n0 ≤ h0.size) (F : Fld Z h0 a "com/example/oaken_shelf/oakenshelf/store/SetOptions" "condition" "Lcom/example/oaken_shelf/oakenshelf/store/SetOptions$Condition;" u) (G : Fld Z h0 a "com/example/oaken_shelf/oakenshelf/store/SetOptions" "expiryMillis" "J" u2) (E : Exa Z h0 a "com/example/oaken_shelf/oakenshelf/store/SetOptions") (g_a : n0 ≤ a) :
    MetFree l (⟨"com/example/oaken_shelf/oakenshelf/store/SetOptions", "<init>", "(Lcom/example/oaken_shelf/oakenshelf/store/SetOptions$Condition;J)V"⟩ : MethodName) (head1 (Jvm.Cond.code (⟨"com/example/oaken_shelf/oakenshelf/store/SetOptions", "<init>", "(Lcom/example/oaken_shelf/oakenshelf/store/SetOptions$Condition;J)V"⟩ : MethodName) prog_69_method_1_code 4 none :: ws) ({ frames := 2, cells := 0, slots := 0, locals := 24 } : Room)) (fun a_ U_ => a_ = #[(.ref a), (.ref c1), (.long ex)] ∧ Z.Warmed39 U_.vm ∧ U_.heap = h0) (fun _ _ _ _ _ => True) (fun _ U_ o_ V_ => ∃ v_ L_, o_ = .returned v_ ∧ own_Q1 Z a c1 ex u u2 h0 n0 v_ V_.heap L_ ∧ FrameEnd U_ o_ V_ L_ ({ frames := 2, cells := 0, slots := 0, locals := 24 } : Room).cells ({ frames := 2, cells := 0, slots := 0, locals := 24 } : Room).slots) := by
  refine MetFree.of_bodySF (plainFor_of_name own_pn_com_example_oaken_shelf_oakenshelf_store_SetOptions) hisR ?_
  intro p e s m args below meth c s₁ Bd hml0 hP hK
  obtain ⟨rfl, hZ, hh⟩ := hP
  have hx := Bd.exec
  have hby := Bd.bytes
  have hml : c.maxLocals = 4 := hml0
  have hown : s.vm.findClass "com/example/oaken_shelf/oakenshelf/store/SetOptions" = some m.cls := findClass_of_methodNamed Bd.named
  have hnm := (name_of_methodNamed Bd.named Bd.method).1
  have X0 : Stand p l e ({ frames := 2, cells := 0, slots := 0, locals := 24 } : Room) s m #[(.ref a), (.ref c1), (.long ex)] below meth c s₁ [] 0 0 := Stand.of_body Bd
  have e0 : s₁.heap = h0 := by rw [← hh, Bd.state]; rfl
  have N0 := Fr.nil n0
  show own_G p e below s (own_Q1 Z a c1 ex u u2 h0 n0) ({ frames := 2, cells := 0, slots := 0, locals := 24 } : Room).cells ({ frames := 2, cells := 0, slots := 0, locals := 24 } : Room).slots s₁ (entryFrame m #[(.ref a), (.ref c1), (.long ex)] 4)
  rw [own_rm1_ef]
  refine own_w (T' := s₁) (g' := (mkF m 1 #[.val (.ref a), .val (.ref c1), .val (.long ex), .second] [(.ref a)])) (fun _ k_ => XS.aloadN X0.here hx rfl (hb hby own_d1_0) rfl rfl k_) ?_
  obtain ⟨_, _, ⟨T1, L1, k1, n1⟩, -, X1, ⟨Lc1, hQ1, l1, y1, z1⟩, st1⟩ := X0.specialBack hx (y := (⟨"java/lang/Record", "<init>", "()V"⟩ : MethodName)) rfl hown (mvT hZ (hw _ (List.mem_of_getElem? (i := 10) rfl))) (mvT hZ (hw _ (List.mem_of_getElem? (i := 11) rfl))) (mvT hZ (hw _ (List.mem_of_getElem? (i := 14) rfl))) (by decide) (backOf (W := 0) (own_rm2 l Z a0 hw [] a  h0 n0 Z0 ) hZ (hw _ (List.mem_of_getElem? (i := 14) rfl)) (hw _ (List.mem_of_getElem? (i := 13) rfl)) (by decide) (by decide)) (g := (mkF m 1 #[.val (.ref a), .val (.ref c1), .val (.long ex), .second] [(.ref a)])) rfl (by rw [hml]; rfl) (Steps.refl _) (a := a) (argsL := []) (rest := []) (lenOf own_pd0 rfl) rfl (by show 2 * 0 + _ ≤ _; exact Nat.le_of_eq rfl) (hb hby own_d1_1) (fun _ _ => ⟨rfl, e0, (by decide : 0 + 0 ≤ _), (by decide : 0 + 0 ≤ _)⟩)
  dsimp only [Pt.U, Pt.locs, Pt.cells, Pt.slots] at X1 l1 y1 z1 st1 hQ1
  subst l1 y1 z1
  obtain ⟨rfl, N1q, e1⟩ := hQ1
  have N1 := Fr.app N0 N1q
  refine own_t (T' := T1) (g' := (mkF m 4 #[.val (.ref a), .val (.ref c1), .val (.long ex), .second] [])) st1 ?_
  refine own_w (T' := T1) (g' := (mkF m 5 #[.val (.ref a), .val (.ref c1), .val (.long ex), .second] [(.ref a)])) (fun _ k_ => XS.aloadN X1.here hx rfl (hb hby own_d1_4) rfl rfl k_) ?_
  refine own_w (T' := T1) (g' := (mkF m 6 #[.val (.ref a), .val (.ref c1), .val (.long ex), .second] [(.ref c1), (.ref a)])) (fun _ k_ => XS.aloadN X1.here hx rfl (hb hby own_d1_5) rfl rfl k_) ?_
  obtain ⟨T2, h2, X2, e2, W2, st2⟩ := putF X1 hx hZ hown (host := "") (Or.inl (hw _ (List.mem_of_getElem? (i := 18) rfl))) Via.refl e1 F E (Or.inr ⟨(hw _ (List.mem_of_getElem? (i := 19) rfl)), rfl, hnm⟩) (hw _ (List.mem_of_getElem? (i := 5) rfl)) (ty := (.object "com/example/oaken_shelf/oakenshelf/store/SetOptions$Condition")) (by decide) rfl rfl (g := (mkF m 6 #[.val (.ref a), .val (.ref c1), .val (.long ex), .second] [(.ref c1), (.ref a)])) rfl rfl (hb hby own_d1_6)
  have N2 := Fr.snoc X2 N1 g_a
  refine own_w (T' := T2) (g' := (mkF m 9 #[.val (.ref a), .val (.ref c1), .val (.long ex), .second] [])) st2 ?_
  refine own_w (T' := T2) (g' := (mkF m 10 #[.val (.ref a), .val (.ref c1), .val (.long ex), .second] [(.ref a)])) (fun _ k_ => XS.aloadN X2.here hx rfl (hb hby own_d1_9) rfl rfl k_) ?_
  refine own_w (T' := T2) (g' := (mkF m 11 #[.val (.ref a), .val (.ref c1), .val (.long ex), .second] [(.long ex), (.ref a)])) (fun _ k_ => XS.lloadN X2.here hx rfl (hb hby own_d1_10) rfl k_) ?_
  obtain ⟨T3, h3, X3, e3, W3, st3⟩ := putF X2 hx hZ hown (host := "") (Or.inl (hw _ (List.mem_of_getElem? (i := 20) rfl))) Via.refl e2 (G.other W2 (Or.inr (slot_ne (Or.inr (hw _ (List.mem_of_getElem? (i := 21) rfl))) (Or.inr (hw _ (List.mem_of_getElem? (i := 19) rfl))) (by decide) (t := .long) (t' := (.object "com/example/oaken_shelf/oakenshelf/store/SetOptions$Condition")) (by decide) (by decide)))) (E.wr W2) (Or.inr ⟨(hw _ (List.mem_of_getElem? (i := 21) rfl)), rfl, hnm⟩) (hw _ (List.mem_of_getElem? (i := 5) rfl)) (ty := .long) (by decide) rfl rfl (g := (mkF m 11 #[.val (.ref a), .val (.ref c1), .val (.long ex), .second] [(.long ex), (.ref a)])) rfl rfl (hb hby own_d1_11)
  have N3 := Fr.snoc X3 N2 g_a
  refine own_w (T' := T3) (g' := (mkF m 14 #[.val (.ref a), .val (.ref c1), .val (.long ex), .second] [])) st3 ?_
  obtain ⟨fs, hr, hrun, hended, hW, hsame⟩ := X3.leave (v := none) (fun _ => rfl)
  exact ⟨_, _, X3.returnOut hx Bd.returns (hb hby own_d1_14) hr, hrun, hended, _, _, rfl, (by show own_Q1 Z a c1 ex u u2 h0 n0 _ T3.heap _; rw [e3]; exact ⟨rfl, N3, (Keep.of_wr W2).wr W3 (Or.inl (List.mem_singleton.mpr rfl)), (G.other W2 (Or.inr (slot_ne (Or.inr (hw _ (List.mem_of_getElem? (i := 21) rfl))) (Or.inr (hw _ (List.mem_of_getElem? (i := 19) rfl))) (by decide) (t := .long) (t' := (.object "com/example/oaken_shelf/oakenshelf/store/SetOptions$Condition")) (by decide) (by decide)))).same W3⟩), ⟨_, rfl⟩, hW, hsame.mono (by decide) (by decide)⟩
theorem own_d4_0 : decode prog_69_method_5_code 0 = .ok (.aload_n 0, 1) := by decide +kernel
theorem own_d4_1 : decode prog_69_method_5_code 1 = .ok (.getfield 15, 3) := by decide +kernel
theorem own_d4_4 : decode prog_69_method_5_code 4 = .ok (.lconst 0, 1) := by decide +kernel
theorem own_d4_5 : decode prog_69_method_5_code 5 = .ok (.lcmp, 1) := by decide +kernel
theorem own_d4_6 : decode prog_69_method_5_code 6 = .ok (.ifCond .eq 16, 3) := by decide +kernel
theorem own_d4_22 : decode prog_69_method_5_code 22 = .ok (.ldc2_w 101, 3) := by decide +kernel
theorem own_d4_25 : decode prog_69_method_5_code 25 = .ok (.lstore_n 3, 1) := by decide +kernel
theorem own_d4_26 : decode prog_69_method_5_code 26 = .ok (.goto 10, 3) := by decide +kernel
theorem own_d4_36 : decode prog_69_method_5_code 36 = .ok (.lload_n 3, 1) := by decide +kernel
theorem own_d4_37 : decode prog_69_method_5_code 37 = .ok (.lreturn, 1) := by decide +kernel
theorem own_d4_9 : decode prog_69_method_5_code 9 = .ok (.lload_n 1, 1) := by decide +kernel
theorem own_d4_10 : decode prog_69_method_5_code 10 = .ok (.ldc2_w 101, 3) := by decide +kernel
theorem own_d4_13 : decode prog_69_method_5_code 13 = .ok (.aload_n 0, 1) := by decide +kernel
theorem own_d4_14 : decode prog_69_method_5_code 14 = .ok (.getfield 15, 3) := by decide +kernel
theorem own_d4_17 : decode prog_69_method_5_code 17 = .ok (.lsub, 1) := by decide +kernel
theorem own_d4_18 : decode prog_69_method_5_code 18 = .ok (.lcmp, 1) := by decide +kernel
theorem own_d4_19 : decode prog_69_method_5_code 19 = .ok (.ifCond .le 10, 3) := by decide +kernel
theorem own_d4_29 : decode prog_69_method_5_code 29 = .ok (.lload_n 1, 1) := by decide +kernel
theorem own_d4_30 : decode prog_69_method_5_code 30 = .ok (.aload_n 0, 1) := by decide +kernel
theorem own_d4_31 : decode prog_69_method_5_code 31 = .ok (.getfield 15, 3) := by decide +kernel
theorem own_d4_34 : decode prog_69_method_5_code 34 = .ok (.ladd, 1) := by decide +kernel
theorem own_d4_35 : decode prog_69_method_5_code 35 = .ok (.lstore_n 3, 1) := by decide +kernel
theorem own_rm4_ef (m : MethodId) (a : Addr) (now : Int64) : entryFrame m #[(.ref a), (.long now)] 5 = mkF m 0 #[.val (.ref a), .val (.long now), .second, .unset, .unset] [] := by first | (simp [entryFrame, mkF, argsToLocals, Value.category]; done) | rfl
def own_Q4 (Z : State) (a : Addr) (now : Int64) (ex : Int64) (h0 : Heap) (n0 : Nat) (v_ : Option Value) (h : Heap) (L_ : List Loc) : Prop := v_ = some (.long (own_dl now ex)) ∧ Fr n0 L_ ∧ (h = h0)
set_option maxRecDepth 65536 in
set_option maxHeartbeats 40000000 in
theorem own_rm4 (l : Launch) (Z : State) (a0 : Array Value) (hw : ∀ d ∈ tables_1, d.before a0 Z = true) (ws : List Jvm.Cond) (a : Addr) (now : Int64) (ex : Int64) (h0 : Heap) (n0 : Nat) (Z0 : n0 ≤ h0.size) (F : Fld Z h0 a "com/example/oaken_shelf/oakenshelf/store/SetOptions" "expiryMillis" "J" (.long ex)) :
    MetFree l (⟨"com/example/oaken_shelf/oakenshelf/store/SetOptions", "deadline", "(J)J"⟩ : MethodName) (head1 (Jvm.Cond.code (⟨"com/example/oaken_shelf/oakenshelf/store/SetOptions", "deadline", "(J)J"⟩ : MethodName) prog_69_method_5_code 5 (some .long) :: ws) ({ frames := 0, cells := 0, slots := 0, locals := 0 } : Room)) (fun a_ U_ => a_ = #[(.ref a), (.long now)] ∧ Z.Warmed39 U_.vm ∧ U_.heap = h0) (fun _ _ _ _ _ => True) (fun _ U_ o_ V_ => ∃ v_ L_, o_ = .returned v_ ∧ own_Q4 Z a now ex h0 n0 v_ V_.heap L_ ∧ FrameEnd U_ o_ V_ L_ ({ frames := 0, cells := 0, slots := 0, locals := 0 } : Room).cells ({ frames := 0, cells := 0, slots := 0, locals := 0 } : Room).slots) := by
  refine MetFree.of_bodySF (plainFor_of_name own_pn_com_example_oaken_shelf_oakenshelf_store_SetOptions) hisR ?_
  intro p e s m args below meth c s₁ Bd hml0 hP hK
  obtain ⟨rfl, hZ, hh⟩ := hP
  have hx := Bd.exec
  have hby := Bd.bytes
  have hml : c.maxLocals = 5 := hml0
  have hown : s.vm.findClass "com/example/oaken_shelf/oakenshelf/store/SetOptions" = some m.cls := findClass_of_methodNamed Bd.named
  have hnm := (name_of_methodNamed Bd.named Bd.method).1
  have X0 : Stand p l e ({ frames := 0, cells := 0, slots := 0, locals := 0 } : Room) s m #[(.ref a), (.long now)] below meth c s₁ [] 0 0 := Stand.of_body Bd
  have e0 : s₁.heap = h0 := by rw [← hh, Bd.state]; rfl
  have N0 := Fr.nil n0
  show own_G p e below s (own_Q4 Z a now ex h0 n0) ({ frames := 0, cells := 0, slots := 0, locals := 0 } : Room).cells ({ frames := 0, cells := 0, slots := 0, locals := 0 } : Room).slots s₁ (entryFrame m #[(.ref a), (.long now)] 5)
  rw [own_rm4_ef]
  refine own_w (T' := s₁) (g' := (mkF m 1 #[.val (.ref a), .val (.long now), .second, .unset, .unset] [(.ref a)])) (fun _ k_ => XS.aloadN X0.here hx rfl (hb hby own_d4_0) rfl rfl k_) ?_
  obtain ⟨T1, X1, e1, st1⟩ := getF X0 hx hZ hown (host := "") (Or.inl (hw _ (List.mem_of_getElem? (i := 20) rfl))) Via.refl e0 F (g := (mkF m 1 #[.val (.ref a), .val (.long now), .second, .unset, .unset] [(.ref a)])) rfl rfl (hb hby own_d4_1)
  refine own_w (T' := T1) (g' := (mkF m 4 #[.val (.ref a), .val (.long now), .second, .unset, .unset] [(.long ex)])) st1 ?_
  refine own_w (T' := T1) (g' := (mkF m 5 #[.val (.ref a), .val (.long now), .second, .unset, .unset] [(.long (0 : Int64)), (.long ex)])) (fun _ k_ => XS.lconst X1.here hx rfl (hb hby own_d4_4) k_) ?_
  refine own_w (T' := T1) (g' := (mkF m 6 #[.val (.ref a), .val (.long now), .second, .unset, .unset] [(.int (lcmpW ex (0 : Int64)))])) (fun _ k_ => XS.lcmp X1.here hx rfl (hb hby own_d4_5) rfl k_) ?_
  by_cases hc6 : ex = (0 : Int64)
  · refine own_w (T' := T1) (g' := (mkF m 22 #[.val (.ref a), .val (.long now), .second, .unset, .unset] [])) (fun _ k_ => XS.ifYes X1.here hx rfl (pc0 := 6) (pc' := 22) rfl (hb hby own_d4_6) rfl ((if0 _ _).trans (teq ((lw_eq _ _).mpr hc6)).1) (by decide) (by decide) k_) ?_
    refine own_w (T' := T1) (g' := (mkF m 25 #[.val (.ref a), .val (.long now), .second, .unset, .unset] [(.long (9223372036854775807 : Int64))])) (X1.ldc2Long hx hown (mvT hZ (hw _ (List.mem_of_getElem? (i := 27) rfl))) (g := (mkF m 22 #[.val (.ref a), .val (.long now), .second, .unset, .unset] [])) rfl (hb hby own_d4_22)) ?_
    refine own_w (T' := T1) (g' := (mkF m 26 #[.val (.ref a), .val (.long now), .second, .val (.long (9223372036854775807 : Int64)), .second] [])) (fun _ k_ => XS.lstoreN X1.here hx rfl (hb hby own_d4_25) rfl (l' := #[.val (.ref a), .val (.long now), .second, .val (.long (9223372036854775807 : Int64)), .second]) rfl k_) ?_
    refine own_w (T' := T1) (g' := (mkF m 36 #[.val (.ref a), .val (.long now), .second, .val (.long (9223372036854775807 : Int64)), .second] [])) (fun _ k_ => XS.goto X1.here hx rfl (pc0 := 26) (pc' := 36) rfl (hb hby own_d4_26) (by decide) (by decide) k_) ?_
    refine own_w (T' := T1) (g' := (mkF m 37 #[.val (.ref a), .val (.long now), .second, .val (.long (9223372036854775807 : Int64)), .second] [(.long (9223372036854775807 : Int64))])) (fun _ k_ => XS.lloadN X1.here hx rfl (hb hby own_d4_36) rfl k_) ?_
    obtain ⟨fs, hr, hrun, hended, hW, hsame⟩ := X1.leave (v := some (.long (9223372036854775807 : Int64))) (fun h => by rw [Bd.returns] at h; cases h)
    exact ⟨_, _, retOut X1 hx Bd.returns rfl (Or.inr (Or.inl ⟨rfl, rfl, _, rfl⟩)) (hb hby own_d4_37) hr, hrun, hended, _, _, rfl, (by show own_Q4 Z a now ex h0 n0 _ T1.heap _; rw [e1]; exact ⟨(by simp [own_dl, hc6]), N0, rfl⟩), ⟨_, rfl⟩, hW, hsame.mono (by decide) (by decide)⟩
  · refine own_w (T' := T1) (g' := (mkF m 9 #[.val (.ref a), .val (.long now), .second, .unset, .unset] [])) (fun _ k_ => XS.ifNo X1.here hx rfl (hb hby own_d4_6) rfl ((if0 _ _).trans (feq (mt (lw_eq _ _).mp hc6)).1) k_) ?_
    refine own_w (T' := T1) (g' := (mkF m 10 #[.val (.ref a), .val (.long now), .second, .unset, .unset] [(.long now)])) (fun _ k_ => XS.lloadN X1.here hx rfl (hb hby own_d4_9) rfl k_) ?_
    refine own_w (T' := T1) (g' := (mkF m 13 #[.val (.ref a), .val (.long now), .second, .unset, .unset] [(.long (9223372036854775807 : Int64)), (.long now)])) (X1.ldc2Long hx hown (mvT hZ (hw _ (List.mem_of_getElem? (i := 27) rfl))) (g := (mkF m 10 #[.val (.ref a), .val (.long now), .second, .unset, .unset] [(.long now)])) rfl (hb hby own_d4_10)) ?_
    refine own_w (T' := T1) (g' := (mkF m 14 #[.val (.ref a), .val (.long now), .second, .unset, .unset] [(.ref a), (.long (9223372036854775807 : Int64)), (.long now)])) (fun _ k_ => XS.aloadN X1.here hx rfl (hb hby own_d4_13) rfl rfl k_) ?_
    obtain ⟨T2, X2, e2, st2⟩ := getF X1 hx hZ hown (host := "") (Or.inl (hw _ (List.mem_of_getElem? (i := 20) rfl))) Via.refl e1 F (g := (mkF m 14 #[.val (.ref a), .val (.long now), .second, .unset, .unset] [(.ref a), (.long (9223372036854775807 : Int64)), (.long now)])) rfl rfl (hb hby own_d4_14)
    refine own_w (T' := T2) (g' := (mkF m 17 #[.val (.ref a), .val (.long now), .second, .unset, .unset] [(.long ex), (.long (9223372036854775807 : Int64)), (.long now)])) st2 ?_
    refine own_w (T' := T2) (g' := (mkF m 18 #[.val (.ref a), .val (.long now), .second, .unset, .unset] [(.long ((9223372036854775807 : Int64) - ex)), (.long now)])) (fun _ k_ => XS.lsub X2.here hx rfl (hb hby own_d4_17) rfl k_) ?_
    refine own_w (T' := T2) (g' := (mkF m 19 #[.val (.ref a), .val (.long now), .second, .unset, .unset] [(.int (lcmpW now ((9223372036854775807 : Int64) - ex)))])) (fun _ k_ => XS.lcmp X2.here hx rfl (hb hby own_d4_18) rfl k_) ?_
    by_cases hc19 : ((9223372036854775807 : Int64) - ex) < now
    · refine own_w (T' := T2) (g' := (mkF m 22 #[.val (.ref a), .val (.long now), .second, .unset, .unset] [])) (fun _ k_ => XS.ifNo X2.here hx rfl (hb hby own_d4_19) rfl ((if0 _ _).trans (tlt ((lw_gt _ _).mpr hc19)).2.2.2) k_) ?_
      refine own_w (T' := T2) (g' := (mkF m 25 #[.val (.ref a), .val (.long now), .second, .unset, .unset] [(.long (9223372036854775807 : Int64))])) (X2.ldc2Long hx hown (mvT hZ (hw _ (List.mem_of_getElem? (i := 27) rfl))) (g := (mkF m 22 #[.val (.ref a), .val (.long now), .second, .unset, .unset] [])) rfl (hb hby own_d4_22)) ?_
      refine own_w (T' := T2) (g' := (mkF m 26 #[.val (.ref a), .val (.long now), .second, .val (.long (9223372036854775807 : Int64)), .second] [])) (fun _ k_ => XS.lstoreN X2.here hx rfl (hb hby own_d4_25) rfl (l' := #[.val (.ref a), .val (.long now), .second, .val (.long (9223372036854775807 : Int64)), .second]) rfl k_) ?_
      refine own_w (T' := T2) (g' := (mkF m 36 #[.val (.ref a), .val (.long now), .second, .val (.long (9223372036854775807 : Int64)), .second] [])) (fun _ k_ => XS.goto X2.here hx rfl (pc0 := 26) (pc' := 36) rfl (hb hby own_d4_26) (by decide) (by decide) k_) ?_
      refine own_w (T' := T2) (g' := (mkF m 37 #[.val (.ref a), .val (.long now), .second, .val (.long (9223372036854775807 : Int64)), .second] [(.long (9223372036854775807 : Int64))])) (fun _ k_ => XS.lloadN X2.here hx rfl (hb hby own_d4_36) rfl k_) ?_
      obtain ⟨fs, hr, hrun, hended, hW, hsame⟩ := X2.leave (v := some (.long (9223372036854775807 : Int64))) (fun h => by rw [Bd.returns] at h; cases h)
      exact ⟨_, _, retOut X2 hx Bd.returns rfl (Or.inr (Or.inl ⟨rfl, rfl, _, rfl⟩)) (hb hby own_d4_37) hr, hrun, hended, _, _, rfl, (by show own_Q4 Z a now ex h0 n0 _ T2.heap _; rw [e2]; exact ⟨(by simp [own_dl, hc6, hc19]), N0, rfl⟩), ⟨_, rfl⟩, hW, hsame.mono (by decide) (by decide)⟩
    · refine own_w (T' := T2) (g' := (mkF m 29 #[.val (.ref a), .val (.long now), .second, .unset, .unset] [])) (fun _ k_ => XS.ifYes X2.here hx rfl (pc0 := 19) (pc' := 29) rfl (hb hby own_d4_19) rfl ((if0 _ _).trans (flt (mt (lw_gt _ _).mp hc19)).2.2.2) (by decide) (by decide) k_) ?_
      refine own_w (T' := T2) (g' := (mkF m 30 #[.val (.ref a), .val (.long now), .second, .unset, .unset] [(.long now)])) (fun _ k_ => XS.lloadN X2.here hx rfl (hb hby own_d4_29) rfl k_) ?_
      refine own_w (T' := T2) (g' := (mkF m 31 #[.val (.ref a), .val (.long now), .second, .unset, .unset] [(.ref a), (.long now)])) (fun _ k_ => XS.aloadN X2.here hx rfl (hb hby own_d4_30) rfl rfl k_) ?_
      obtain ⟨T3, X3, e3, st3⟩ := getF X2 hx hZ hown (host := "") (Or.inl (hw _ (List.mem_of_getElem? (i := 20) rfl))) Via.refl e2 F (g := (mkF m 31 #[.val (.ref a), .val (.long now), .second, .unset, .unset] [(.ref a), (.long now)])) rfl rfl (hb hby own_d4_31)
      refine own_w (T' := T3) (g' := (mkF m 34 #[.val (.ref a), .val (.long now), .second, .unset, .unset] [(.long ex), (.long now)])) st3 ?_
      refine own_w (T' := T3) (g' := (mkF m 35 #[.val (.ref a), .val (.long now), .second, .unset, .unset] [(.long (now + ex))])) (fun _ k_ => XS.ladd X3.here hx rfl (hb hby own_d4_34) rfl k_) ?_
      refine own_w (T' := T3) (g' := (mkF m 36 #[.val (.ref a), .val (.long now), .second, .val (.long (now + ex)), .second] [])) (fun _ k_ => XS.lstoreN X3.here hx rfl (hb hby own_d4_35) rfl (l' := #[.val (.ref a), .val (.long now), .second, .val (.long (now + ex)), .second]) rfl k_) ?_
      refine own_w (T' := T3) (g' := (mkF m 37 #[.val (.ref a), .val (.long now), .second, .val (.long (now + ex)), .second] [(.long (now + ex))])) (fun _ k_ => XS.lloadN X3.here hx rfl (hb hby own_d4_36) rfl k_) ?_
      obtain ⟨fs, hr, hrun, hended, hW, hsame⟩ := X3.leave (v := some (.long (now + ex))) (fun h => by rw [Bd.returns] at h; cases h)
      exact ⟨_, _, retOut X3 hx Bd.returns rfl (Or.inr (Or.inl ⟨rfl, rfl, _, rfl⟩)) (hb hby own_d4_37) hr, hrun, hended, _, _, rfl, (by show own_Q4 Z a now ex h0 n0 _ T3.heap _; rw [e3]; exact ⟨(by simp [own_dl, hc6, hc19]), N0, rfl⟩), ⟨_, rfl⟩, hW, hsame.mono (by decide) (by decide)⟩
theorem own_d5_0 : decode method_3_code 0 = .ok (.lload_n 2, 1) := by decide +kernel
theorem own_d5_1 : decode method_3_code 1 = .ok (.lconst 0, 1) := by decide +kernel
theorem own_d5_2 : decode method_3_code 2 = .ok (.lcmp, 1) := by decide +kernel
theorem own_d5_3 : decode method_3_code 3 = .ok (.ifCond .ne 7, 3) := by decide +kernel
theorem own_d5_6 : decode method_3_code 6 = .ok (.ldc2_w 9, 3) := by decide +kernel
theorem own_d5_9 : decode method_3_code 9 = .ok (.lreturn, 1) := by decide +kernel
theorem own_d5_10 : decode method_3_code 10 = .ok (.lload_n 0, 1) := by decide +kernel
theorem own_d5_11 : decode method_3_code 11 = .ok (.lload_n 2, 1) := by decide +kernel
theorem own_d5_12 : decode method_3_code 12 = .ok (.ladd, 1) := by decide +kernel
theorem own_d5_13 : decode method_3_code 13 = .ok (.lstore 4, 2) := by decide +kernel
theorem own_d5_15 : decode method_3_code 15 = .ok (.lload_n 0, 1) := by decide +kernel
theorem own_d5_16 : decode method_3_code 16 = .ok (.lconst 0, 1) := by decide +kernel
theorem own_d5_17 : decode method_3_code 17 = .ok (.lcmp, 1) := by decide +kernel
theorem own_d5_18 : decode method_3_code 18 = .ok (.ifCond .lt 14, 3) := by decide +kernel
theorem own_d5_32 : decode method_3_code 32 = .ok (.lload 4, 2) := by decide +kernel
theorem own_d5_34 : decode method_3_code 34 = .ok (.lreturn, 1) := by decide +kernel
theorem own_d5_21 : decode method_3_code 21 = .ok (.lload 4, 2) := by decide +kernel
theorem own_d5_23 : decode method_3_code 23 = .ok (.lconst 0, 1) := by decide +kernel
theorem own_d5_24 : decode method_3_code 24 = .ok (.lcmp, 1) := by decide +kernel
theorem own_d5_25 : decode method_3_code 25 = .ok (.ifCond .ge 7, 3) := by decide +kernel
theorem own_d5_28 : decode method_3_code 28 = .ok (.ldc2_w 9, 3) := by decide +kernel
theorem own_d5_31 : decode method_3_code 31 = .ok (.lreturn, 1) := by decide +kernel
theorem own_pn_com_example_oaken_shelf_oakenshelf_store_SetOptionsDeadlinePinLaw : plainName "com/example/oaken_shelf/oakenshelf/store/SetOptionsDeadlinePinLaw" = true := by first | (simp [plainName, overriddenIn]; done) | decide +kernel
theorem own_rm5_ef (m : MethodId) (now : Int64) (ex : Int64) : entryFrame m #[(.long now), (.long ex)] 6 = mkF m 0 #[.val (.long now), .second, .val (.long ex), .second, .unset, .unset] [] := by first | (simp [entryFrame, mkF, argsToLocals, Value.category]; done) | rfl
def own_Q5 (Z : State) (now : Int64) (ex : Int64) (h0 : Heap) (n0 : Nat) (v_ : Option Value) (h : Heap) (L_ : List Loc) : Prop := v_ = some (.long (own_ex now ex)) ∧ Fr n0 L_ ∧ (h = h0)
set_option maxRecDepth 65536 in
set_option maxHeartbeats 40000000 in
theorem own_rm5 (l : Launch) (Z : State) (a0 : Array Value) (hw : ∀ d ∈ tables_1, d.before a0 Z = true) (ws : List Jvm.Cond) (now : Int64) (ex : Int64) (h0 : Heap) (n0 : Nat) (Z0 : n0 ≤ h0.size)  :
    MetFree l (⟨"com/example/oaken_shelf/oakenshelf/store/SetOptionsDeadlinePinLaw", "expected", "(JJ)J"⟩ : MethodName) (head1 (Jvm.Cond.code (⟨"com/example/oaken_shelf/oakenshelf/store/SetOptionsDeadlinePinLaw", "expected", "(JJ)J"⟩ : MethodName) method_3_code 6 (some .long) :: ws) ({ frames := 0, cells := 0, slots := 0, locals := 0 } : Room)) (fun a_ U_ => a_ = #[(.long now), (.long ex)] ∧ Z.Warmed39 U_.vm ∧ U_.heap = h0) (fun _ _ _ _ _ => True) (fun _ U_ o_ V_ => ∃ v_ L_, o_ = .returned v_ ∧ own_Q5 Z now ex h0 n0 v_ V_.heap L_ ∧ FrameEnd U_ o_ V_ L_ ({ frames := 0, cells := 0, slots := 0, locals := 0 } : Room).cells ({ frames := 0, cells := 0, slots := 0, locals := 0 } : Room).slots) := by
  refine MetFree.of_bodySF (plainFor_of_name own_pn_com_example_oaken_shelf_oakenshelf_store_SetOptionsDeadlinePinLaw) hisR ?_
  intro p e s m args below meth c s₁ Bd hml0 hP hK
  obtain ⟨rfl, hZ, hh⟩ := hP
  have hx := Bd.exec
  have hby := Bd.bytes
  have hml : c.maxLocals = 6 := hml0
  have hown : s.vm.findClass "com/example/oaken_shelf/oakenshelf/store/SetOptionsDeadlinePinLaw" = some m.cls := findClass_of_methodNamed Bd.named
  have hnm := (name_of_methodNamed Bd.named Bd.method).1
  have X0 : Stand p l e ({ frames := 0, cells := 0, slots := 0, locals := 0 } : Room) s m #[(.long now), (.long ex)] below meth c s₁ [] 0 0 := Stand.of_body Bd
  have e0 : s₁.heap = h0 := by rw [← hh, Bd.state]; rfl
  have N0 := Fr.nil n0
  show own_G p e below s (own_Q5 Z now ex h0 n0) ({ frames := 0, cells := 0, slots := 0, locals := 0 } : Room).cells ({ frames := 0, cells := 0, slots := 0, locals := 0 } : Room).slots s₁ (entryFrame m #[(.long now), (.long ex)] 6)
  rw [own_rm5_ef]
  refine own_w (T' := s₁) (g' := (mkF m 1 #[.val (.long now), .second, .val (.long ex), .second, .unset, .unset] [(.long ex)])) (fun _ k_ => XS.lloadN X0.here hx rfl (hb hby own_d5_0) rfl k_) ?_
  refine own_w (T' := s₁) (g' := (mkF m 2 #[.val (.long now), .second, .val (.long ex), .second, .unset, .unset] [(.long (0 : Int64)), (.long ex)])) (fun _ k_ => XS.lconst X0.here hx rfl (hb hby own_d5_1) k_) ?_
  refine own_w (T' := s₁) (g' := (mkF m 3 #[.val (.long now), .second, .val (.long ex), .second, .unset, .unset] [(.int (lcmpW ex (0 : Int64)))])) (fun _ k_ => XS.lcmp X0.here hx rfl (hb hby own_d5_2) rfl k_) ?_
  by_cases hc3 : ex = (0 : Int64)
  · refine own_w (T' := s₁) (g' := (mkF m 6 #[.val (.long now), .second, .val (.long ex), .second, .unset, .unset] [])) (fun _ k_ => XS.ifNo X0.here hx rfl (hb hby own_d5_3) rfl ((if0 _ _).trans (teq ((lw_eq _ _).mpr hc3)).2) k_) ?_
    refine own_w (T' := s₁) (g' := (mkF m 9 #[.val (.long now), .second, .val (.long ex), .second, .unset, .unset] [(.long (9223372036854775807 : Int64))])) (X0.ldc2Long hx hown (mvT hZ (hw _ (List.mem_of_getElem? (i := 0) rfl))) (g := (mkF m 6 #[.val (.long now), .second, .val (.long ex), .second, .unset, .unset] [])) rfl (hb hby own_d5_6)) ?_
    obtain ⟨fs, hr, hrun, hended, hW, hsame⟩ := X0.leave (v := some (.long (9223372036854775807 : Int64))) (fun h => by rw [Bd.returns] at h; cases h)
    exact ⟨_, _, retOut X0 hx Bd.returns rfl (Or.inr (Or.inl ⟨rfl, rfl, _, rfl⟩)) (hb hby own_d5_9) hr, hrun, hended, _, _, rfl, (by show own_Q5 Z now ex h0 n0 _ s₁.heap _; rw [e0]; exact ⟨(by simp [own_ex, hc3]), N0, rfl⟩), ⟨_, rfl⟩, hW, hsame.mono (by decide) (by decide)⟩
  · refine own_w (T' := s₁) (g' := (mkF m 10 #[.val (.long now), .second, .val (.long ex), .second, .unset, .unset] [])) (fun _ k_ => XS.ifYes X0.here hx rfl (pc0 := 3) (pc' := 10) rfl (hb hby own_d5_3) rfl ((if0 _ _).trans (feq (mt (lw_eq _ _).mp hc3)).2) (by decide) (by decide) k_) ?_
    refine own_w (T' := s₁) (g' := (mkF m 11 #[.val (.long now), .second, .val (.long ex), .second, .unset, .unset] [(.long now)])) (fun _ k_ => XS.lloadN X0.here hx rfl (hb hby own_d5_10) rfl k_) ?_
    refine own_w (T' := s₁) (g' := (mkF m 12 #[.val (.long now), .second, .val (.long ex), .second, .unset, .unset] [(.long ex), (.long now)])) (fun _ k_ => XS.lloadN X0.here hx rfl (hb hby own_d5_11) rfl k_) ?_
    refine own_w (T' := s₁) (g' := (mkF m 13 #[.val (.long now), .second, .val (.long ex), .second, .unset, .unset] [(.long (now + ex))])) (fun _ k_ => XS.ladd X0.here hx rfl (hb hby own_d5_12) rfl k_) ?_
    refine own_w (T' := s₁) (g' := (mkF m 15 #[.val (.long now), .second, .val (.long ex), .second, .val (.long (now + ex)), .second] [])) (fun _ k_ => XS.lstore X0.here hx rfl (hb hby own_d5_13) rfl (l' := #[.val (.long now), .second, .val (.long ex), .second, .val (.long (now + ex)), .second]) rfl k_) ?_
    refine own_w (T' := s₁) (g' := (mkF m 16 #[.val (.long now), .second, .val (.long ex), .second, .val (.long (now + ex)), .second] [(.long now)])) (fun _ k_ => XS.lloadN X0.here hx rfl (hb hby own_d5_15) rfl k_) ?_
    refine own_w (T' := s₁) (g' := (mkF m 17 #[.val (.long now), .second, .val (.long ex), .second, .val (.long (now + ex)), .second] [(.long (0 : Int64)), (.long now)])) (fun _ k_ => XS.lconst X0.here hx rfl (hb hby own_d5_16) k_) ?_
    refine own_w (T' := s₁) (g' := (mkF m 18 #[.val (.long now), .second, .val (.long ex), .second, .val (.long (now + ex)), .second] [(.int (lcmpW now (0 : Int64)))])) (fun _ k_ => XS.lcmp X0.here hx rfl (hb hby own_d5_17) rfl k_) ?_
    by_cases hc18 : now < (0 : Int64)
    · refine own_w (T' := s₁) (g' := (mkF m 32 #[.val (.long now), .second, .val (.long ex), .second, .val (.long (now + ex)), .second] [])) (fun _ k_ => XS.ifYes X0.here hx rfl (pc0 := 18) (pc' := 32) rfl (hb hby own_d5_18) rfl ((if0 _ _).trans (tlt ((lw_lt _ _).mpr hc18)).1) (by decide) (by decide) k_) ?_
      refine own_w (T' := s₁) (g' := (mkF m 34 #[.val (.long now), .second, .val (.long ex), .second, .val (.long (now + ex)), .second] [(.long (now + ex))])) (fun _ k_ => XS.lload X0.here hx rfl (hb hby own_d5_32) rfl k_) ?_
      obtain ⟨fs, hr, hrun, hended, hW, hsame⟩ := X0.leave (v := some (.long (now + ex))) (fun h => by rw [Bd.returns] at h; cases h)
      exact ⟨_, _, retOut X0 hx Bd.returns rfl (Or.inr (Or.inl ⟨rfl, rfl, _, rfl⟩)) (hb hby own_d5_34) hr, hrun, hended, _, _, rfl, (by show own_Q5 Z now ex h0 n0 _ s₁.heap _; rw [e0]; exact ⟨(by simp [own_ex, hc3, hc18]), N0, rfl⟩), ⟨_, rfl⟩, hW, hsame.mono (by decide) (by decide)⟩
    · refine own_w (T' := s₁) (g' := (mkF m 21 #[.val (.long now), .second, .val (.long ex), .second, .val (.long (now + ex)), .second] [])) (fun _ k_ => XS.ifNo X0.here hx rfl (hb hby own_d5_18) rfl ((if0 _ _).trans (flt (mt (lw_lt _ _).mp hc18)).1) k_) ?_
      refine own_w (T' := s₁) (g' := (mkF m 23 #[.val (.long now), .second, .val (.long ex), .second, .val (.long (now + ex)), .second] [(.long (now + ex))])) (fun _ k_ => XS.lload X0.here hx rfl (hb hby own_d5_21) rfl k_) ?_
      refine own_w (T' := s₁) (g' := (mkF m 24 #[.val (.long now), .second, .val (.long ex), .second, .val (.long (now + ex)), .second] [(.long (0 : Int64)), (.long (now + ex))])) (fun _ k_ => XS.lconst X0.here hx rfl (hb hby own_d5_23) k_) ?_
      refine own_w (T' := s₁) (g' := (mkF m 25 #[.val (.long now), .second, .val (.long ex), .second, .val (.long (now + ex)), .second] [(.int (lcmpW (now + ex) (0 : Int64)))])) (fun _ k_ => XS.lcmp X0.here hx rfl (hb hby own_d5_24) rfl k_) ?_
      by_cases hc25 : (now + ex) < (0 : Int64)
      · refine own_w (T' := s₁) (g' := (mkF m 28 #[.val (.long now), .second, .val (.long ex), .second, .val (.long (now + ex)), .second] [])) (fun _ k_ => XS.ifNo X0.here hx rfl (hb hby own_d5_25) rfl ((if0 _ _).trans (tlt ((lw_lt _ _).mpr hc25)).2.1) k_) ?_
        refine own_w (T' := s₁) (g' := (mkF m 31 #[.val (.long now), .second, .val (.long ex), .second, .val (.long (now + ex)), .second] [(.long (9223372036854775807 : Int64))])) (X0.ldc2Long hx hown (mvT hZ (hw _ (List.mem_of_getElem? (i := 0) rfl))) (g := (mkF m 28 #[.val (.long now), .second, .val (.long ex), .second, .val (.long (now + ex)), .second] [])) rfl (hb hby own_d5_28)) ?_
        obtain ⟨fs, hr, hrun, hended, hW, hsame⟩ := X0.leave (v := some (.long (9223372036854775807 : Int64))) (fun h => by rw [Bd.returns] at h; cases h)
        exact ⟨_, _, retOut X0 hx Bd.returns rfl (Or.inr (Or.inl ⟨rfl, rfl, _, rfl⟩)) (hb hby own_d5_31) hr, hrun, hended, _, _, rfl, (by show own_Q5 Z now ex h0 n0 _ s₁.heap _; rw [e0]; exact ⟨(by simp [own_ex, hc3, hc18, hc25]), N0, rfl⟩), ⟨_, rfl⟩, hW, hsame.mono (by decide) (by decide)⟩
      · refine own_w (T' := s₁) (g' := (mkF m 32 #[.val (.long now), .second, .val (.long ex), .second, .val (.long (now + ex)), .second] [])) (fun _ k_ => XS.ifYes X0.here hx rfl (pc0 := 25) (pc' := 32) rfl (hb hby own_d5_25) rfl ((if0 _ _).trans (flt (mt (lw_lt _ _).mp hc25)).2.1) (by decide) (by decide) k_) ?_
        refine own_w (T' := s₁) (g' := (mkF m 34 #[.val (.long now), .second, .val (.long ex), .second, .val (.long (now + ex)), .second] [(.long (now + ex))])) (fun _ k_ => XS.lload X0.here hx rfl (hb hby own_d5_32) rfl k_) ?_
        obtain ⟨fs, hr, hrun, hended, hW, hsame⟩ := X0.leave (v := some (.long (now + ex))) (fun h => by rw [Bd.returns] at h; cases h)
        exact ⟨_, _, retOut X0 hx Bd.returns rfl (Or.inr (Or.inl ⟨rfl, rfl, _, rfl⟩)) (hb hby own_d5_34) hr, hrun, hended, _, _, rfl, (by show own_Q5 Z now ex h0 n0 _ s₁.heap _; rw [e0]; exact ⟨(by simp [own_ex, hc3, hc18, hc25]), N0, rfl⟩), ⟨_, rfl⟩, hW, hsame.mono (by decide) (by decide)⟩
theorem own_pd1 : parseMethodDescriptor "(Lcom/example/oaken_shelf/oakenshelf/store/SetOptions$Condition;J)V" = some ⟨[(.object "com/example/oaken_shelf/oakenshelf/store/SetOptions$Condition"), .long], none⟩ := by decide +kernel
theorem own_pd2 : parseMethodDescriptor "(J)J" = some ⟨[.long], some .long⟩ := by decide +kernel
theorem own_pd3 : parseMethodDescriptor "(JJ)J" = some ⟨[.long, .long], some .long⟩ := by decide +kernel
theorem own_rm0_ef (m : MethodId) (ns : Int64) (es : Int64) (sel : Int32) : entryFrame m #[(.long ns), (.long es), (.int sel)] maxLocals = mkF m 0 #[.val (.long ns), .second, .val (.long es), .second, .val (.int sel), .unset, .unset, .unset, .unset, .unset, .unset, .unset, .unset, .unset] [] := by first | (simp [entryFrame, mkF, argsToLocals, Value.category, maxLocals]; done) | rfl
def own_Q0 (Z : State) (ns : Int64) (es : Int64) (sel : Int32) (cNEVER : Addr) (cEQUAL : Addr) (cALWAYS : Addr) (h0 : Heap) (n0 : Nat) (v_ : Option Value) (h : Heap) (L_ : List Loc) : Prop := v_ = some (.int (1 : Int32)) ∧ Fr n0 L_
set_option maxRecDepth 65536 in
set_option maxHeartbeats 40000000 in
theorem own_rm0 (l : Launch) (Z : State) (a0 : Array Value) (hw : ∀ d ∈ tables_1, d.before a0 Z = true) (ws : List Jvm.Cond) (ns : Int64) (es : Int64) (sel : Int32) (cNEVER : Addr) (cEQUAL : Addr) (cALWAYS : Addr) (h0 : Heap) (n0 : Nat) (Z0 : n0 ≤ h0.size) (SN : Sta Z h0 "com/example/oaken_shelf/oakenshelf/store/SetOptions$Condition" "NEVER" "Lcom/example/oaken_shelf/oakenshelf/store/SetOptions$Condition;" (.ref cNEVER)) (SE : Sta Z h0 "com/example/oaken_shelf/oakenshelf/store/SetOptions$Condition" "EQUAL" "Lcom/example/oaken_shelf/oakenshelf/store/SetOptions$Condition;" (.ref cEQUAL)) (SA : Sta Z h0 "com/example/oaken_shelf/oakenshelf/store/SetOptions$Condition" "ALWAYS" "Lcom/example/oaken_shelf/oakenshelf/store/SetOptions$Condition;" (.ref cALWAYS)) :
    MetFree l x (head1 (Jvm.Cond.code x code maxLocals ret :: ws) room_1) (fun a_ U_ => a_ = #[(.long ns), (.long es), (.int sel)] ∧ Z.Warmed39 U_.vm ∧ U_.heap = h0) (fun _ _ _ _ _ => True) (fun _ U_ o_ V_ => ∃ v_ L_, o_ = .returned v_ ∧ own_Q0 Z ns es sel cNEVER cEQUAL cALWAYS h0 n0 v_ V_.heap L_ ∧ FrameEnd U_ o_ V_ L_ room_1.cells room_1.slots) := by
  refine MetFree.of_bodySF (plainFor_of_name own_pn_com_example_oaken_shelf_oakenshelf_store_SetOptionsDeadlinePinLaw) hisR ?_
  intro p e s m args below meth c s₁ Bd hml0 hP hK
  obtain ⟨rfl, hZ, hh⟩ := hP
  have hx := Bd.exec
  have hby := Bd.bytes
  have hml : c.maxLocals = 14 := hml0
  have hown : s.vm.findClass "com/example/oaken_shelf/oakenshelf/store/SetOptionsDeadlinePinLaw" = some m.cls := findClass_of_methodNamed Bd.named
  have hnm := (name_of_methodNamed Bd.named Bd.method).1
  have X0 : Stand p l e room_1 s m #[(.long ns), (.long es), (.int sel)] below meth c s₁ [] 0 0 := Stand.of_body Bd
  have e0 : s₁.heap = h0 := by rw [← hh, Bd.state]; rfl
  have N0 := Fr.nil n0
  show own_G p e below s (own_Q0 Z ns es sel cNEVER cEQUAL cALWAYS h0 n0) room_1.cells room_1.slots s₁ (entryFrame m #[(.long ns), (.long es), (.int sel)] maxLocals)
  rw [own_rm0_ef]
  refine own_w (T' := s₁) (g' := (mkF m 1 #[.val (.long ns), .second, .val (.long es), .second, .val (.int sel), .unset, .unset, .unset, .unset, .unset, .unset, .unset, .unset, .unset] [(.long es)])) (fun _ k_ => XS.lloadN X0.here hx rfl (hb hby at_0) rfl k_) ?_
  refine own_w (T' := s₁) (g' := (mkF m 4 #[.val (.long ns), .second, .val (.long es), .second, .val (.int sel), .unset, .unset, .unset, .unset, .unset, .unset, .unset, .unset, .unset] [(.long (9223372036854775807 : Int64)), (.long es)])) (X0.ldc2Long hx hown (mvT hZ (hw _ (List.mem_of_getElem? (i := 0) rfl))) (g := (mkF m 1 #[.val (.long ns), .second, .val (.long es), .second, .val (.int sel), .unset, .unset, .unset, .unset, .unset, .unset, .unset, .unset, .unset] [(.long es)])) rfl (hb hby at_1)) ?_
  refine own_w (T' := s₁) (g' := (mkF m 5 #[.val (.long ns), .second, .val (.long es), .second, .val (.int sel), .unset, .unset, .unset, .unset, .unset, .unset, .unset, .unset, .unset] [(.long (es &&& (9223372036854775807 : Int64)))])) (fun _ k_ => XS.land X0.here hx rfl (hb hby at_4) rfl k_) ?_
  refine own_w (T' := s₁) (g' := (mkF m 7 #[.val (.long ns), .second, .val (.long es), .second, .val (.int sel), .val (.long (es &&& (9223372036854775807 : Int64))), .second, .unset, .unset, .unset, .unset, .unset, .unset, .unset] [])) (fun _ k_ => XS.lstore X0.here hx rfl (hb hby at_5) rfl (l' := #[.val (.long ns), .second, .val (.long es), .second, .val (.int sel), .val (.long (es &&& (9223372036854775807 : Int64))), .second, .unset, .unset, .unset, .unset, .unset, .unset, .unset]) rfl k_) ?_
  refine own_w (T' := s₁) (g' := (mkF m 9 #[.val (.long ns), .second, .val (.long es), .second, .val (.int sel), .val (.long (es &&& (9223372036854775807 : Int64))), .second, .unset, .unset, .unset, .unset, .unset, .unset, .unset] [(.int sel)])) (fun _ k_ => XS.iload X0.here hx rfl (hb hby at_7) rfl k_) ?_
  refine own_w (T' := s₁) (g' := (mkF m 10 #[.val (.long ns), .second, .val (.long es), .second, .val (.int sel), .val (.long (es &&& (9223372036854775807 : Int64))), .second, .unset, .unset, .unset, .unset, .unset, .unset, .unset] [(.int (5 : Int32)), (.int sel)])) (fun _ k_ => XS.iconst X0.here hx rfl (hb hby at_9) k_) ?_
  refine own_w (T' := s₁) (g' := (mkF m 11 #[.val (.long ns), .second, .val (.long es), .second, .val (.int sel), .val (.long (es &&& (9223372036854775807 : Int64))), .second, .unset, .unset, .unset, .unset, .unset, .unset, .unset] [(.int ((sel.toUInt32 >>> ((5 : Int32) &&& 31).toUInt32).toInt32))])) (fun _ k_ => XS.iushr X0.here hx rfl (hb hby at_10) rfl k_) ?_
  refine own_w (T' := s₁) (g' := (mkF m 12 #[.val (.long ns), .second, .val (.long es), .second, .val (.int sel), .val (.long (es &&& (9223372036854775807 : Int64))), .second, .unset, .unset, .unset, .unset, .unset, .unset, .unset] [(.int (1 : Int32)), (.int ((sel.toUInt32 >>> ((5 : Int32) &&& 31).toUInt32).toInt32))])) (fun _ k_ => XS.iconst X0.here hx rfl (hb hby at_11) k_) ?_
  refine own_w (T' := s₁) (g' := (mkF m 13 #[.val (.long ns), .second, .val (.long es), .second, .val (.int sel), .val (.long (es &&& (9223372036854775807 : Int64))), .second, .unset, .unset, .unset, .unset, .unset, .unset, .unset] [(.int (((sel.toUInt32 >>> ((5 : Int32) &&& 31).toUInt32).toInt32) &&& (1 : Int32)))])) (fun _ k_ => XS.iand X0.here hx rfl (hb hby at_12) rfl k_) ?_
  have J24 : ∀ (TJ : State) (LJ : List Loc) (XJ : Stand p l e room_1 s m #[(.long ns), (.long es), (.int sel)] below meth c TJ LJ 0 0) (eJ : TJ.heap = h0) (NJ : Fr n0 LJ) (ex : Int64) (hex : ¬ ex < 0), own_G p e below s (own_Q0 Z ns es sel cNEVER cEQUAL cALWAYS h0 n0) room_1.cells room_1.slots TJ (mkF m 24 #[.val (.long ns), .second, .val (.long es), .second, .val (.int sel), .val (.long ex), .second, .unset, .unset, .unset, .unset, .unset, .unset, .unset] []) := by
    intro TJ LJ XJ eJ NJ ex hex
    refine own_w (T' := TJ) (g' := (mkF m 26 #[.val (.long ns), .second, .val (.long es), .second, .val (.int sel), .val (.long ex), .second, .unset, .unset, .unset, .unset, .unset, .unset, .unset] [(.int sel)])) (fun _ k_ => XS.iload XJ.here hx rfl (hb hby at_24) rfl k_) ?_
    refine own_w (T' := TJ) (g' := (mkF m 27 #[.val (.long ns), .second, .val (.long es), .second, .val (.int sel), .val (.long ex), .second, .unset, .unset, .unset, .unset, .unset, .unset, .unset] [(.int (3 : Int32)), (.int sel)])) (fun _ k_ => XS.iconst XJ.here hx rfl (hb hby at_26) k_) ?_
    refine own_w (T' := TJ) (g' := (mkF m 28 #[.val (.long ns), .second, .val (.long es), .second, .val (.int sel), .val (.long ex), .second, .unset, .unset, .unset, .unset, .unset, .unset, .unset] [(.int (sel &&& (3 : Int32)))])) (fun _ k_ => XS.iand XJ.here hx rfl (hb hby at_27) rfl k_) ?_
    refine own_w (T' := TJ) (g' := (mkF m 30 #[.val (.long ns), .second, .val (.long es), .second, .val (.int sel), .val (.long ex), .second, .val (.int (sel &&& (3 : Int32))), .unset, .unset, .unset, .unset, .unset, .unset] [])) (fun _ k_ => XS.istore XJ.here hx rfl (hb hby at_28) rfl (l' := #[.val (.long ns), .second, .val (.long es), .second, .val (.int sel), .val (.long ex), .second, .val (.int (sel &&& (3 : Int32))), .unset, .unset, .unset, .unset, .unset, .unset]) rfl k_) ?_
    refine own_w (T' := TJ) (g' := (mkF m 32 #[.val (.long ns), .second, .val (.long es), .second, .val (.int sel), .val (.long ex), .second, .val (.int (sel &&& (3 : Int32))), .unset, .unset, .unset, .unset, .unset, .unset] [(.int (sel &&& (3 : Int32)))])) (fun _ k_ => XS.iload XJ.here hx rfl (hb hby at_30) rfl k_) ?_
    refine own_w (T' := TJ) (g' := (mkF m 33 #[.val (.long ns), .second, .val (.long es), .second, .val (.int sel), .val (.long ex), .second, .val (.int (sel &&& (3 : Int32))), .unset, .unset, .unset, .unset, .unset, .unset] [(.int (1 : Int32)), (.int (sel &&& (3 : Int32)))])) (fun _ k_ => XS.iconst XJ.here hx rfl (hb hby at_32) k_) ?_
    have J63 : ∀ (TJ : State) (LJ : List Loc) (XJ : Stand p l e room_1 s m #[(.long ns), (.long es), (.int sel)] below meth c TJ LJ 0 0) (eJ : TJ.heap = h0) (NJ : Fr n0 LJ) (cn : Addr), own_G p e below s (own_Q0 Z ns es sel cNEVER cEQUAL cALWAYS h0 n0) room_1.cells room_1.slots TJ (mkF m 63 #[.val (.long ns), .second, .val (.long es), .second, .val (.int sel), .val (.long ex), .second, .val (.int (sel &&& (3 : Int32))), .val (.ref cn), .unset, .unset, .unset, .unset, .unset] []) := by
      intro TJ LJ XJ eJ NJ cn
      refine own_w (T' := TJ) (g' := (mkF m 64 #[.val (.long ns), .second, .val (.long es), .second, .val (.int sel), .val (.long ex), .second, .val (.int (sel &&& (3 : Int32))), .val (.ref cn), .unset, .unset, .unset, .unset, .unset] [(.long ns)])) (fun _ k_ => XS.lloadN XJ.here hx rfl (hb hby at_63) rfl k_) ?_
      refine own_w (T' := TJ) (g' := (mkF m 66 #[.val (.long ns), .second, .val (.long es), .second, .val (.int sel), .val (.long ex), .second, .val (.int (sel &&& (3 : Int32))), .val (.ref cn), .val (.long ns), .second, .unset, .unset, .unset] [])) (fun _ k_ => XS.lstore XJ.here hx rfl (hb hby at_64) rfl (l' := #[.val (.long ns), .second, .val (.long es), .second, .val (.int sel), .val (.long ex), .second, .val (.int (sel &&& (3 : Int32))), .val (.ref cn), .val (.long ns), .second, .unset, .unset, .unset]) rfl k_) ?_
      refine own_w (T' := TJ) (g' := (mkF m 68 #[.val (.long ns), .second, .val (.long es), .second, .val (.int sel), .val (.long ex), .second, .val (.int (sel &&& (3 : Int32))), .val (.ref cn), .val (.long ns), .second, .unset, .unset, .unset] [(.int sel)])) (fun _ k_ => XS.iload XJ.here hx rfl (hb hby at_66) rfl k_) ?_
      refine own_w (T' := TJ) (g' := (mkF m 69 #[.val (.long ns), .second, .val (.long es), .second, .val (.int sel), .val (.long ex), .second, .val (.int (sel &&& (3 : Int32))), .val (.ref cn), .val (.long ns), .second, .unset, .unset, .unset] [(.int (2 : Int32)), (.int sel)])) (fun _ k_ => XS.iconst XJ.here hx rfl (hb hby at_68) k_) ?_
      refine own_w (T' := TJ) (g' := (mkF m 70 #[.val (.long ns), .second, .val (.long es), .second, .val (.int sel), .val (.long ex), .second, .val (.int (sel &&& (3 : Int32))), .val (.ref cn), .val (.long ns), .second, .unset, .unset, .unset] [(.int ((sel.toUInt32 >>> ((2 : Int32) &&& 31).toUInt32).toInt32))])) (fun _ k_ => XS.iushr XJ.here hx rfl (hb hby at_69) rfl k_) ?_
      refine own_w (T' := TJ) (g' := (mkF m 71 #[.val (.long ns), .second, .val (.long es), .second, .val (.int sel), .val (.long ex), .second, .val (.int (sel &&& (3 : Int32))), .val (.ref cn), .val (.long ns), .second, .unset, .unset, .unset] [(.int (1 : Int32)), (.int ((sel.toUInt32 >>> ((2 : Int32) &&& 31).toUInt32).toInt32))])) (fun _ k_ => XS.iconst XJ.here hx rfl (hb hby at_70) k_) ?_
      refine own_w (T' := TJ) (g' := (mkF m 72 #[.val (.long ns), .second, .val (.long es), .second, .val (.int sel), .val (.long ex), .second, .val (.int (sel &&& (3 : Int32))), .val (.ref cn), .val (.long ns), .second, .unset, .unset, .unset] [(.int (((sel.toUInt32 >>> ((2 : Int32) &&& 31).toUInt32).toInt32) &&& (1 : Int32)))])) (fun _ k_ => XS.iand XJ.here hx rfl (hb hby at_71) rfl k_) ?_
      by_cases hc72 : (((sel.toUInt32 >>> ((2 : Int32) &&& 31).toUInt32).toInt32) &&& (1 : Int32)) = (0 : Int32)
      · refine own_w (T' := TJ) (g' := (mkF m 99 #[.val (.long ns), .second, .val (.long es), .second, .val (.int sel), .val (.long ex), .second, .val (.int (sel &&& (3 : Int32))), .val (.ref cn), .val (.long ns), .second, .unset, .unset, .unset] [])) (fun _ k_ => XS.ifYes XJ.here hx rfl (pc0 := 72) (pc' := 99) rfl (hb hby at_72) rfl ((if0 _ _).trans (teq hc72).1) (by decide) (by decide) k_) ?_
        obtain ⟨T1, h1, X1, e1, E1, A1, D1, -, st1⟩ := newO XJ hx hZ hown (hw _ (List.mem_of_getElem? (i := 4) rfl)) (hw _ (List.mem_of_getElem? (i := 5) rfl)) (hw _ (List.mem_of_getElem? (i := 6) rfl)) eJ (g := (mkF m 99 #[.val (.long ns), .second, .val (.long es), .second, .val (.int sel), .val (.long ex), .second, .val (.int (sel &&& (3 : Int32))), .val (.ref cn), .val (.long ns), .second, .unset, .unset, .unset] [])) rfl (hb hby at_99) (by decide) (by decide)
        obtain ⟨b1, gq1⟩ : ∃ z, z = h0.size := ⟨_, rfl⟩
        rw [← gq1] at A1 D1 st1
        have g_b1 : n0 ≤ b1 := Nat.le_trans Z0 (Nat.le_of_eq gq1.symm)
        have Z1 : n0 ≤ h1.size := Nat.le_trans Z0 E1.1
        refine own_w (T' := T1) (g' := (mkF m 102 #[.val (.long ns), .second, .val (.long es), .second, .val (.int sel), .val (.long ex), .second, .val (.int (sel &&& (3 : Int32))), .val (.ref cn), .val (.long ns), .second, .unset, .unset, .unset] [(.ref b1)])) st1 ?_
        refine own_w (T' := T1) (g' := (mkF m 103 #[.val (.long ns), .second, .val (.long es), .second, .val (.int sel), .val (.long ex), .second, .val (.int (sel &&& (3 : Int32))), .val (.ref cn), .val (.long ns), .second, .unset, .unset, .unset] [(.ref b1), (.ref b1)])) (fun _ k_ => XS.dup X1.here hx rfl (hb hby at_102) rfl rfl k_) ?_
        refine own_w (T' := T1) (g' := (mkF m 105 #[.val (.long ns), .second, .val (.long es), .second, .val (.int sel), .val (.long ex), .second, .val (.int (sel &&& (3 : Int32))), .val (.ref cn), .val (.long ns), .second, .unset, .unset, .unset] [(.ref cn), (.ref b1), (.ref b1)])) (fun _ k_ => XS.aload X1.here hx rfl (hb hby at_103) rfl rfl k_) ?_
        refine own_w (T' := T1) (g' := (mkF m 107 #[.val (.long ns), .second, .val (.long es), .second, .val (.int sel), .val (.long ex), .second, .val (.int (sel &&& (3 : Int32))), .val (.ref cn), .val (.long ns), .second, .unset, .unset, .unset] [(.long ex), (.ref cn), (.ref b1), (.ref b1)])) (fun _ k_ => XS.lload X1.here hx rfl (hb hby at_105) rfl k_) ?_
        obtain ⟨_, _, ⟨T2, L2, k2, n2⟩, -, X2, ⟨Lc2, hQ2, l2, y2, z2⟩, st2⟩ := X1.specialBack hx (y := (⟨"com/example/oaken_shelf/oakenshelf/store/SetOptions", "<init>", "(Lcom/example/oaken_shelf/oakenshelf/store/SetOptions$Condition;J)V"⟩ : MethodName)) rfl hown (mvT hZ (hw _ (List.mem_of_getElem? (i := 7) rfl))) (mvT hZ (hw _ (List.mem_of_getElem? (i := 8) rfl))) (mvT hZ (hw _ (List.mem_of_getElem? (i := 9) rfl))) (by decide) (backOf (W := 1) (own_rm1 l Z a0 hw [] b1 cn ex _ _ h1 n0 Z1 (D1 (Or.inr (hw _ (List.mem_of_getElem? (i := 19) rfl))) (ty := (.object "com/example/oaken_shelf/oakenshelf/store/SetOptions$Condition")) (by decide)) (D1 (Or.inr (hw _ (List.mem_of_getElem? (i := 21) rfl))) (ty := .long) (by decide)) A1 g_b1) hZ (hw _ (List.mem_of_getElem? (i := 9) rfl)) (hw _ (List.mem_of_getElem? (i := 6) rfl)) (by decide) (by decide)) (g := (mkF m 107 #[.val (.long ns), .second, .val (.long es), .second, .val (.int sel), .val (.long ex), .second, .val (.int (sel &&& (3 : Int32))), .val (.ref cn), .val (.long ns), .second, .unset, .unset, .unset] [(.long ex), (.ref cn), (.ref b1), (.ref b1)])) rfl (by rw [hml]; rfl) (Steps.refl _) (a := b1) (argsL := [(.ref cn), (.long ex)]) (rest := [(.ref b1)]) (lenOf own_pd1 rfl) rfl (by show 2 * 0 + _ ≤ _; exact Nat.le_of_eq rfl) (hb hby at_107) (fun _ _ => ⟨rfl, e1, (by decide : 1 + 0 ≤ _), (by decide : 2 + 0 ≤ _)⟩)
        dsimp only [Pt.U, Pt.locs, Pt.cells, Pt.slots] at X2 l2 y2 z2 st2 hQ2
        subst l2 y2 z2
        obtain ⟨h2, e2⟩ : ∃ h, T2.heap = h := ⟨_, rfl⟩
        rw [e2] at hQ2
        obtain ⟨rfl, N2q, K2, F2⟩ := hQ2
        have N2 := Fr.app NJ N2q
        refine own_t (T' := T2) (g' := (mkF m 110 #[.val (.long ns), .second, .val (.long es), .second, .val (.int sel), .val (.long ex), .second, .val (.int (sel &&& (3 : Int32))), .val (.ref cn), .val (.long ns), .second, .unset, .unset, .unset] [(.ref b1)])) st2 ?_
        have Z2 : n0 ≤ h2.size := Nat.le_trans Z1 K2.1
        have E2 := A1.keep K2
        refine own_w (T' := T2) (g' := (mkF m 112 #[.val (.long ns), .second, .val (.long es), .second, .val (.int sel), .val (.long ex), .second, .val (.int (sel &&& (3 : Int32))), .val (.ref cn), .val (.long ns), .second, .val (.ref b1), .unset, .unset] [])) (fun _ k_ => XS.astore X2.here hx rfl (hb hby at_110) rfl rfl (l' := #[.val (.long ns), .second, .val (.long es), .second, .val (.int sel), .val (.long ex), .second, .val (.int (sel &&& (3 : Int32))), .val (.ref cn), .val (.long ns), .second, .val (.ref b1), .unset, .unset]) rfl k_) ?_
        refine own_w (T' := T2) (g' := (mkF m 114 #[.val (.long ns), .second, .val (.long es), .second, .val (.int sel), .val (.long ex), .second, .val (.int (sel &&& (3 : Int32))), .val (.ref cn), .val (.long ns), .second, .val (.ref b1), .unset, .unset] [(.ref b1)])) (fun _ k_ => XS.aload X2.here hx rfl (hb hby at_112) rfl rfl k_) ?_
        refine own_w (T' := T2) (g' := (mkF m 116 #[.val (.long ns), .second, .val (.long es), .second, .val (.int sel), .val (.long ex), .second, .val (.int (sel &&& (3 : Int32))), .val (.ref cn), .val (.long ns), .second, .val (.ref b1), .unset, .unset] [(.long ns), (.ref b1)])) (fun _ k_ => XS.lload X2.here hx rfl (hb hby at_114) rfl k_) ?_
        obtain ⟨cq3, kq3, q3a, q3b, q3c⟩ := isOf hZ e2 E2
        obtain ⟨_, _, ⟨T3, L3, k3, n3⟩, -, X3, ⟨Lc3, hQ3, l3, y3, z3⟩, st3⟩ := X2.virtualBack hx (y := (⟨"com/example/oaken_shelf/oakenshelf/store/SetOptions", "deadline", "(J)J"⟩ : MethodName)) (z := (⟨"com/example/oaken_shelf/oakenshelf/store/SetOptions", "deadline", "(J)J"⟩ : MethodName)) hown (mvT hZ (hw _ (List.mem_of_getElem? (i := 22) rfl))) (mvT hZ (hw _ (List.mem_of_getElem? (i := 23) rfl))) (notFace_of_selects (args := #[]) (mvT hZ (hw _ (List.mem_of_getElem? (i := 25) rfl)))) (mvT hZ (hw _ (List.mem_of_getElem? (i := 25) rfl))) (mvT hZ (hw _ (List.mem_of_getElem? (i := 24) rfl))) (by decide) (backOf (W := 0) (own_rm4 l Z a0 hw [] b1 ns ex h2 n0 Z2 F2) hZ (hw _ (List.mem_of_getElem? (i := 26) rfl)) (hw _ (List.mem_of_getElem? (i := 6) rfl)) (by decide) (by decide)) q3a q3c (g := (mkF m 116 #[.val (.long ns), .second, .val (.long es), .second, .val (.int sel), .val (.long ex), .second, .val (.int (sel &&& (3 : Int32))), .val (.ref cn), .val (.long ns), .second, .val (.ref b1), .unset, .unset] [(.long ns), (.ref b1)])) rfl (by rw [hml]; rfl) (Steps.refl _) (argsL := [(.long ns)]) (rest := []) (lenOf own_pd2 rfl) rfl (by show 2 * 0 + _ ≤ _; exact Nat.le_of_eq rfl) (hb hby at_116) (fun _ _ => ⟨rfl, e2, (by decide : 1 + 0 ≤ _), (by decide : 2 + 0 ≤ _)⟩)
        dsimp only [Pt.U, Pt.locs, Pt.cells, Pt.slots] at X3 l3 y3 z3 st3 hQ3
        subst l3 y3 z3
        obtain ⟨rfl, N3q, e3⟩ := hQ3
        have N3 := Fr.app N2 N3q
        refine own_t (T' := T3) (g' := (mkF m 119 #[.val (.long ns), .second, .val (.long es), .second, .val (.int sel), .val (.long ex), .second, .val (.int (sel &&& (3 : Int32))), .val (.ref cn), .val (.long ns), .second, .val (.ref b1), .unset, .unset] [(.long (own_dl ns ex))])) st3 ?_
        refine own_w (T' := T3) (g' := (mkF m 121 #[.val (.long ns), .second, .val (.long es), .second, .val (.int sel), .val (.long ex), .second, .val (.int (sel &&& (3 : Int32))), .val (.ref cn), .val (.long ns), .second, .val (.ref b1), .val (.long (own_dl ns ex)), .second] [])) (fun _ k_ => XS.lstore X3.here hx rfl (hb hby at_119) rfl (l' := #[.val (.long ns), .second, .val (.long es), .second, .val (.int sel), .val (.long ex), .second, .val (.int (sel &&& (3 : Int32))), .val (.ref cn), .val (.long ns), .second, .val (.ref b1), .val (.long (own_dl ns ex)), .second]) rfl k_) ?_
        refine own_w (T' := T3) (g' := (mkF m 123 #[.val (.long ns), .second, .val (.long es), .second, .val (.int sel), .val (.long ex), .second, .val (.int (sel &&& (3 : Int32))), .val (.ref cn), .val (.long ns), .second, .val (.ref b1), .val (.long (own_dl ns ex)), .second] [(.long (own_dl ns ex))])) (fun _ k_ => XS.lload X3.here hx rfl (hb hby at_121) rfl k_) ?_
        refine own_w (T' := T3) (g' := (mkF m 125 #[.val (.long ns), .second, .val (.long es), .second, .val (.int sel), .val (.long ex), .second, .val (.int (sel &&& (3 : Int32))), .val (.ref cn), .val (.long ns), .second, .val (.ref b1), .val (.long (own_dl ns ex)), .second] [(.long ns), (.long (own_dl ns ex))])) (fun _ k_ => XS.lload X3.here hx rfl (hb hby at_123) rfl k_) ?_
        refine own_w (T' := T3) (g' := (mkF m 127 #[.val (.long ns), .second, .val (.long es), .second, .val (.int sel), .val (.long ex), .second, .val (.int (sel &&& (3 : Int32))), .val (.ref cn), .val (.long ns), .second, .val (.ref b1), .val (.long (own_dl ns ex)), .second] [(.long ex), (.long ns), (.long (own_dl ns ex))])) (fun _ k_ => XS.lload X3.here hx rfl (hb hby at_125) rfl k_) ?_
        obtain ⟨_, _, ⟨T4, L4, k4, n4⟩, -, X4, ⟨Lc4, hQ4, l4, y4, z4⟩, st4⟩ := Jvm.LawKit.callS X3 hx (y := (⟨"com/example/oaken_shelf/oakenshelf/store/SetOptionsDeadlinePinLaw", "expected", "(JJ)J"⟩ : MethodName)) hown (mvT hZ (hw _ (List.mem_of_getElem? (i := 28) rfl))) (mvT hZ (hw _ (List.mem_of_getElem? (i := 29) rfl))) (mvT hZ (hw _ (List.mem_of_getElem? (i := 30) rfl))) (mvT hZ (hw _ (List.mem_of_getElem? (i := 31) rfl))) (by decide) (backOf (W := 2) (own_rm5 l Z a0 hw [] ns ex  h2 n0 Z2 ) hZ (hw _ (List.mem_of_getElem? (i := 31) rfl)) (hw _ (List.mem_of_getElem? (i := 30) rfl)) (by decide) (by decide)) (g := (mkF m 127 #[.val (.long ns), .second, .val (.long es), .second, .val (.int sel), .val (.long ex), .second, .val (.int (sel &&& (3 : Int32))), .val (.ref cn), .val (.long ns), .second, .val (.ref b1), .val (.long (own_dl ns ex)), .second] [(.long ex), (.long ns), (.long (own_dl ns ex))])) rfl (by rw [hml]; rfl) (argsL := [(.long ns), (.long ex)]) (rest := [(.long (own_dl ns ex))]) (lenOf own_pd3 rfl) rfl (by show 2 * 0 + _ ≤ _; exact Nat.le_of_eq rfl) (hb hby at_127) (fun _ _ => ⟨rfl, e3, (by decide : 1 + 0 ≤ _), (by decide : 2 + 0 ≤ _)⟩)
        dsimp only [Pt.U, Pt.locs, Pt.cells, Pt.slots] at X4 l4 y4 z4 st4 hQ4
        subst l4 y4 z4
        obtain ⟨rfl, N4q, e4⟩ := hQ4
        have N4 := Fr.app N3 N4q
        refine own_w (T' := T4) (g' := (mkF m 130 #[.val (.long ns), .second, .val (.long es), .second, .val (.int sel), .val (.long ex), .second, .val (.int (sel &&& (3 : Int32))), .val (.ref cn), .val (.long ns), .second, .val (.ref b1), .val (.long (own_dl ns ex)), .second] [(.long (own_ex ns ex)), (.long (own_dl ns ex))])) st4 ?_
        refine own_w (T' := T4) (g' := (mkF m 131 #[.val (.long ns), .second, .val (.long es), .second, .val (.int sel), .val (.long ex), .second, .val (.int (sel &&& (3 : Int32))), .val (.ref cn), .val (.long ns), .second, .val (.ref b1), .val (.long (own_dl ns ex)), .second] [(.int (lcmpW (own_dl ns ex) (own_ex ns ex)))])) (fun _ k_ => XS.lcmp X4.here hx rfl (hb hby at_130) rfl k_) ?_
        refine own_w (T' := T4) (g' := (mkF m 134 #[.val (.long ns), .second, .val (.long es), .second, .val (.int sel), .val (.long ex), .second, .val (.int (sel &&& (3 : Int32))), .val (.ref cn), .val (.long ns), .second, .val (.ref b1), .val (.long (own_dl ns ex)), .second] [])) (fun _ k_ => XS.ifNo X4.here hx rfl (hb hby at_131) rfl ((if0 _ _).trans (teq ((lw_eq _ _).mpr (own_law hex))).2) k_) ?_
        refine own_w (T' := T4) (g' := (mkF m 135 #[.val (.long ns), .second, .val (.long es), .second, .val (.int sel), .val (.long ex), .second, .val (.int (sel &&& (3 : Int32))), .val (.ref cn), .val (.long ns), .second, .val (.ref b1), .val (.long (own_dl ns ex)), .second] [(.int (1 : Int32))])) (fun _ k_ => XS.iconst X4.here hx rfl (hb hby at_134) k_) ?_
        refine own_w (T' := T4) (g' := (mkF m 139 #[.val (.long ns), .second, .val (.long es), .second, .val (.int sel), .val (.long ex), .second, .val (.int (sel &&& (3 : Int32))), .val (.ref cn), .val (.long ns), .second, .val (.ref b1), .val (.long (own_dl ns ex)), .second] [(.int (1 : Int32))])) (fun _ k_ => XS.goto X4.here hx rfl (pc0 := 135) (pc' := 139) rfl (hb hby at_135) (by decide) (by decide) k_) ?_
        obtain ⟨fs, hr, hrun, hended, hW, hsame⟩ := X4.leave (v := some (.int (1 : Int32))) (fun h => by rw [Bd.returns] at h; cases h)
        exact ⟨_, _, retOut X4 hx Bd.returns rfl (Or.inl ⟨rfl, Or.inr (Or.inl rfl), _, rfl⟩) (hb hby at_139) hr, hrun, hended, _, _, rfl, (by show own_Q0 Z ns es sel cNEVER cEQUAL cALWAYS h0 n0 _ T4.heap _; rw [e4]; exact ⟨rfl, N4⟩), ⟨_, rfl⟩, hW, hsame.mono (by decide) (by decide)⟩
      · refine own_w (T' := TJ) (g' := (mkF m 75 #[.val (.long ns), .second, .val (.long es), .second, .val (.int sel), .val (.long ex), .second, .val (.int (sel &&& (3 : Int32))), .val (.ref cn), .val (.long ns), .second, .unset, .unset, .unset] [])) (fun _ k_ => XS.ifNo XJ.here hx rfl (hb hby at_72) rfl ((if0 _ _).trans (feq hc72).1) k_) ?_
        refine own_w (T' := TJ) (g' := (mkF m 77 #[.val (.long ns), .second, .val (.long es), .second, .val (.int sel), .val (.long ex), .second, .val (.int (sel &&& (3 : Int32))), .val (.ref cn), .val (.long ns), .second, .unset, .unset, .unset] [(.int sel)])) (fun _ k_ => XS.iload XJ.here hx rfl (hb hby at_75) rfl k_) ?_
        refine own_w (T' := TJ) (g' := (mkF m 79 #[.val (.long ns), .second, .val (.long es), .second, .val (.int sel), .val (.long ex), .second, .val (.int (sel &&& (3 : Int32))), .val (.ref cn), .val (.long ns), .second, .unset, .unset, .unset] [(.int (6 : Int32)), (.int sel)])) (fun _ k_ => XS.bipush XJ.here hx rfl (hb hby at_77) k_) ?_
        refine own_w (T' := TJ) (g' := (mkF m 80 #[.val (.long ns), .second, .val (.long es), .second, .val (.int sel), .val (.long ex), .second, .val (.int (sel &&& (3 : Int32))), .val (.ref cn), .val (.long ns), .second, .unset, .unset, .unset] [(.int ((sel.toUInt32 >>> ((6 : Int32) &&& 31).toUInt32).toInt32))])) (fun _ k_ => XS.iushr XJ.here hx rfl (hb hby at_79) rfl k_) ?_
        refine own_w (T' := TJ) (g' := (mkF m 82 #[.val (.long ns), .second, .val (.long es), .second, .val (.int sel), .val (.long ex), .second, .val (.int (sel &&& (3 : Int32))), .val (.ref cn), .val (.long ns), .second, .unset, .unset, .unset] [(.int (7 : Int32)), (.int ((sel.toUInt32 >>> ((6 : Int32) &&& 31).toUInt32).toInt32))])) (fun _ k_ => XS.bipush XJ.here hx rfl (hb hby at_80) k_) ?_
        refine own_w (T' := TJ) (g' := (mkF m 83 #[.val (.long ns), .second, .val (.long es), .second, .val (.int sel), .val (.long ex), .second, .val (.int (sel &&& (3 : Int32))), .val (.ref cn), .val (.long ns), .second, .unset, .unset, .unset] [(.int (((sel.toUInt32 >>> ((6 : Int32) &&& 31).toUInt32).toInt32) &&& (7 : Int32)))])) (fun _ k_ => XS.iand XJ.here hx rfl (hb hby at_82) rfl k_) ?_
        refine own_w (T' := TJ) (g' := (mkF m 84 #[.val (.long ns), .second, .val (.long es), .second, .val (.int sel), .val (.long ex), .second, .val (.int (sel &&& (3 : Int32))), .val (.ref cn), .val (.long ns), .second, .unset, .unset, .unset] [(.int (4 : Int32)), (.int (((sel.toUInt32 >>> ((6 : Int32) &&& 31).toUInt32).toInt32) &&& (7 : Int32)))])) (fun _ k_ => XS.iconst XJ.here hx rfl (hb hby at_83) k_) ?_
        refine own_w (T' := TJ) (g' := (mkF m 85 #[.val (.long ns), .second, .val (.long es), .second, .val (.int sel), .val (.long ex), .second, .val (.int (sel &&& (3 : Int32))), .val (.ref cn), .val (.long ns), .second, .unset, .unset, .unset] [(.int ((((sel.toUInt32 >>> ((6 : Int32) &&& 31).toUInt32).toInt32) &&& (7 : Int32)) - (4 : Int32)))])) (fun _ k_ => XS.isub XJ.here hx rfl (hb hby at_84) rfl k_) ?_
        refine own_w (T' := TJ) (g' := (mkF m 86 #[.val (.long ns), .second, .val (.long es), .second, .val (.int sel), .val (.long ex), .second, .val (.int (sel &&& (3 : Int32))), .val (.ref cn), .val (.long ns), .second, .unset, .unset, .unset] [(.long (((((sel.toUInt32 >>> ((6 : Int32) &&& 31).toUInt32).toInt32) &&& (7 : Int32)) - (4 : Int32)).toInt64))])) (fun _ k_ => XS.i2l XJ.here hx rfl (hb hby at_85) rfl k_) ?_
        refine own_w (T' := TJ) (g' := (mkF m 88 #[.val (.long ns), .second, .val (.long es), .second, .val (.int sel), .val (.long ex), .second, .val (.int (sel &&& (3 : Int32))), .val (.ref cn), .val (.long ns), .second, .val (.long (((((sel.toUInt32 >>> ((6 : Int32) &&& 31).toUInt32).toInt32) &&& (7 : Int32)) - (4 : Int32)).toInt64)), .second, .unset] [])) (fun _ k_ => XS.lstore XJ.here hx rfl (hb hby at_86) rfl (l' := #[.val (.long ns), .second, .val (.long es), .second, .val (.int sel), .val (.long ex), .second, .val (.int (sel &&& (3 : Int32))), .val (.ref cn), .val (.long ns), .second, .val (.long (((((sel.toUInt32 >>> ((6 : Int32) &&& 31).toUInt32).toInt32) &&& (7 : Int32)) - (4 : Int32)).toInt64)), .second, .unset]) rfl k_) ?_
        refine own_w (T' := TJ) (g' := (mkF m 91 #[.val (.long ns), .second, .val (.long es), .second, .val (.int sel), .val (.long ex), .second, .val (.int (sel &&& (3 : Int32))), .val (.ref cn), .val (.long ns), .second, .val (.long (((((sel.toUInt32 >>> ((6 : Int32) &&& 31).toUInt32).toInt32) &&& (7 : Int32)) - (4 : Int32)).toInt64)), .second, .unset] [(.long (9223372036854775807 : Int64))])) (XJ.ldc2Long hx hown (mvT hZ (hw _ (List.mem_of_getElem? (i := 0) rfl))) (g := (mkF m 88 #[.val (.long ns), .second, .val (.long es), .second, .val (.int sel), .val (.long ex), .second, .val (.int (sel &&& (3 : Int32))), .val (.ref cn), .val (.long ns), .second, .val (.long (((((sel.toUInt32 >>> ((6 : Int32) &&& 31).toUInt32).toInt32) &&& (7 : Int32)) - (4 : Int32)).toInt64)), .second, .unset] [])) rfl (hb hby at_88)) ?_
        refine own_w (T' := TJ) (g' := (mkF m 93 #[.val (.long ns), .second, .val (.long es), .second, .val (.int sel), .val (.long ex), .second, .val (.int (sel &&& (3 : Int32))), .val (.ref cn), .val (.long ns), .second, .val (.long (((((sel.toUInt32 >>> ((6 : Int32) &&& 31).toUInt32).toInt32) &&& (7 : Int32)) - (4 : Int32)).toInt64)), .second, .unset] [(.long ex), (.long (9223372036854775807 : Int64))])) (fun _ k_ => XS.lload XJ.here hx rfl (hb hby at_91) rfl k_) ?_
        refine own_w (T' := TJ) (g' := (mkF m 94 #[.val (.long ns), .second, .val (.long es), .second, .val (.int sel), .val (.long ex), .second, .val (.int (sel &&& (3 : Int32))), .val (.ref cn), .val (.long ns), .second, .val (.long (((((sel.toUInt32 >>> ((6 : Int32) &&& 31).toUInt32).toInt32) &&& (7 : Int32)) - (4 : Int32)).toInt64)), .second, .unset] [(.long ((9223372036854775807 : Int64) - ex))])) (fun _ k_ => XS.lsub XJ.here hx rfl (hb hby at_93) rfl k_) ?_
        refine own_w (T' := TJ) (g' := (mkF m 96 #[.val (.long ns), .second, .val (.long es), .second, .val (.int sel), .val (.long ex), .second, .val (.int (sel &&& (3 : Int32))), .val (.ref cn), .val (.long ns), .second, .val (.long (((((sel.toUInt32 >>> ((6 : Int32) &&& 31).toUInt32).toInt32) &&& (7 : Int32)) - (4 : Int32)).toInt64)), .second, .unset] [(.long (((((sel.toUInt32 >>> ((6 : Int32) &&& 31).toUInt32).toInt32) &&& (7 : Int32)) - (4 : Int32)).toInt64)), (.long ((9223372036854775807 : Int64) - ex))])) (fun _ k_ => XS.lload XJ.here hx rfl (hb hby at_94) rfl k_) ?_
        refine own_w (T' := TJ) (g' := (mkF m 97 #[.val (.long ns), .second, .val (.long es), .second, .val (.int sel), .val (.long ex), .second, .val (.int (sel &&& (3 : Int32))), .val (.ref cn), .val (.long ns), .second, .val (.long (((((sel.toUInt32 >>> ((6 : Int32) &&& 31).toUInt32).toInt32) &&& (7 : Int32)) - (4 : Int32)).toInt64)), .second, .unset] [(.long (((9223372036854775807 : Int64) - ex) + (((((sel.toUInt32 >>> ((6 : Int32) &&& 31).toUInt32).toInt32) &&& (7 : Int32)) - (4 : Int32)).toInt64)))])) (fun _ k_ => XS.ladd XJ.here hx rfl (hb hby at_96) rfl k_) ?_
        refine own_w (T' := TJ) (g' := (mkF m 99 #[.val (.long ns), .second, .val (.long es), .second, .val (.int sel), .val (.long ex), .second, .val (.int (sel &&& (3 : Int32))), .val (.ref cn), .val (.long (((9223372036854775807 : Int64) - ex) + (((((sel.toUInt32 >>> ((6 : Int32) &&& 31).toUInt32).toInt32) &&& (7 : Int32)) - (4 : Int32)).toInt64))), .second, .val (.long (((((sel.toUInt32 >>> ((6 : Int32) &&& 31).toUInt32).toInt32) &&& (7 : Int32)) - (4 : Int32)).toInt64)), .second, .unset] [])) (fun _ k_ => XS.lstore XJ.here hx rfl (hb hby at_97) rfl (l' := #[.val (.long ns), .second, .val (.long es), .second, .val (.int sel), .val (.long ex), .second, .val (.int (sel &&& (3 : Int32))), .val (.ref cn), .val (.long (((9223372036854775807 : Int64) - ex) + (((((sel.toUInt32 >>> ((6 : Int32) &&& 31).toUInt32).toInt32) &&& (7 : Int32)) - (4 : Int32)).toInt64))), .second, .val (.long (((((sel.toUInt32 >>> ((6 : Int32) &&& 31).toUInt32).toInt32) &&& (7 : Int32)) - (4 : Int32)).toInt64)), .second, .unset]) rfl k_) ?_
        obtain ⟨T5, h5, X5, e5, E5, A5, D5, -, st5⟩ := newO XJ hx hZ hown (hw _ (List.mem_of_getElem? (i := 4) rfl)) (hw _ (List.mem_of_getElem? (i := 5) rfl)) (hw _ (List.mem_of_getElem? (i := 6) rfl)) eJ (g := (mkF m 99 #[.val (.long ns), .second, .val (.long es), .second, .val (.int sel), .val (.long ex), .second, .val (.int (sel &&& (3 : Int32))), .val (.ref cn), .val (.long (((9223372036854775807 : Int64) - ex) + (((((sel.toUInt32 >>> ((6 : Int32) &&& 31).toUInt32).toInt32) &&& (7 : Int32)) - (4 : Int32)).toInt64))), .second, .val (.long (((((sel.toUInt32 >>> ((6 : Int32) &&& 31).toUInt32).toInt32) &&& (7 : Int32)) - (4 : Int32)).toInt64)), .second, .unset] [])) rfl (hb hby at_99) (by decide) (by decide)
        obtain ⟨b5, gq5⟩ : ∃ z, z = h0.size := ⟨_, rfl⟩
        rw [← gq5] at A5 D5 st5
        have g_b5 : n0 ≤ b5 := Nat.le_trans Z0 (Nat.le_of_eq gq5.symm)
        have Z5 : n0 ≤ h5.size := Nat.le_trans Z0 E5.1
        refine own_w (T' := T5) (g' := (mkF m 102 #[.val (.long ns), .second, .val (.long es), .second, .val (.int sel), .val (.long ex), .second, .val (.int (sel &&& (3 : Int32))), .val (.ref cn), .val (.long (((9223372036854775807 : Int64) - ex) + (((((sel.toUInt32 >>> ((6 : Int32) &&& 31).toUInt32).toInt32) &&& (7 : Int32)) - (4 : Int32)).toInt64))), .second, .val (.long (((((sel.toUInt32 >>> ((6 : Int32) &&& 31).toUInt32).toInt32) &&& (7 : Int32)) - (4 : Int32)).toInt64)), .second, .unset] [(.ref b5)])) st5 ?_
        refine own_w (T' := T5) (g' := (mkF m 103 #[.val (.long ns), .second, .val (.long es), .second, .val (.int sel), .val (.long ex), .second, .val (.int (sel &&& (3 : Int32))), .val (.ref cn), .val (.long (((9223372036854775807 : Int64) - ex) + (((((sel.toUInt32 >>> ((6 : Int32) &&& 31).toUInt32).toInt32) &&& (7 : Int32)) - (4 : Int32)).toInt64))), .second, .val (.long (((((sel.toUInt32 >>> ((6 : Int32) &&& 31).toUInt32).toInt32) &&& (7 : Int32)) - (4 : Int32)).toInt64)), .second, .unset] [(.ref b5), (.ref b5)])) (fun _ k_ => XS.dup X5.here hx rfl (hb hby at_102) rfl rfl k_) ?_
        refine own_w (T' := T5) (g' := (mkF m 105 #[.val (.long ns), .second, .val (.long es), .second, .val (.int sel), .val (.long ex), .second, .val (.int (sel &&& (3 : Int32))), .val (.ref cn), .val (.long (((9223372036854775807 : Int64) - ex) + (((((sel.toUInt32 >>> ((6 : Int32) &&& 31).toUInt32).toInt32) &&& (7 : Int32)) - (4 : Int32)).toInt64))), .second, .val (.long (((((sel.toUInt32 >>> ((6 : Int32) &&& 31).toUInt32).toInt32) &&& (7 : Int32)) - (4 : Int32)).toInt64)), .second, .unset] [(.ref cn), (.ref b5), (.ref b5)])) (fun _ k_ => XS.aload X5.here hx rfl (hb hby at_103) rfl rfl k_) ?_
        refine own_w (T' := T5) (g' := (mkF m 107 #[.val (.long ns), .second, .val (.long es), .second, .val (.int sel), .val (.long ex), .second, .val (.int (sel &&& (3 : Int32))), .val (.ref cn), .val (.long (((9223372036854775807 : Int64) - ex) + (((((sel.toUInt32 >>> ((6 : Int32) &&& 31).toUInt32).toInt32) &&& (7 : Int32)) - (4 : Int32)).toInt64))), .second, .val (.long (((((sel.toUInt32 >>> ((6 : Int32) &&& 31).toUInt32).toInt32) &&& (7 : Int32)) - (4 : Int32)).toInt64)), .second, .unset] [(.long ex), (.ref cn), (.ref b5), (.ref b5)])) (fun _ k_ => XS.lload X5.here hx rfl (hb hby at_105) rfl k_) ?_
        obtain ⟨_, _, ⟨T6, L6, k6, n6⟩, -, X6, ⟨Lc6, hQ6, l6, y6, z6⟩, st6⟩ := X5.specialBack hx (y := (⟨"com/example/oaken_shelf/oakenshelf/store/SetOptions", "<init>", "(Lcom/example/oaken_shelf/oakenshelf/store/SetOptions$Condition;J)V"⟩ : MethodName)) rfl hown (mvT hZ (hw _ (List.mem_of_getElem? (i := 7) rfl))) (mvT hZ (hw _ (List.mem_of_getElem? (i := 8) rfl))) (mvT hZ (hw _ (List.mem_of_getElem? (i := 9) rfl))) (by decide) (backOf (W := 1) (own_rm1 l Z a0 hw [] b5 cn ex _ _ h5 n0 Z5 (D5 (Or.inr (hw _ (List.mem_of_getElem? (i := 19) rfl))) (ty := (.object "com/example/oaken_shelf/oakenshelf/store/SetOptions$Condition")) (by decide)) (D5 (Or.inr (hw _ (List.mem_of_getElem? (i := 21) rfl))) (ty := .long) (by decide)) A5 g_b5) hZ (hw _ (List.mem_of_getElem? (i := 9) rfl)) (hw _ (List.mem_of_getElem? (i := 6) rfl)) (by decide) (by decide)) (g := (mkF m 107 #[.val (.long ns), .second, .val (.long es), .second, .val (.int sel), .val (.long ex), .second, .val (.int (sel &&& (3 : Int32))), .val (.ref cn), .val (.long (((9223372036854775807 : Int64) - ex) + (((((sel.toUInt32 >>> ((6 : Int32) &&& 31).toUInt32).toInt32) &&& (7 : Int32)) - (4 : Int32)).toInt64))), .second, .val (.long (((((sel.toUInt32 >>> ((6 : Int32) &&& 31).toUInt32).toInt32) &&& (7 : Int32)) - (4 : Int32)).toInt64)), .second, .unset] [(.long ex), (.ref cn), (.ref b5), (.ref b5)])) rfl (by rw [hml]; rfl) (Steps.refl _) (a := b5) (argsL := [(.ref cn), (.long ex)]) (rest := [(.ref b5)]) (lenOf own_pd1 rfl) rfl (by show 2 * 0 + _ ≤ _; exact Nat.le_of_eq rfl) (hb hby at_107) (fun _ _ => ⟨rfl, e5, (by decide : 1 + 0 ≤ _), (by decide : 2 + 0 ≤ _)⟩)
        dsimp only [Pt.U, Pt.locs, Pt.cells, Pt.slots] at X6 l6 y6 z6 st6 hQ6
        subst l6 y6 z6
        obtain ⟨h6, e6⟩ : ∃ h, T6.heap = h := ⟨_, rfl⟩
        rw [e6] at hQ6
        obtain ⟨rfl, N6q, K6, F6⟩ := hQ6
        have N6 := Fr.app NJ N6q
        refine own_t (T' := T6) (g' := (mkF m 110 #[.val (.long ns), .second, .val (.long es), .second, .val (.int sel), .val (.long ex), .second, .val (.int (sel &&& (3 : Int32))), .val (.ref cn), .val (.long (((9223372036854775807 : Int64) - ex) + (((((sel.toUInt32 >>> ((6 : Int32) &&& 31).toUInt32).toInt32) &&& (7 : Int32)) - (4 : Int32)).toInt64))), .second, .val (.long (((((sel.toUInt32 >>> ((6 : Int32) &&& 31).toUInt32).toInt32) &&& (7 : Int32)) - (4 : Int32)).toInt64)), .second, .unset] [(.ref b5)])) st6 ?_
        have Z6 : n0 ≤ h6.size := Nat.le_trans Z5 K6.1
        have E6 := A5.keep K6
        refine own_w (T' := T6) (g' := (mkF m 112 #[.val (.long ns), .second, .val (.long es), .second, .val (.int sel), .val (.long ex), .second, .val (.int (sel &&& (3 : Int32))), .val (.ref cn), .val (.long (((9223372036854775807 : Int64) - ex) + (((((sel.toUInt32 >>> ((6 : Int32) &&& 31).toUInt32).toInt32) &&& (7 : Int32)) - (4 : Int32)).toInt64))), .second, .val (.ref b5), .unset, .unset] [])) (fun _ k_ => XS.astore X6.here hx rfl (hb hby at_110) rfl rfl (l' := #[.val (.long ns), .second, .val (.long es), .second, .val (.int sel), .val (.long ex), .second, .val (.int (sel &&& (3 : Int32))), .val (.ref cn), .val (.long (((9223372036854775807 : Int64) - ex) + (((((sel.toUInt32 >>> ((6 : Int32) &&& 31).toUInt32).toInt32) &&& (7 : Int32)) - (4 : Int32)).toInt64))), .second, .val (.ref b5), .unset, .unset]) rfl k_) ?_
        refine own_w (T' := T6) (g' := (mkF m 114 #[.val (.long ns), .second, .val (.long es), .second, .val (.int sel), .val (.long ex), .second, .val (.int (sel &&& (3 : Int32))), .val (.ref cn), .val (.long (((9223372036854775807 : Int64) - ex) + (((((sel.toUInt32 >>> ((6 : Int32) &&& 31).toUInt32).toInt32) &&& (7 : Int32)) - (4 : Int32)).toInt64))), .second, .val (.ref b5), .unset, .unset] [(.ref b5)])) (fun _ k_ => XS.aload X6.here hx rfl (hb hby at_112) rfl rfl k_) ?_
        refine own_w (T' := T6) (g' := (mkF m 116 #[.val (.long ns), .second, .val (.long es), .second, .val (.int sel), .val (.long ex), .second, .val (.int (sel &&& (3 : Int32))), .val (.ref cn), .val (.long (((9223372036854775807 : Int64) - ex) + (((((sel.toUInt32 >>> ((6 : Int32) &&& 31).toUInt32).toInt32) &&& (7 : Int32)) - (4 : Int32)).toInt64))), .second, .val (.ref b5), .unset, .unset] [(.long (((9223372036854775807 : Int64) - ex) + (((((sel.toUInt32 >>> ((6 : Int32) &&& 31).toUInt32).toInt32) &&& (7 : Int32)) - (4 : Int32)).toInt64))), (.ref b5)])) (fun _ k_ => XS.lload X6.here hx rfl (hb hby at_114) rfl k_) ?_
        obtain ⟨cq7, kq7, q7a, q7b, q7c⟩ := isOf hZ e6 E6
        obtain ⟨_, _, ⟨T7, L7, k7, n7⟩, -, X7, ⟨Lc7, hQ7, l7, y7, z7⟩, st7⟩ := X6.virtualBack hx (y := (⟨"com/example/oaken_shelf/oakenshelf/store/SetOptions", "deadline", "(J)J"⟩ : MethodName)) (z := (⟨"com/example/oaken_shelf/oakenshelf/store/SetOptions", "deadline", "(J)J"⟩ : MethodName)) hown (mvT hZ (hw _ (List.mem_of_getElem? (i := 22) rfl))) (mvT hZ (hw _ (List.mem_of_getElem? (i := 23) rfl))) (notFace_of_selects (args := #[]) (mvT hZ (hw _ (List.mem_of_getElem? (i := 25) rfl)))) (mvT hZ (hw _ (List.mem_of_getElem? (i := 25) rfl))) (mvT hZ (hw _ (List.mem_of_getElem? (i := 24) rfl))) (by decide) (backOf (W := 0) (own_rm4 l Z a0 hw [] b5 (((9223372036854775807 : Int64) - ex) + (((((sel.toUInt32 >>> ((6 : Int32) &&& 31).toUInt32).toInt32) &&& (7 : Int32)) - (4 : Int32)).toInt64)) ex h6 n0 Z6 F6) hZ (hw _ (List.mem_of_getElem? (i := 26) rfl)) (hw _ (List.mem_of_getElem? (i := 6) rfl)) (by decide) (by decide)) q7a q7c (g := (mkF m 116 #[.val (.long ns), .second, .val (.long es), .second, .val (.int sel), .val (.long ex), .second, .val (.int (sel &&& (3 : Int32))), .val (.ref cn), .val (.long (((9223372036854775807 : Int64) - ex) + (((((sel.toUInt32 >>> ((6 : Int32) &&& 31).toUInt32).toInt32) &&& (7 : Int32)) - (4 : Int32)).toInt64))), .second, .val (.ref b5), .unset, .unset] [(.long (((9223372036854775807 : Int64) - ex) + (((((sel.toUInt32 >>> ((6 : Int32) &&& 31).toUInt32).toInt32) &&& (7 : Int32)) - (4 : Int32)).toInt64))), (.ref b5)])) rfl (by rw [hml]; rfl) (Steps.refl _) (argsL := [(.long (((9223372036854775807 : Int64) - ex) + (((((sel.toUInt32 >>> ((6 : Int32) &&& 31).toUInt32).toInt32) &&& (7 : Int32)) - (4 : Int32)).toInt64)))]) (rest := []) (lenOf own_pd2 rfl) rfl (by show 2 * 0 + _ ≤ _; exact Nat.le_of_eq rfl) (hb hby at_116) (fun _ _ => ⟨rfl, e6, (by decide : 1 + 0 ≤ _), (by decide : 2 + 0 ≤ _)⟩)
        dsimp only [Pt.U, Pt.locs, Pt.cells, Pt.slots] at X7 l7 y7 z7 st7 hQ7
        subst l7 y7 z7
        obtain ⟨rfl, N7q, e7⟩ := hQ7
        have N7 := Fr.app N6 N7q
        refine own_t (T' := T7) (g' := (mkF m 119 #[.val (.long ns), .second, .val (.long es), .second, .val (.int sel), .val (.long ex), .second, .val (.int (sel &&& (3 : Int32))), .val (.ref cn), .val (.long (((9223372036854775807 : Int64) - ex) + (((((sel.toUInt32 >>> ((6 : Int32) &&& 31).toUInt32).toInt32) &&& (7 : Int32)) - (4 : Int32)).toInt64))), .second, .val (.ref b5), .unset, .unset] [(.long (own_dl (((9223372036854775807 : Int64) - ex) + (((((sel.toUInt32 >>> ((6 : Int32) &&& 31).toUInt32).toInt32) &&& (7 : Int32)) - (4 : Int32)).toInt64)) ex))])) st7 ?_
        refine own_w (T' := T7) (g' := (mkF m 121 #[.val (.long ns), .second, .val (.long es), .second, .val (.int sel), .val (.long ex), .second, .val (.int (sel &&& (3 : Int32))), .val (.ref cn), .val (.long (((9223372036854775807 : Int64) - ex) + (((((sel.toUInt32 >>> ((6 : Int32) &&& 31).toUInt32).toInt32) &&& (7 : Int32)) - (4 : Int32)).toInt64))), .second, .val (.ref b5), .val (.long (own_dl (((9223372036854775807 : Int64) - ex) + (((((sel.toUInt32 >>> ((6 : Int32) &&& 31).toUInt32).toInt32) &&& (7 : Int32)) - (4 : Int32)).toInt64)) ex)), .second] [])) (fun _ k_ => XS.lstore X7.here hx rfl (hb hby at_119) rfl (l' := #[.val (.long ns), .second, .val (.long es), .second, .val (.int sel), .val (.long ex), .second, .val (.int (sel &&& (3 : Int32))), .val (.ref cn), .val (.long (((9223372036854775807 : Int64) - ex) + (((((sel.toUInt32 >>> ((6 : Int32) &&& 31).toUInt32).toInt32) &&& (7 : Int32)) - (4 : Int32)).toInt64))), .second, .val (.ref b5), .val (.long (own_dl (((9223372036854775807 : Int64) - ex) + (((((sel.toUInt32 >>> ((6 : Int32) &&& 31).toUInt32).toInt32) &&& (7 : Int32)) - (4 : Int32)).toInt64)) ex)), .second]) rfl k_) ?_
        refine own_w (T' := T7) (g' := (mkF m 123 #[.val (.long ns), .second, .val (.long es), .second, .val (.int sel), .val (.long ex), .second, .val (.int (sel &&& (3 : Int32))), .val (.ref cn), .val (.long (((9223372036854775807 : Int64) - ex) + (((((sel.toUInt32 >>> ((6 : Int32) &&& 31).toUInt32).toInt32) &&& (7 : Int32)) - (4 : Int32)).toInt64))), .second, .val (.ref b5), .val (.long (own_dl (((9223372036854775807 : Int64) - ex) + (((((sel.toUInt32 >>> ((6 : Int32) &&& 31).toUInt32).toInt32) &&& (7 : Int32)) - (4 : Int32)).toInt64)) ex)), .second] [(.long (own_dl (((9223372036854775807 : Int64) - ex) + (((((sel.toUInt32 >>> ((6 : Int32) &&& 31).toUInt32).toInt32) &&& (7 : Int32)) - (4 : Int32)).toInt64)) ex))])) (fun _ k_ => XS.lload X7.here hx rfl (hb hby at_121) rfl k_) ?_
        refine own_w (T' := T7) (g' := (mkF m 125 #[.val (.long ns), .second, .val (.long es), .second, .val (.int sel), .val (.long ex), .second, .val (.int (sel &&& (3 : Int32))), .val (.ref cn), .val (.long (((9223372036854775807 : Int64) - ex) + (((((sel.toUInt32 >>> ((6 : Int32) &&& 31).toUInt32).toInt32) &&& (7 : Int32)) - (4 : Int32)).toInt64))), .second, .val (.ref b5), .val (.long (own_dl (((9223372036854775807 : Int64) - ex) + (((((sel.toUInt32 >>> ((6 : Int32) &&& 31).toUInt32).toInt32) &&& (7 : Int32)) - (4 : Int32)).toInt64)) ex)), .second] [(.long (((9223372036854775807 : Int64) - ex) + (((((sel.toUInt32 >>> ((6 : Int32) &&& 31).toUInt32).toInt32) &&& (7 : Int32)) - (4 : Int32)).toInt64))), (.long (own_dl (((9223372036854775807 : Int64) - ex) + (((((sel.toUInt32 >>> ((6 : Int32) &&& 31).toUInt32).toInt32) &&& (7 : Int32)) - (4 : Int32)).toInt64)) ex))])) (fun _ k_ => XS.lload X7.here hx rfl (hb hby at_123) rfl k_) ?_
        refine own_w (T' := T7) (g' := (mkF m 127 #[.val (.long ns), .second, .val (.long es), .second, .val (.int sel), .val (.long ex), .second, .val (.int (sel &&& (3 : Int32))), .val (.ref cn), .val (.long (((9223372036854775807 : Int64) - ex) + (((((sel.toUInt32 >>> ((6 : Int32) &&& 31).toUInt32).toInt32) &&& (7 : Int32)) - (4 : Int32)).toInt64))), .second, .val (.ref b5), .val (.long (own_dl (((9223372036854775807 : Int64) - ex) + (((((sel.toUInt32 >>> ((6 : Int32) &&& 31).toUInt32).toInt32) &&& (7 : Int32)) - (4 : Int32)).toInt64)) ex)), .second] [(.long ex), (.long (((9223372036854775807 : Int64) - ex) + (((((sel.toUInt32 >>> ((6 : Int32) &&& 31).toUInt32).toInt32) &&& (7 : Int32)) - (4 : Int32)).toInt64))), (.long (own_dl (((9223372036854775807 : Int64) - ex) + (((((sel.toUInt32 >>> ((6 : Int32) &&& 31).toUInt32).toInt32) &&& (7 : Int32)) - (4 : Int32)).toInt64)) ex))])) (fun _ k_ => XS.lload X7.here hx rfl (hb hby at_125) rfl k_) ?_
        obtain ⟨_, _, ⟨T8, L8, k8, n8⟩, -, X8, ⟨Lc8, hQ8, l8, y8, z8⟩, st8⟩ := Jvm.LawKit.callS X7 hx (y := (⟨"com/example/oaken_shelf/oakenshelf/store/SetOptionsDeadlinePinLaw", "expected", "(JJ)J"⟩ : MethodName)) hown (mvT hZ (hw _ (List.mem_of_getElem? (i := 28) rfl))) (mvT hZ (hw _ (List.mem_of_getElem? (i := 29) rfl))) (mvT hZ (hw _ (List.mem_of_getElem? (i := 30) rfl))) (mvT hZ (hw _ (List.mem_of_getElem? (i := 31) rfl))) (by decide) (backOf (W := 2) (own_rm5 l Z a0 hw [] (((9223372036854775807 : Int64) - ex) + (((((sel.toUInt32 >>> ((6 : Int32) &&& 31).toUInt32).toInt32) &&& (7 : Int32)) - (4 : Int32)).toInt64)) ex  h6 n0 Z6 ) hZ (hw _ (List.mem_of_getElem? (i := 31) rfl)) (hw _ (List.mem_of_getElem? (i := 30) rfl)) (by decide) (by decide)) (g := (mkF m 127 #[.val (.long ns), .second, .val (.long es), .second, .val (.int sel), .val (.long ex), .second, .val (.int (sel &&& (3 : Int32))), .val (.ref cn), .val (.long (((9223372036854775807 : Int64) - ex) + (((((sel.toUInt32 >>> ((6 : Int32) &&& 31).toUInt32).toInt32) &&& (7 : Int32)) - (4 : Int32)).toInt64))), .second, .val (.ref b5), .val (.long (own_dl (((9223372036854775807 : Int64) - ex) + (((((sel.toUInt32 >>> ((6 : Int32) &&& 31).toUInt32).toInt32) &&& (7 : Int32)) - (4 : Int32)).toInt64)) ex)), .second] [(.long ex), (.long (((9223372036854775807 : Int64) - ex) + (((((sel.toUInt32 >>> ((6 : Int32) &&& 31).toUInt32).toInt32) &&& (7 : Int32)) - (4 : Int32)).toInt64))), (.long (own_dl (((9223372036854775807 : Int64) - ex) + (((((sel.toUInt32 >>> ((6 : Int32) &&& 31).toUInt32).toInt32) &&& (7 : Int32)) - (4 : Int32)).toInt64)) ex))])) rfl (by rw [hml]; rfl) (argsL := [(.long (((9223372036854775807 : Int64) - ex) + (((((sel.toUInt32 >>> ((6 : Int32) &&& 31).toUInt32).toInt32) &&& (7 : Int32)) - (4 : Int32)).toInt64))), (.long ex)]) (rest := [(.long (own_dl (((9223372036854775807 : Int64) - ex) + (((((sel.toUInt32 >>> ((6 : Int32) &&& 31).toUInt32).toInt32) &&& (7 : Int32)) - (4 : Int32)).toInt64)) ex))]) (lenOf own_pd3 rfl) rfl (by show 2 * 0 + _ ≤ _; exact Nat.le_of_eq rfl) (hb hby at_127) (fun _ _ => ⟨rfl, e7, (by decide : 1 + 0 ≤ _), (by decide : 2 + 0 ≤ _)⟩)
        dsimp only [Pt.U, Pt.locs, Pt.cells, Pt.slots] at X8 l8 y8 z8 st8 hQ8
        subst l8 y8 z8
        obtain ⟨rfl, N8q, e8⟩ := hQ8
        have N8 := Fr.app N7 N8q
        refine own_w (T' := T8) (g' := (mkF m 130 #[.val (.long ns), .second, .val (.long es), .second, .val (.int sel), .val (.long ex), .second, .val (.int (sel &&& (3 : Int32))), .val (.ref cn), .val (.long (((9223372036854775807 : Int64) - ex) + (((((sel.toUInt32 >>> ((6 : Int32) &&& 31).toUInt32).toInt32) &&& (7 : Int32)) - (4 : Int32)).toInt64))), .second, .val (.ref b5), .val (.long (own_dl (((9223372036854775807 : Int64) - ex) + (((((sel.toUInt32 >>> ((6 : Int32) &&& 31).toUInt32).toInt32) &&& (7 : Int32)) - (4 : Int32)).toInt64)) ex)), .second] [(.long (own_ex (((9223372036854775807 : Int64) - ex) + (((((sel.toUInt32 >>> ((6 : Int32) &&& 31).toUInt32).toInt32) &&& (7 : Int32)) - (4 : Int32)).toInt64)) ex)), (.long (own_dl (((9223372036854775807 : Int64) - ex) + (((((sel.toUInt32 >>> ((6 : Int32) &&& 31).toUInt32).toInt32) &&& (7 : Int32)) - (4 : Int32)).toInt64)) ex))])) st8 ?_
        refine own_w (T' := T8) (g' := (mkF m 131 #[.val (.long ns), .second, .val (.long es), .second, .val (.int sel), .val (.long ex), .second, .val (.int (sel &&& (3 : Int32))), .val (.ref cn), .val (.long (((9223372036854775807 : Int64) - ex) + (((((sel.toUInt32 >>> ((6 : Int32) &&& 31).toUInt32).toInt32) &&& (7 : Int32)) - (4 : Int32)).toInt64))), .second, .val (.ref b5), .val (.long (own_dl (((9223372036854775807 : Int64) - ex) + (((((sel.toUInt32 >>> ((6 : Int32) &&& 31).toUInt32).toInt32) &&& (7 : Int32)) - (4 : Int32)).toInt64)) ex)), .second] [(.int (lcmpW (own_dl (((9223372036854775807 : Int64) - ex) + (((((sel.toUInt32 >>> ((6 : Int32) &&& 31).toUInt32).toInt32) &&& (7 : Int32)) - (4 : Int32)).toInt64)) ex) (own_ex (((9223372036854775807 : Int64) - ex) + (((((sel.toUInt32 >>> ((6 : Int32) &&& 31).toUInt32).toInt32) &&& (7 : Int32)) - (4 : Int32)).toInt64)) ex)))])) (fun _ k_ => XS.lcmp X8.here hx rfl (hb hby at_130) rfl k_) ?_
        refine own_w (T' := T8) (g' := (mkF m 134 #[.val (.long ns), .second, .val (.long es), .second, .val (.int sel), .val (.long ex), .second, .val (.int (sel &&& (3 : Int32))), .val (.ref cn), .val (.long (((9223372036854775807 : Int64) - ex) + (((((sel.toUInt32 >>> ((6 : Int32) &&& 31).toUInt32).toInt32) &&& (7 : Int32)) - (4 : Int32)).toInt64))), .second, .val (.ref b5), .val (.long (own_dl (((9223372036854775807 : Int64) - ex) + (((((sel.toUInt32 >>> ((6 : Int32) &&& 31).toUInt32).toInt32) &&& (7 : Int32)) - (4 : Int32)).toInt64)) ex)), .second] [])) (fun _ k_ => XS.ifNo X8.here hx rfl (hb hby at_131) rfl ((if0 _ _).trans (teq ((lw_eq _ _).mpr (own_law hex))).2) k_) ?_
        refine own_w (T' := T8) (g' := (mkF m 135 #[.val (.long ns), .second, .val (.long es), .second, .val (.int sel), .val (.long ex), .second, .val (.int (sel &&& (3 : Int32))), .val (.ref cn), .val (.long (((9223372036854775807 : Int64) - ex) + (((((sel.toUInt32 >>> ((6 : Int32) &&& 31).toUInt32).toInt32) &&& (7 : Int32)) - (4 : Int32)).toInt64))), .second, .val (.ref b5), .val (.long (own_dl (((9223372036854775807 : Int64) - ex) + (((((sel.toUInt32 >>> ((6 : Int32) &&& 31).toUInt32).toInt32) &&& (7 : Int32)) - (4 : Int32)).toInt64)) ex)), .second] [(.int (1 : Int32))])) (fun _ k_ => XS.iconst X8.here hx rfl (hb hby at_134) k_) ?_
        refine own_w (T' := T8) (g' := (mkF m 139 #[.val (.long ns), .second, .val (.long es), .second, .val (.int sel), .val (.long ex), .second, .val (.int (sel &&& (3 : Int32))), .val (.ref cn), .val (.long (((9223372036854775807 : Int64) - ex) + (((((sel.toUInt32 >>> ((6 : Int32) &&& 31).toUInt32).toInt32) &&& (7 : Int32)) - (4 : Int32)).toInt64))), .second, .val (.ref b5), .val (.long (own_dl (((9223372036854775807 : Int64) - ex) + (((((sel.toUInt32 >>> ((6 : Int32) &&& 31).toUInt32).toInt32) &&& (7 : Int32)) - (4 : Int32)).toInt64)) ex)), .second] [(.int (1 : Int32))])) (fun _ k_ => XS.goto X8.here hx rfl (pc0 := 135) (pc' := 139) rfl (hb hby at_135) (by decide) (by decide) k_) ?_
        obtain ⟨fs, hr, hrun, hended, hW, hsame⟩ := X8.leave (v := some (.int (1 : Int32))) (fun h => by rw [Bd.returns] at h; cases h)
        exact ⟨_, _, retOut X8 hx Bd.returns rfl (Or.inl ⟨rfl, Or.inr (Or.inl rfl), _, rfl⟩) (hb hby at_139) hr, hrun, hended, _, _, rfl, (by show own_Q0 Z ns es sel cNEVER cEQUAL cALWAYS h0 n0 _ T8.heap _; rw [e8]; exact ⟨rfl, N8⟩), ⟨_, rfl⟩, hW, hsame.mono (by decide) (by decide)⟩
    by_cases hc33 : (sel &&& (3 : Int32)) = (1 : Int32)
    · refine own_w (T' := TJ) (g' := (mkF m 36 #[.val (.long ns), .second, .val (.long es), .second, .val (.int sel), .val (.long ex), .second, .val (.int (sel &&& (3 : Int32))), .unset, .unset, .unset, .unset, .unset, .unset] [])) (fun _ k_ => XS.icmpNo XJ.here hx rfl (hb hby at_33) rfl (teq hc33).2 k_) ?_
      obtain ⟨T9, X9, e9, st9⟩ := getS2 XJ hx hZ hown (host := "") (Or.inl (hw _ (List.mem_of_getElem? (i := 33) rfl))) Via.refl eJ SN (g := (mkF m 36 #[.val (.long ns), .second, .val (.long es), .second, .val (.int sel), .val (.long ex), .second, .val (.int (sel &&& (3 : Int32))), .unset, .unset, .unset, .unset, .unset, .unset] [])) rfl (hb hby at_36)
      refine own_w (T' := T9) (g' := (mkF m 39 #[.val (.long ns), .second, .val (.long es), .second, .val (.int sel), .val (.long ex), .second, .val (.int (sel &&& (3 : Int32))), .unset, .unset, .unset, .unset, .unset, .unset] [(.ref cNEVER)])) st9 ?_
      refine own_w (T' := T9) (g' := (mkF m 41 #[.val (.long ns), .second, .val (.long es), .second, .val (.int sel), .val (.long ex), .second, .val (.int (sel &&& (3 : Int32))), .val (.ref cNEVER), .unset, .unset, .unset, .unset, .unset] [])) (fun _ k_ => XS.astore X9.here hx rfl (hb hby at_39) rfl rfl (l' := #[.val (.long ns), .second, .val (.long es), .second, .val (.int sel), .val (.long ex), .second, .val (.int (sel &&& (3 : Int32))), .val (.ref cNEVER), .unset, .unset, .unset, .unset, .unset]) rfl k_) ?_
      refine own_w (T' := T9) (g' := (mkF m 63 #[.val (.long ns), .second, .val (.long es), .second, .val (.int sel), .val (.long ex), .second, .val (.int (sel &&& (3 : Int32))), .val (.ref cNEVER), .unset, .unset, .unset, .unset, .unset] [])) (fun _ k_ => XS.goto X9.here hx rfl (pc0 := 41) (pc' := 63) rfl (hb hby at_41) (by decide) (by decide) k_) ?_
      exact J63 _ _ X9 e9 NJ cNEVER
    · refine own_w (T' := TJ) (g' := (mkF m 44 #[.val (.long ns), .second, .val (.long es), .second, .val (.int sel), .val (.long ex), .second, .val (.int (sel &&& (3 : Int32))), .unset, .unset, .unset, .unset, .unset, .unset] [])) (fun _ k_ => XS.icmpYes XJ.here hx rfl (pc0 := 33) (pc' := 44) rfl (hb hby at_33) rfl (feq hc33).2 (by decide) (by decide) k_) ?_
      refine own_w (T' := TJ) (g' := (mkF m 46 #[.val (.long ns), .second, .val (.long es), .second, .val (.int sel), .val (.long ex), .second, .val (.int (sel &&& (3 : Int32))), .unset, .unset, .unset, .unset, .unset, .unset] [(.int (sel &&& (3 : Int32)))])) (fun _ k_ => XS.iload XJ.here hx rfl (hb hby at_44) rfl k_) ?_
      refine own_w (T' := TJ) (g' := (mkF m 47 #[.val (.long ns), .second, .val (.long es), .second, .val (.int sel), .val (.long ex), .second, .val (.int (sel &&& (3 : Int32))), .unset, .unset, .unset, .unset, .unset, .unset] [(.int (2 : Int32)), (.int (sel &&& (3 : Int32)))])) (fun _ k_ => XS.iconst XJ.here hx rfl (hb hby at_46) k_) ?_
      by_cases hc47 : (sel &&& (3 : Int32)) = (2 : Int32)
      · refine own_w (T' := TJ) (g' := (mkF m 50 #[.val (.long ns), .second, .val (.long es), .second, .val (.int sel), .val (.long ex), .second, .val (.int (sel &&& (3 : Int32))), .unset, .unset, .unset, .unset, .unset, .unset] [])) (fun _ k_ => XS.icmpNo XJ.here hx rfl (hb hby at_47) rfl (teq hc47).2 k_) ?_
        obtain ⟨T10, X10, e10, st10⟩ := getS2 XJ hx hZ hown (host := "") (Or.inl (hw _ (List.mem_of_getElem? (i := 35) rfl))) Via.refl eJ SE (g := (mkF m 50 #[.val (.long ns), .second, .val (.long es), .second, .val (.int sel), .val (.long ex), .second, .val (.int (sel &&& (3 : Int32))), .unset, .unset, .unset, .unset, .unset, .unset] [])) rfl (hb hby at_50)
        refine own_w (T' := T10) (g' := (mkF m 53 #[.val (.long ns), .second, .val (.long es), .second, .val (.int sel), .val (.long ex), .second, .val (.int (sel &&& (3 : Int32))), .unset, .unset, .unset, .unset, .unset, .unset] [(.ref cEQUAL)])) st10 ?_
        refine own_w (T' := T10) (g' := (mkF m 55 #[.val (.long ns), .second, .val (.long es), .second, .val (.int sel), .val (.long ex), .second, .val (.int (sel &&& (3 : Int32))), .val (.ref cEQUAL), .unset, .unset, .unset, .unset, .unset] [])) (fun _ k_ => XS.astore X10.here hx rfl (hb hby at_53) rfl rfl (l' := #[.val (.long ns), .second, .val (.long es), .second, .val (.int sel), .val (.long ex), .second, .val (.int (sel &&& (3 : Int32))), .val (.ref cEQUAL), .unset, .unset, .unset, .unset, .unset]) rfl k_) ?_
        refine own_w (T' := T10) (g' := (mkF m 63 #[.val (.long ns), .second, .val (.long es), .second, .val (.int sel), .val (.long ex), .second, .val (.int (sel &&& (3 : Int32))), .val (.ref cEQUAL), .unset, .unset, .unset, .unset, .unset] [])) (fun _ k_ => XS.goto X10.here hx rfl (pc0 := 55) (pc' := 63) rfl (hb hby at_55) (by decide) (by decide) k_) ?_
        exact J63 _ _ X10 e10 NJ cEQUAL
      · refine own_w (T' := TJ) (g' := (mkF m 58 #[.val (.long ns), .second, .val (.long es), .second, .val (.int sel), .val (.long ex), .second, .val (.int (sel &&& (3 : Int32))), .unset, .unset, .unset, .unset, .unset, .unset] [])) (fun _ k_ => XS.icmpYes XJ.here hx rfl (pc0 := 47) (pc' := 58) rfl (hb hby at_47) rfl (feq hc47).2 (by decide) (by decide) k_) ?_
        obtain ⟨T11, X11, e11, st11⟩ := getS2 XJ hx hZ hown (host := "") (Or.inl (hw _ (List.mem_of_getElem? (i := 1) rfl))) Via.refl eJ SA (g := (mkF m 58 #[.val (.long ns), .second, .val (.long es), .second, .val (.int sel), .val (.long ex), .second, .val (.int (sel &&& (3 : Int32))), .unset, .unset, .unset, .unset, .unset, .unset] [])) rfl (hb hby at_58)
        refine own_w (T' := T11) (g' := (mkF m 61 #[.val (.long ns), .second, .val (.long es), .second, .val (.int sel), .val (.long ex), .second, .val (.int (sel &&& (3 : Int32))), .unset, .unset, .unset, .unset, .unset, .unset] [(.ref cALWAYS)])) st11 ?_
        refine own_w (T' := T11) (g' := (mkF m 63 #[.val (.long ns), .second, .val (.long es), .second, .val (.int sel), .val (.long ex), .second, .val (.int (sel &&& (3 : Int32))), .val (.ref cALWAYS), .unset, .unset, .unset, .unset, .unset] [])) (fun _ k_ => XS.astore X11.here hx rfl (hb hby at_61) rfl rfl (l' := #[.val (.long ns), .second, .val (.long es), .second, .val (.int sel), .val (.long ex), .second, .val (.int (sel &&& (3 : Int32))), .val (.ref cALWAYS), .unset, .unset, .unset, .unset, .unset]) rfl k_) ?_
        exact J63 _ _ X11 e11 NJ cALWAYS
  by_cases hc13 : (((sel.toUInt32 >>> ((5 : Int32) &&& 31).toUInt32).toInt32) &&& (1 : Int32)) = (0 : Int32)
  · refine own_w (T' := s₁) (g' := (mkF m 24 #[.val (.long ns), .second, .val (.long es), .second, .val (.int sel), .val (.long (es &&& (9223372036854775807 : Int64))), .second, .unset, .unset, .unset, .unset, .unset, .unset, .unset] [])) (fun _ k_ => XS.ifYes X0.here hx rfl (pc0 := 13) (pc' := 24) rfl (hb hby at_13) rfl ((if0 _ _).trans (teq hc13).1) (by decide) (by decide) k_) ?_
    exact J24 _ _ X0 e0 N0 (es &&& (9223372036854775807 : Int64)) (own_and (by decide))
  · refine own_w (T' := s₁) (g' := (mkF m 16 #[.val (.long ns), .second, .val (.long es), .second, .val (.int sel), .val (.long (es &&& (9223372036854775807 : Int64))), .second, .unset, .unset, .unset, .unset, .unset, .unset, .unset] [])) (fun _ k_ => XS.ifNo X0.here hx rfl (hb hby at_13) rfl ((if0 _ _).trans (feq hc13).1) k_) ?_
    refine own_w (T' := s₁) (g' := (mkF m 18 #[.val (.long ns), .second, .val (.long es), .second, .val (.int sel), .val (.long (es &&& (9223372036854775807 : Int64))), .second, .unset, .unset, .unset, .unset, .unset, .unset, .unset] [(.long (es &&& (9223372036854775807 : Int64)))])) (fun _ k_ => XS.lload X0.here hx rfl (hb hby at_16) rfl k_) ?_
    refine own_w (T' := s₁) (g' := (mkF m 21 #[.val (.long ns), .second, .val (.long es), .second, .val (.int sel), .val (.long (es &&& (9223372036854775807 : Int64))), .second, .unset, .unset, .unset, .unset, .unset, .unset, .unset] [(.long (255 : Int64)), (.long (es &&& (9223372036854775807 : Int64)))])) (X0.ldc2Long hx hown (mvT hZ (hw _ (List.mem_of_getElem? (i := 32) rfl))) (g := (mkF m 18 #[.val (.long ns), .second, .val (.long es), .second, .val (.int sel), .val (.long (es &&& (9223372036854775807 : Int64))), .second, .unset, .unset, .unset, .unset, .unset, .unset, .unset] [(.long (es &&& (9223372036854775807 : Int64)))])) rfl (hb hby at_18)) ?_
    refine own_w (T' := s₁) (g' := (mkF m 22 #[.val (.long ns), .second, .val (.long es), .second, .val (.int sel), .val (.long (es &&& (9223372036854775807 : Int64))), .second, .unset, .unset, .unset, .unset, .unset, .unset, .unset] [(.long ((es &&& (9223372036854775807 : Int64)) &&& (255 : Int64)))])) (fun _ k_ => XS.land X0.here hx rfl (hb hby at_21) rfl k_) ?_
    refine own_w (T' := s₁) (g' := (mkF m 24 #[.val (.long ns), .second, .val (.long es), .second, .val (.int sel), .val (.long ((es &&& (9223372036854775807 : Int64)) &&& (255 : Int64))), .second, .unset, .unset, .unset, .unset, .unset, .unset, .unset] [])) (fun _ k_ => XS.lstore X0.here hx rfl (hb hby at_22) rfl (l' := #[.val (.long ns), .second, .val (.long es), .second, .val (.int sel), .val (.long ((es &&& (9223372036854775807 : Int64)) &&& (255 : Int64))), .second, .unset, .unset, .unset, .unset, .unset, .unset, .unset]) rfl k_) ?_
    exact J24 _ _ X0 e0 N0 ((es &&& (9223372036854775807 : Int64)) &&& (255 : Int64)) (own_and (by decide))
set_option maxRecDepth 65536 in
set_option maxHeartbeats 40000000 in
theorem comes_1 {Post : Tables → Env → Array Value → State → Outcome → State → Prop} (hpost : ∀ tb e args s v u, (limb_1_1.after args s (.returned v) u = true ∧ limb_1_2.after args s (.returned v) u = true ∧ True) → FrameEnd s (.returned v) u (Jvm.fieldLocs frame_1_writes args s ++ Jvm.arrayLocs frame_1_arrays args s ++ Jvm.staticLocs frame_1_statics s) 16 128 → Post tb e args s (.returned v) u) :
    ArmFor flags0 classFile x code maxLocals ret World_1 tables_1 room_1 Calls_1 rest_1 Pre_1 Post := by
  intro l hfl _ _ p e ha hc hk s m args below hf hA hF happ hP
  obtain ⟨hcalls, hrest, hpre⟩ := hP
  obtain ⟨-, -, -, hnamed, -, -, -, hat⟩ := (Spec.applies_iff hf).mp happ
  obtain ⟨hg, hn⟩ := and_e (Cond.before_iff.mp (show (Jvm.Cond.and given_1 narrow_1).before args s = true from hpre))
  obtain ⟨hcount, hr0⟩ := and_e hg
  obtain ⟨ga0, hr1⟩ := and_e hr0
  obtain ⟨ga1, hr2⟩ := and_e hr1
  have ga2 := hr2
  obtain ⟨w0, w1, w2, rfl⟩ : ∃ w0 w1 w2 : Value, args = #[w0, w1, w2] := by
    have hs : args.size = 3 := by simpa [Cond.value, given_1] using hcount
    obtain ⟨L⟩ := args
    match L, hs with
    | [w0, w1, w2], _ => exact ⟨w0, w1, w2, rfl⟩
  have hw := fun d (hd : d ∈ tables_1) => atoms_spec (ws := Jvm.Cond.code x code maxLocals ret :: tables_1) hat d (List.mem_cons_of_mem _ hd)
  obtain ⟨i0, ei0⟩ := isL_v ga0
  obtain rfl : w0 = (.long i0) := Option.some.inj ei0
  obtain ⟨i1, ei1⟩ := isL_v ga1
  obtain rfl : w1 = (.long i1) := Option.some.inj ei1
  obtain ⟨i2, ei2⟩ := is_v ga2
  obtain rfl : w2 = (.int i2) := Option.some.inj ei2
  obtain ⟨hnA, hn1⟩ := and_e hn
  obtain ⟨hnN, hnE⟩ := and_e hn1
  obtain ⟨cA, _, _, _, evA, _⟩ := Cond.exactly_spec (Cond.before_iff.mpr hnA)
  have SA := Sta.start evA (Or.inr ⟨(hw _ (List.mem_of_getElem? (i := 2) rfl)), (hw _ (List.mem_of_getElem? (i := 3) rfl))⟩)
  obtain ⟨cN, _, _, _, evN, _⟩ := Cond.exactly_spec (Cond.before_iff.mpr hnN)
  have SN := Sta.start evN (Or.inr ⟨(hw _ (List.mem_of_getElem? (i := 2) rfl)), (hw _ (List.mem_of_getElem? (i := 34) rfl))⟩)
  obtain ⟨cE, _, _, _, evE, _⟩ := Cond.exactly_spec (Cond.before_iff.mpr hnE)
  have SE := Sta.start evE (Or.inr ⟨(hw _ (List.mem_of_getElem? (i := 2) rfl)), (hw _ (List.mem_of_getElem? (i := 36) rfl))⟩)
  obtain ⟨n, o, h1, h2, h3, _, L, rfl, ⟨rfl, N⟩, hq⟩ := own_rm0 l s _ hw tables_1 i0 i1 i2 _ _ _ s.heap s.heap.size (Nat.le_refl _) SN SE SA p e ha hc hk s m _ below hf ((Spec.applies_iff_loose hf).mp happ).1 ⟨rfl, State.Warmed39.refl s, rfl⟩ trivial
  refine ⟨n, _, h1, h2, h3, hpost _ _ _ _ _ _ ⟨Cond.after_iff.mpr rfl, Cond.after_iff.mpr (eq_i res_at (Term.int_eval (1)) rfl), trivial⟩ ⟨hq.1, hq.2.1, (hq.2.2.sift fun y hy => Or.inr (N y hy)).mono (by decide) (by decide)⟩⟩
theorem main_1_1 : Claimed_1_1 := comes_1 fun _ _ _ _ _ _ h hF => ⟨h.1, hF⟩
theorem main_1_2 : Claimed_1_2 := comes_1 fun _ _ _ _ _ _ h hF => ⟨h.2.1, hF⟩
end Jvm.Pilot.@@N@@
namespace Jvm.Pilot.@@N@@
open Jvm Jvm.ClassFile Sem Op Lib Jvm.Free Jvm.Stand Jvm.Pilot.@@N@@.Jvm.D
/-! MADE BY PROGRAM (witnessworld.py) out of the Statement's table words and the real class files: 14 classes; the members and pool entries that the words name. The judged class is class 1, her method 1. -/
namespace start1
open Jvm.ClassFile
def u (s : String) : CpInfo := .utf8 (stringToUtf16 s)
/-- a pool by its gaps: so many unusable entries, then the entry; so many at the end -/
def gap : Nat → List CpInfo → List CpInfo
  | 0, r => r
  | n + 1, r => .unusable :: gap n r
def poolList (es : List (Nat × CpInfo)) (last : Nat) : List CpInfo := es.foldr (fun e r => gap e.1 (e.2 :: r)) (gap last [])
def pool (es : List (Nat × CpInfo)) (last : Nat) : Array CpInfo := ⟨poolList es last⟩
def fileOf (pool : Array CpInfo) (this : Nat) (attrs : Array Attribute := #[]) (ms : Array MethodInfo := #[]) (fl : Nat := 33) (sup : Nat := 0) (ifs : Array Nat := #[]) (fds : Array FieldInfo := #[]) : ClassFile where
  minorVersion := 0
  majorVersion := 65
  constantPool := pool
  accessFlags := fl
  thisClass := this
  superClass := sup
  interfaces := ifs
  fields := fds
  methods := ms
  attributes := attrs
def plain (name : String) (sup : Option ClassId) : Class where
  name := name
  kind := .ordinary
  loader := none
  accessFlags := 33
  super := sup
  interfaces := #[]
  cf := none
  fields := #[]
  methods := #[]
  instanceTypes := #[]
  staticTypes := #[]
  resolved := #[]
  callSites := []
  init := .initialized
  statics := none
  mirror := none

def pool0 : Array CpInfo := pool [(5, u "<init>"), (0, u "()V"), (1, .class_ 10), (1, u "java/lang/Object")] 113

def k0c0 : Code := { maxStack := 0, maxLocals := 1, code := object_method_1_code, exceptionTable := #[], attributes := #[] }
def k0m0 : Method := { name := "<init>", desc := "()V", sig := { parameters := [], returnType := none }, accessFlags := 1, code := some k0c0 }
/-- java/lang/Object -/
def k0 : Class := { plain "java/lang/Object" none with
  accessFlags := 33
  interfaces := #[]
  cf := some (fileOf pool0 8 #[] #[{ accessFlags := 1, nameIndex := 5, descriptorIndex := 6, attributes := #[] }] 33 0 #[] #[])
  fields := #[]
  methods := #[k0m0]
  instanceTypes := #[]
  staticTypes := #[]
  resolved := Array.replicate 124 none
  statics := none }

def pool1 : Array CpInfo := pool [(2, .class_ 4), (1, u "java/lang/Object"), (0, u "<init>"), (0, u "()V"), (2, .long 9223372036854775807), (1, .long 255), (1, .fieldref 14 15), (0, .class_ 16), (0, .nameAndType 17 18), (0, u "com/example/oaken_shelf/oakenshelf/store/SetOptions$Condition"), (0, u "NEVER"), (0, u "Lcom/example/oaken_shelf/oakenshelf/store/SetOptions$Condition;"), (0, .fieldref 14 20), (0, .nameAndType 21 18), (0, u "EQUAL"), (0, .fieldref 14 23), (0, .nameAndType 24 18), (0, u "ALWAYS"), (0, .class_ 26), (0, u "com/example/oaken_shelf/oakenshelf/store/SetOptions"), (0, .methodref 25 28), (0, .nameAndType 5 29), (0, u "(Lcom/example/oaken_shelf/oakenshelf/store/SetOptions$Condition;J)V"), (0, .methodref 25 31), (0, .nameAndType 32 33), (0, u "deadline"), (0, u "(J)J"), (0, .methodref 35 36), (0, .class_ 37), (0, .nameAndType 38 39), (0, u "com/example/oaken_shelf/oakenshelf/store/SetOptionsDeadlinePinLaw"), (0, u "expected"), (0, u "(JJ)J"), (2, u "law"), (0, u "(JJI)Z")] 5

def k1m0 : Method := { name := "<init>", desc := "()V", sig := { parameters := [], returnType := none }, accessFlags := 1, code := none }
def k1c1 : Code := { maxStack := 6, maxLocals := 14, code := code, exceptionTable := #[], attributes := #[] }
def k1m1 : Method := { name := "law", desc := "(JJI)Z", sig := { parameters := [.long, .long, .int], returnType := some .boolean }, accessFlags := 9, code := some k1c1 }
def k1c2 : Code := { maxStack := 4, maxLocals := 6, code := method_3_code, exceptionTable := #[], attributes := #[] }
def k1m2 : Method := { name := "expected", desc := "(JJ)J", sig := { parameters := [.long, .long], returnType := some .long }, accessFlags := 10, code := some k1c2 }
/-- com/example/oaken_shelf/oakenshelf/store/SetOptionsDeadlinePinLaw -/
def k1 : Class := { plain "com/example/oaken_shelf/oakenshelf/store/SetOptionsDeadlinePinLaw" (some 0) with
  accessFlags := 49
  interfaces := #[]
  cf := some (fileOf pool1 35 #[] #[{ accessFlags := 1, nameIndex := 5, descriptorIndex := 6, attributes := #[] }, { accessFlags := 9, nameIndex := 42, descriptorIndex := 43, attributes := #[] }, { accessFlags := 10, nameIndex := 38, descriptorIndex := 39, attributes := #[] }] 49 2 #[] #[])
  fields := #[]
  methods := #[k1m0, k1m1, k1m2]
  instanceTypes := #[]
  staticTypes := #[]
  resolved := Array.replicate 49 none
  statics := none }

def pool2 : Array CpInfo := pool [(1, .class_ 2), (0, u "java/lang/constant/Constable"), (0, .class_ 4), (0, u "java/lang/Object")] 6

/-- java/lang/constant/Constable -/
def k2 : Class := { plain "java/lang/constant/Constable" (some 0) with
  accessFlags := 1537
  interfaces := #[]
  cf := some (fileOf pool2 1 #[] #[] 1537 3 #[] #[])
  fields := #[]
  methods := #[]
  instanceTypes := #[]
  staticTypes := #[]
  resolved := Array.replicate 11 none
  statics := none }

def pool3 : Array CpInfo := pool [(1, .class_ 2), (0, u "java/lang/Comparable"), (0, .class_ 4), (0, u "java/lang/Object")] 7

/-- java/lang/Comparable -/
def k3 : Class := { plain "java/lang/Comparable" (some 0) with
  accessFlags := 1537
  interfaces := #[]
  cf := some (fileOf pool3 1 #[] #[] 1537 3 #[] #[])
  fields := #[]
  methods := #[]
  instanceTypes := #[]
  staticTypes := #[]
  resolved := Array.replicate 12 none
  statics := none }

def pool4 : Array CpInfo := pool [(1, .class_ 2), (0, u "java/io/Serializable"), (0, .class_ 4), (0, u "java/lang/Object")] 2

/-- java/io/Serializable -/
def k4 : Class := { plain "java/io/Serializable" (some 0) with
  accessFlags := 1537
  interfaces := #[]
  cf := some (fileOf pool4 1 #[] #[] 1537 3 #[] #[])
  fields := #[]
  methods := #[]
  instanceTypes := #[]
  staticTypes := #[]
  resolved := Array.replicate 7 none
  statics := none }

def pool5 : Array CpInfo := pool [(2, .class_ 4), (1, u "java/lang/Enum"), (0, u "name"), (0, u "Ljava/lang/String;"), (2, u "ordinal"), (0, u "I"), (1, .class_ 14), (1, u "java/lang/Object"), (4, u "hash"), (86, .class_ 108), (1, u "java/lang/Enum$EnumDesc"), (2, .class_ 112), (0, u "java/lang/constant/Constable"), (0, .class_ 114), (0, u "java/lang/Comparable"), (0, .class_ 116), (0, u "java/io/Serializable")] 87

/-- java/lang/Enum -/
def k5 : Class := { plain "java/lang/Enum" (some 0) with
  accessFlags := 1057
  interfaces := #[2, 3, 4]
  cf := some (fileOf pool5 2 #[.nestMembers #[106]] #[] 1057 12 #[111, 113, 115] #[{ accessFlags := 18, nameIndex := 5, descriptorIndex := 6, attributes := #[] }, { accessFlags := 18, nameIndex := 9, descriptorIndex := 10, attributes := #[] }, { accessFlags := 2, nameIndex := 19, descriptorIndex := 10, attributes := #[] }])
  fields := #[{ name := "name", type := (.object "java/lang/String"), accessFlags := 18, slot := 0, constantValue := 0 }, { name := "ordinal", type := .int, accessFlags := 18, slot := 1, constantValue := 0 }, { name := "hash", type := .int, accessFlags := 2, slot := 2, constantValue := 0 }]
  methods := #[]
  instanceTypes := #[(.object "java/lang/String"), .int, .int]
  staticTypes := #[]
  resolved := Array.replicate 204 none
  statics := none }

def pool6 : Array CpInfo := pool [(1, .class_ 2), (0, u "com/example/oaken_shelf/oakenshelf/store/SetOptions$Condition"), (2, u "ALWAYS"), (0, u "Lcom/example/oaken_shelf/oakenshelf/store/SetOptions$Condition;"), (2, u "NEVER"), (2, u "EQUAL"), (2, u "$VALUES"), (0, u "[Lcom/example/oaken_shelf/oakenshelf/store/SetOptions$Condition;"), (6, .class_ 25), (1, u "java/lang/Enum"), (26, .class_ 53), (0, u "com/example/oaken_shelf/oakenshelf/store/SetOptions")] 2

/-- com/example/oaken_shelf/oakenshelf/store/SetOptions$Condition -/
def k6 : Class := { plain "com/example/oaken_shelf/oakenshelf/store/SetOptions$Condition" (some 5) with
  accessFlags := 16432
  interfaces := #[]
  cf := some (fileOf pool6 1 #[.nestHost 52] #[] 16432 23 #[] #[{ accessFlags := 16409, nameIndex := 5, descriptorIndex := 6, attributes := #[] }, { accessFlags := 16409, nameIndex := 9, descriptorIndex := 6, attributes := #[] }, { accessFlags := 16409, nameIndex := 12, descriptorIndex := 6, attributes := #[] }, { accessFlags := 4122, nameIndex := 15, descriptorIndex := 16, attributes := #[] }])
  fields := #[{ name := "ALWAYS", type := (.object "com/example/oaken_shelf/oakenshelf/store/SetOptions$Condition"), accessFlags := 16409, slot := 0, constantValue := 0 }, { name := "NEVER", type := (.object "com/example/oaken_shelf/oakenshelf/store/SetOptions$Condition"), accessFlags := 16409, slot := 1, constantValue := 0 }, { name := "EQUAL", type := (.object "com/example/oaken_shelf/oakenshelf/store/SetOptions$Condition"), accessFlags := 16409, slot := 2, constantValue := 0 }, { name := "$VALUES", type := (.array (.object "com/example/oaken_shelf/oakenshelf/store/SetOptions$Condition")), accessFlags := 4122, slot := 3, constantValue := 0 }]
  methods := #[]
  instanceTypes := #[(.object "java/lang/String"), .int, .int]
  staticTypes := #[(.object "com/example/oaken_shelf/oakenshelf/store/SetOptions$Condition"), (.object "com/example/oaken_shelf/oakenshelf/store/SetOptions$Condition"), (.object "com/example/oaken_shelf/oakenshelf/store/SetOptions$Condition"), (.array (.object "com/example/oaken_shelf/oakenshelf/store/SetOptions$Condition"))]
  resolved := Array.replicate 56 none
  statics := some 0 }

def pool7 : Array CpInfo := pool [(1, .methodref 2 3), (0, .class_ 4), (0, .nameAndType 5 6), (0, u "java/lang/Object"), (0, u "<init>"), (0, u "()V"), (0, .class_ 8), (0, u "java/lang/Record")] 13

def k7c0 : Code := { maxStack := 1, maxLocals := 1, code := jdk_30_method_1_code, exceptionTable := #[], attributes := #[] }
def k7m0 : Method := { name := "<init>", desc := "()V", sig := { parameters := [], returnType := none }, accessFlags := 4, code := some k7c0 }
/-- java/lang/Record -/
def k7 : Class := { plain "java/lang/Record" (some 0) with
  accessFlags := 1057
  interfaces := #[]
  cf := some (fileOf pool7 7 #[] #[{ accessFlags := 4, nameIndex := 5, descriptorIndex := 6, attributes := #[] }] 1057 2 #[] #[])
  fields := #[]
  methods := #[k7m0]
  instanceTypes := #[]
  staticTypes := #[]
  resolved := Array.replicate 22 none
  statics := none }

def pool8 : Array CpInfo := pool [(3, .methodref 4 5), (0, .class_ 6), (0, .nameAndType 7 8), (0, u "java/lang/Record"), (0, u "<init>"), (0, u "()V"), (0, .fieldref 10 11), (0, .class_ 12), (0, .nameAndType 13 14), (0, u "com/example/oaken_shelf/oakenshelf/store/SetOptions"), (0, u "condition"), (0, u "Lcom/example/oaken_shelf/oakenshelf/store/SetOptions$Condition;"), (0, .fieldref 10 16), (0, .nameAndType 17 18), (0, u "expiryMillis"), (0, u "J"), (1, .class_ 22), (1, u "com/example/oaken_shelf/oakenshelf/store/SetOptions$Condition"), (60, u "(Lcom/example/oaken_shelf/oakenshelf/store/SetOptions$Condition;J)V"), (17, .long 9223372036854775807), (12, u "NO_DEADLINE"), (10, u "deadline"), (0, u "(J)J")] 27

def k8c0 : Code := { maxStack := 3, maxLocals := 4, code := prog_69_method_1_code, exceptionTable := #[], attributes := #[] }
def k8m0 : Method := { name := "<init>", desc := "(Lcom/example/oaken_shelf/oakenshelf/store/SetOptions$Condition;J)V", sig := { parameters := [(.object "com/example/oaken_shelf/oakenshelf/store/SetOptions$Condition"), .long], returnType := none }, accessFlags := 1, code := some k8c0 }
def k8c1 : Code := { maxStack := 6, maxLocals := 5, code := prog_69_method_5_code, exceptionTable := #[], attributes := #[] }
def k8m1 : Method := { name := "deadline", desc := "(J)J", sig := { parameters := [.long], returnType := some .long }, accessFlags := 0, code := some k8c1 }
/-- com/example/oaken_shelf/oakenshelf/store/SetOptions -/
def k8 : Class := { plain "com/example/oaken_shelf/oakenshelf/store/SetOptions" (some 7) with
  accessFlags := 49
  interfaces := #[]
  cf := some (fileOf pool8 10 #[.nestMembers #[20]] #[{ accessFlags := 1, nameIndex := 7, descriptorIndex := 83, attributes := #[] }, { accessFlags := 0, nameIndex := 125, descriptorIndex := 126, attributes := #[] }] 49 4 #[] #[{ accessFlags := 18, nameIndex := 13, descriptorIndex := 14, attributes := #[] }, { accessFlags := 18, nameIndex := 17, descriptorIndex := 18, attributes := #[] }, { accessFlags := 25, nameIndex := 114, descriptorIndex := 18, attributes := #[] }])
  fields := #[{ name := "condition", type := (.object "com/example/oaken_shelf/oakenshelf/store/SetOptions$Condition"), accessFlags := 18, slot := 0, constantValue := 0 }, { name := "expiryMillis", type := .long, accessFlags := 18, slot := 1, constantValue := 0 }, { name := "NO_DEADLINE", type := .long, accessFlags := 25, slot := 0, constantValue := 0 }]
  methods := #[k8m0, k8m1]
  instanceTypes := #[(.object "com/example/oaken_shelf/oakenshelf/store/SetOptions$Condition"), .long]
  staticTypes := #[.long]
  resolved := Array.replicate 154 none
  statics := none }

def pool9 : Array CpInfo := pool [(1, u "java/lang/Cloneable"), (0, .class_ 1), (0, u "java/lang/Object"), (0, .class_ 3)] 3

/-- java/lang/Cloneable -/
def k9 : Class := { plain "java/lang/Cloneable" (some 0) with
  accessFlags := 1537
  interfaces := #[]
  cf := some (fileOf pool9 2 #[] #[] 1537 4 #[] #[])
  fields := #[]
  methods := #[]
  instanceTypes := #[]
  staticTypes := #[]
  resolved := Array.replicate 8 none
  statics := none }

/-- the primitive byte -/
def k10 : Class := { plain "byte" none with kind := .primitive 'B', accessFlags := 0x411 }
/-- [B -/
def k11 : Class := { plain "[B" (some 0) with kind := .array 10 .byte, interfaces := #[9, 4], accessFlags := 1041 }

/-- the primitive int -/
def k12 : Class := { plain "int" none with kind := .primitive 'I', accessFlags := 0x411 }
/-- [I -/
def k13 : Class := { plain "[I" (some 0) with kind := .array 12 .int, interfaces := #[9, 4], accessFlags := 1041 }

def heap : Heap := #[{ cls := 6, slots := #[.ref 1, .ref 2, .ref 3, .null], vm := .statics 6 },
  { cls := 6, slots := #[.null, .int 0, .int 0], vm := .none },
  { cls := 6, slots := #[.null, .int 1, .int 0], vm := .none },
  { cls := 6, slots := #[.null, .int 2, .int 0], vm := .none }]
def classes : Array Class := #[k0, k1, k2, k3, k4, k5, k6, k7, k8, k9, k10, k11, k12, k13]
def interned : List (Array UInt16 × Addr) := []
def slotsUsed : Nat := 13
def theMethod : MethodId := ⟨1, 1⟩
def args0 : Array Value := #[.long 1, .long 7, .int 9]
def aboutOver (below : List Frame) : State where
  vm := { classes := classes, interned := interned.toArray }
  heap := heap
  slotsUsed := slotsUsed
  threads := #[{ frames := .invoking theMethod args0 :: below }]
def below0 : List Frame := [.native { method := ⟨0, 0⟩, args := #[] }]
def about1 : State := aboutOver below0
def p0 : Program := .bare "" "" ""
def e0 : Env := launch0.env 0 0 0
theorem w_frames : about1.frames = Frame.invoking theMethod args0 :: below0 := rfl
set_option maxRecDepth 65536 in
theorem w_args : argsFit about1.vm theMethod args0 = true := by decide +kernel
set_option maxRecDepth 65536 in
theorem w_heap : heapFits about1 = true := by decide +kernel
set_option maxRecDepth 65536 in
theorem w_runnable : about1.curStatus? = some .runnable := by decide +kernel
set_option maxRecDepth 65536 in
theorem w_alone : about1.alone = true := by decide +kernel
set_option maxRecDepth 65536 in
theorem w_named : about1.methodNamed? x = some theMethod := by decide +kernel
set_option maxRecDepth 65536 in
theorem w_hears : about1.hears theMethod below0 = true := by decide +kernel
set_option maxRecDepth 65536 in
theorem w_ripe : about1.ripe theMethod args0 below0 = true := by decide +kernel
theorem w_running : about1.status = .running := rfl
set_option maxRecDepth 65536 in
theorem w_room : about1.hasRoom e0.platform room_1 = true :=
  launch0.hasRoom_least _ room_1 (by decide +kernel) (by decide +kernel) (by decide +kernel) (by decide +kernel) (by decide +kernel) (by decide +kernel)
theorem allAtoms_all (ts : List Jvm.Cond) (a : Array Jvm.Value) (st : Jvm.State) : (allAtoms ts).before a st = ts.all (fun c => c.before a st) := by
  induction ts with
  | nil => rfl
  | cons c t ih =>
    show (Jvm.Cond.and c (allAtoms t)).before a st = _
    rw [Jvm.Cond.before_and, ih, List.all_cons]
def words1 : List Jvm.Cond := Jvm.Cond.code x code maxLocals ret :: tables_1
/-- a 'code' word, met by the world's own term for the bytes: nothing is compared byte by byte -/
theorem code_word {y : MethodName} {bytes : ByteArray} {mx : Nat} {rt : Option FieldType} {a : Array Value} {s : State} {m : MethodId} {meth : Method} {c : Code} (h1 : s.methodNamed? y = some m) (h2 : s.vm.method? m = some meth) (h3 : meth.code = some c) (h4 : c.code = bytes)
    (h5 : (c.maxLocals == mx && c.exceptionTable.isEmpty && decide (c.maxStack ≤ mostOperands) && decide (meth.sig.returnType = rt) && !meth.locks && decide (parseMethodDescriptor y.desc = some meth.sig)) = true) : (Jvm.Cond.code y bytes mx rt).before a s = true := by
  simp only [Bool.and_eq_true, beq_iff_eq, Bool.not_eq_true', decide_eq_true_eq] at h5
  obtain ⟨⟨⟨⟨⟨g1, g2⟩, g3⟩, g4⟩, g5⟩, g6⟩ := h5
  simp [Cond.before, Cond.holds, Cond.value, h1, h2, h3, h4, g1, g2, g3, g4, g5, g6]
def isCode : Jvm.Cond → Bool
  | .code _ _ _ _ => true
  | _ => false
theorem all_split {L : List Jvm.Cond} {P : Jvm.Cond → Bool} (h1 : L.all (fun c => isCode c || P c) = true) (h2 : ∀ c ∈ L.filter isCode, P c = true) : L.all P = true := by
  refine List.all_eq_true.mpr fun c hc => ?_
  have h := List.all_eq_true.mp h1 c hc
  rcases Bool.eq_false_or_eq_true (isCode c) with hi | hi
  · exact h2 c (List.mem_filter.mpr ⟨hc, hi⟩)
  · simpa [hi] using h
set_option maxRecDepth 65536 in
theorem w_c0 : (Jvm.Cond.code x code maxLocals ret).before args0 about1 = true := code_word (m := ⟨1, 1⟩) (meth := k1m1) (c := k1c1) (by decide +kernel) rfl rfl rfl (by decide +kernel)
set_option maxRecDepth 65536 in
theorem w_c1 : (Jvm.Cond.code ({ cls := "com/example/oaken_shelf/oakenshelf/store/SetOptions", name := "<init>", desc := "(Lcom/example/oaken_shelf/oakenshelf/store/SetOptions$Condition;J)V" } : Jvm.MethodName) prog_69_method_1_code (4 : Nat) (Option.none : Option Jvm.ClassFile.FieldType)).before args0 about1 = true := code_word (m := ⟨8, 0⟩) (meth := k8m0) (c := k8c0) (by decide +kernel) rfl rfl rfl (by decide +kernel)
set_option maxRecDepth 65536 in
theorem w_c2 : (Jvm.Cond.code ({ cls := "java/lang/Record", name := "<init>", desc := "()V" } : Jvm.MethodName) jdk_30_method_1_code (1 : Nat) (Option.none : Option Jvm.ClassFile.FieldType)).before args0 about1 = true := code_word (m := ⟨7, 0⟩) (meth := k7m0) (c := k7c0) (by decide +kernel) rfl rfl rfl (by decide +kernel)
set_option maxRecDepth 65536 in
theorem w_c3 : (Jvm.Cond.code ({ cls := "java/lang/Object", name := "<init>", desc := "()V" } : Jvm.MethodName) object_method_1_code (1 : Nat) (Option.none : Option Jvm.ClassFile.FieldType)).before args0 about1 = true := code_word (m := ⟨0, 0⟩) (meth := k0m0) (c := k0c0) (by decide +kernel) rfl rfl rfl (by decide +kernel)
set_option maxRecDepth 65536 in
theorem w_c4 : (Jvm.Cond.code ({ cls := "com/example/oaken_shelf/oakenshelf/store/SetOptions", name := "deadline", desc := "(J)J" } : Jvm.MethodName) prog_69_method_5_code (5 : Nat) (Option.some Jvm.ClassFile.FieldType.long)).before args0 about1 = true := code_word (m := ⟨8, 1⟩) (meth := k8m1) (c := k8c1) (by decide +kernel) rfl rfl rfl (by decide +kernel)
set_option maxRecDepth 65536 in
theorem w_c5 : (Jvm.Cond.code ({ cls := "com/example/oaken_shelf/oakenshelf/store/SetOptionsDeadlinePinLaw", name := "expected", desc := "(JJ)J" } : Jvm.MethodName) method_3_code (6 : Nat) (Option.some Jvm.ClassFile.FieldType.long)).before args0 about1 = true := code_word (m := ⟨1, 2⟩) (meth := k1m2) (c := k1c2) (by decide +kernel) rfl rfl rfl (by decide +kernel)
def codes1 : List Jvm.Cond := [Jvm.Cond.code x code maxLocals ret, Jvm.Cond.code ({ cls := "com/example/oaken_shelf/oakenshelf/store/SetOptions", name := "<init>", desc := "(Lcom/example/oaken_shelf/oakenshelf/store/SetOptions$Condition;J)V" } : Jvm.MethodName) prog_69_method_1_code (4 : Nat) (Option.none : Option Jvm.ClassFile.FieldType), Jvm.Cond.code ({ cls := "java/lang/Record", name := "<init>", desc := "()V" } : Jvm.MethodName) jdk_30_method_1_code (1 : Nat) (Option.none : Option Jvm.ClassFile.FieldType), Jvm.Cond.code ({ cls := "java/lang/Object", name := "<init>", desc := "()V" } : Jvm.MethodName) object_method_1_code (1 : Nat) (Option.none : Option Jvm.ClassFile.FieldType), Jvm.Cond.code ({ cls := "com/example/oaken_shelf/oakenshelf/store/SetOptions", name := "deadline", desc := "(J)J" } : Jvm.MethodName) prog_69_method_5_code (5 : Nat) (Option.some Jvm.ClassFile.FieldType.long), Jvm.Cond.code ({ cls := "com/example/oaken_shelf/oakenshelf/store/SetOptionsDeadlinePinLaw", name := "expected", desc := "(JJ)J" } : Jvm.MethodName) method_3_code (6 : Nat) (Option.some Jvm.ClassFile.FieldType.long)]
set_option maxRecDepth 65536 in
theorem codes_eq : words1.filter isCode = codes1 := rfl
theorem w_codes : ∀ c ∈ words1.filter isCode, c.before args0 about1 = true := by
  rw [codes_eq]
  intro c hc
  simp only [codes1, List.mem_cons, List.not_mem_nil, or_false] at hc
  rcases hc with rfl | rfl | rfl | rfl | rfl | rfl
  · exact w_c0
  · exact w_c1
  · exact w_c2
  · exact w_c3
  · exact w_c4
  · exact w_c5
set_option maxRecDepth 65536 in
theorem w_t1 : (words1.take 24).all (fun c => isCode c || c.before args0 about1) = true := by decide +kernel
set_option maxRecDepth 65536 in
theorem w_t2 : (words1.drop 24).all (fun c => isCode c || c.before args0 about1) = true := by decide +kernel
theorem w_tables : (allAtoms (Jvm.Cond.code x code maxLocals ret :: tables_1)).before args0 about1 = true := by
  rw [allAtoms_all]
  show words1.all (fun c => c.before args0 about1) = true
  refine all_split ?_ w_codes
  rw [← List.take_append_drop 24 words1, List.all_append, w_t1, w_t2]
  rfl
set_option maxRecDepth 65536 in
theorem w_case : (Jvm.Cond.and given_1 narrow_1).before args0 about1 = true := by decide +kernel
theorem w_applies : (headSpec (Jvm.Cond.code x code maxLocals ret :: tables_1) room_1).applies x e0.platform about1 = true :=
  (Spec.applies_iff w_frames).mpr ⟨w_running, w_runnable, w_alone, w_named, w_hears, w_ripe, w_room, w_tables⟩
theorem atStart : AtStart classFile x code maxLocals ret World_1 tables_1 room_1 Calls_1 rest_1 Pre_1 launch0 p0 e0 about1 theMethod args0 below0 :=
  ⟨lists_1, trivial, launch0.admits_env _ _ _, launch0.least_env, fairChoices_fair.cas, fairChoices_fair.clock, w_frames, w_args, w_heap, w_applies, trivial, trivial, w_case⟩
end start1
theorem witness_1 : WitnessClaimed_1 := ⟨start1.p0, start1.e0, start1.about1, start1.theMethod, start1.args0, start1.below0, start1.atStart⟩
end Jvm.Pilot.@@N@@
