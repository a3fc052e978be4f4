import JvmDerived
import JvmDerived.Pilot.@@N@@Statement
import JvmDerived.Pilot.@@N@@Code
set_option linter.unusedVariables false
set_option linter.unusedSimpArgs false
namespace Jvm.Pilot.@@N@@
open Jvm Jvm.ClassFile Sem Op Lib Jvm.Free Jvm.Stand Jvm.LawKit Jvm.RoadKit Bundle Jvm.Pilot.@@N@@.Jvm.D
theorem d2_0 : decode jdk_30_method_1_code 0 = .ok (.aload_n 0, 1) := by decide +kernel
theorem d2_1 : decode jdk_30_method_1_code 1 = .ok (.invokespecial 1, 3) := by decide +kernel
theorem d2_4 : decode jdk_30_method_1_code 4 = .ok (.return_, 1) := by decide +kernel
theorem pn_2 : plainName "java/lang/Record" = true := by first | (simp [plainName, overriddenIn]; done) | decide +kernel
theorem ef_2 (m : MethodId) (x0 : Addr) : entryFrame m #[(.ref x0)] 1 = mkF m 0 #[.val (.ref x0)] [] := by first | (simp [entryFrame, mkF, argsToLocals, Value.category]; done) | rfl
def Q2 (Z : State) (a1 : Addr) (h0 : Heap) (n0 : Nat) (v : Option Value) (h : Heap) (L : List Loc) : Prop := v = none ∧ Fr n0 L ∧ h = h0
set_option maxRecDepth 65536 in
set_option maxHeartbeats 40000000 in
theorem rm2 (l : Launch) (Z : State) (a0 : Array Value) (hw : ∀ d ∈ tables_1, d.before a0 Z = true) (ws : List Jvm.Cond) (a1 : Addr) (h0 : Heap) (n0 : Nat) (Z0 : n0 ≤ h0.size) :
    MetFree l (⟨"java/lang/Record", "<init>", "()V"⟩ : MethodName) (head1 (Jvm.Cond.code (⟨"java/lang/Record", "<init>", "()V"⟩ : MethodName) jdk_30_method_1_code 1 none :: ws) ({ frames := 1, cells := 0, slots := 0, locals := 12 } : Room)) (fun a U => a = #[(.ref a1)] ∧ Z.Warmed39 U.vm ∧ U.heap = h0) (fun _ _ _ _ _ => True) (fun _ U o U' => ∃ v L, o = .returned v ∧ Q2 Z a1 h0 n0 v U'.heap L ∧ FrameEnd U o U' L ({ frames := 1, cells := 0, slots := 0, locals := 12 } : Room).cells ({ frames := 1, cells := 0, slots := 0, locals := 12 } : Room).slots) := by
  refine MetFree.of_bodySF (plainFor_of_name pn_2) hisR ?_
  intro p e s m args below meth c s₁ Bd hml0 hP hK
  obtain ⟨rfl, hZ, hh⟩ := hP
  have hx := Bd.exec
  have hby := Bd.bytes
  have hml : c.maxLocals = 1 := hml0
  have hown : s.vm.findClass "java/lang/Record" = some m.cls := findClass_of_methodNamed Bd.named
  have hnm := (name_of_methodNamed Bd.named Bd.method).1
  have X0 : Stand p l e ({ frames := 1, cells := 0, slots := 0, locals := 12 } : Room) s m #[(.ref a1)] below meth c s₁ [] 0 0 := Stand.of_body Bd
  have e0 : s₁.heap = h0 := by rw [← hh, Bd.state]; rfl
  have N0 := Fr.nil n0
  have pre0 : ∀ t, Steps p.tables e below (s₁.setTop (mkF m 0 #[.val (.ref a1)] [])) t → Steps p.tables e below (s₁.setTop (entryFrame m #[(.ref a1)] 1)) t := fun t k => castTop (ef_2 m a1) k
  obtain ⟨T2, X2, e2, st2⟩ := initO X0 hx hZ hown (hw _ (List.mem_of_getElem? (i := 14) rfl)) (hw _ (List.mem_of_getElem? (i := 15) rfl)) (hw _ (List.mem_of_getElem? (i := 16) rfl)) e0 (g := (mkF m 1 #[.val (.ref a1)] [(.ref a1)])) rfl (by rw [hml]; rfl) rfl (hb hby d2_1) (by decide) (W := 0) (by show 2 * 0 + _ ≤ _; exact Nat.le_of_eq rfl) (by decide)
  obtain ⟨fs, hr, hrun, hended, hW, hsame⟩ := X2.leave (v := none) (fun _ => rfl)
  refine ⟨_, _, pre0 _ ?_, hrun, hended, _, _, rfl, ?_, ⟨_, rfl⟩, hW, hsame.mono (by decide) (by decide)⟩
  · show Steps p.tables e below (s₁.setTop (mkF m 0 #[.val (.ref a1)] [])) _
    refine XS.aloadN X0.here hx rfl (hb hby d2_0) rfl rfl ?_
    show Steps p.tables e below (s₁.setTop (mkF m 1 #[.val (.ref a1)] [(.ref a1)])) _
    refine st2 _ ?_
    show Steps p.tables e below (T2.setTop (mkF m 4 #[.val (.ref a1)] [])) _
    exact X2.returnOut hx Bd.returns (hb hby d2_4) hr
  · show Q2 Z a1 h0 n0 _ T2.heap _
    rw [e2]
    exact ⟨rfl, N0, rfl⟩
theorem d1_0 : decode prog_56_method_1_code 0 = .ok (.aload_n 0, 1) := by decide +kernel
theorem d1_1 : decode prog_56_method_1_code 1 = .ok (.invokespecial 1, 3) := by decide +kernel
theorem d1_4 : decode prog_56_method_1_code 4 = .ok (.aload_n 0, 1) := by decide +kernel
theorem d1_5 : decode prog_56_method_1_code 5 = .ok (.iload_n 1, 1) := by decide +kernel
theorem d1_6 : decode prog_56_method_1_code 6 = .ok (.putfield 7, 3) := by decide +kernel
theorem d1_9 : decode prog_56_method_1_code 9 = .ok (.aload_n 0, 1) := by decide +kernel
theorem d1_10 : decode prog_56_method_1_code 10 = .ok (.iload_n 2, 1) := by decide +kernel
theorem d1_11 : decode prog_56_method_1_code 11 = .ok (.putfield 13, 3) := by decide +kernel
theorem d1_14 : decode prog_56_method_1_code 14 = .ok (.return_, 1) := by decide +kernel
theorem pn_1 : plainName "com/example/deferral_ledger/deferralledger/plan/InstallmentYears" = true := by first | (simp [plainName, overriddenIn]; done) | decide +kernel
theorem pd_1_1 : parseMethodDescriptor "()V" = some ⟨[], none⟩ := by decide +kernel
theorem ef_1 (m : MethodId) (x0 : Addr) (x1 : Int32) (x2 : Int32) : entryFrame m #[(.ref x0), (.int x1), (.int x2)] 3 = mkF m 0 #[.val (.ref x0), .val (.int x1), .val (.int x2)] [] := by first | (simp [entryFrame, mkF, argsToLocals, Value.category]; done) | rfl
def Q1 (Z : State) (a1 : Addr) (p2 : Int32) (p3 : Int32) (u_min_a1 : Value) (u_max_a1 : Value) (h0 : Heap) (n0 : Nat) (v : Option Value) (h : Heap) (L : List Loc) : Prop := v = none ∧ Fr n0 L ∧ Keep h0 h [a1] ∧ Fld Z h a1 "com/example/deferral_ledger/deferralledger/plan/InstallmentYears" "min" "I" (.int p2) ∧ Fld Z h a1 "com/example/deferral_ledger/deferralledger/plan/InstallmentYears" "max" "I" (.int p3)
set_option maxRecDepth 65536 in
set_option maxHeartbeats 40000000 in
theorem rm1 (l : Launch) (Z : State) (a0 : Array Value) (hw : ∀ d ∈ tables_1, d.before a0 Z = true) (ws : List Jvm.Cond) (a1 : Addr) (p2 : Int32) (p3 : Int32) (u_min_a1 : Value) (u_max_a1 : Value) (h0 : Heap) (n0 : Nat) (Z0 : n0 ≤ h0.size) (E_a1 : Exa Z h0 a1 "com/example/deferral_ledger/deferralledger/plan/InstallmentYears") (F_min_a1 : Fld Z h0 a1 "com/example/deferral_ledger/deferralledger/plan/InstallmentYears" "min" "I" u_min_a1) (g_a1 : n0 ≤ a1) (F_max_a1 : Fld Z h0 a1 "com/example/deferral_ledger/deferralledger/plan/InstallmentYears" "max" "I" u_max_a1) :
    MetFree l (⟨"com/example/deferral_ledger/deferralledger/plan/InstallmentYears", "<init>", "(II)V"⟩ : MethodName) (head1 (Jvm.Cond.code (⟨"com/example/deferral_ledger/deferralledger/plan/InstallmentYears", "<init>", "(II)V"⟩ : MethodName) prog_56_method_1_code 3 none :: ws) ({ frames := 2, cells := 0, slots := 0, locals := 24 } : Room)) (fun a U => a = #[(.ref a1), (.int p2), (.int p3)] ∧ Z.Warmed39 U.vm ∧ U.heap = h0) (fun _ _ _ _ _ => True) (fun _ U o U' => ∃ v L, o = .returned v ∧ Q1 Z a1 p2 p3 u_min_a1 u_max_a1 h0 n0 v U'.heap L ∧ FrameEnd U o U' L ({ frames := 2, cells := 0, slots := 0, locals := 24 } : Room).cells ({ frames := 2, cells := 0, slots := 0, locals := 24 } : Room).slots) := by
  refine MetFree.of_bodySF (plainFor_of_name pn_1) hisR ?_
  intro p e s m args below meth c s₁ Bd hml0 hP hK
  obtain ⟨rfl, hZ, hh⟩ := hP
  have hx := Bd.exec
  have hby := Bd.bytes
  have hml : c.maxLocals = 3 := hml0
  have hown : s.vm.findClass "com/example/deferral_ledger/deferralledger/plan/InstallmentYears" = some m.cls := findClass_of_methodNamed Bd.named
  have hnm := (name_of_methodNamed Bd.named Bd.method).1
  have X0 : Stand p l e ({ frames := 2, cells := 0, slots := 0, locals := 24 } : Room) s m #[(.ref a1), (.int p2), (.int p3)] below meth c s₁ [] 0 0 := Stand.of_body Bd
  have e0 : s₁.heap = h0 := by rw [← hh, Bd.state]; rfl
  have N0 := Fr.nil n0
  have pre0 : ∀ t, Steps p.tables e below (s₁.setTop (mkF m 0 #[.val (.ref a1), .val (.int p2), .val (.int p3)] [])) t → Steps p.tables e below (s₁.setTop (entryFrame m #[(.ref a1), (.int p2), (.int p3)] 3)) t := fun t k => castTop (ef_1 m a1 p2 p3) k
  obtain ⟨_, _, ⟨T4, L4, k4, n4⟩, -, X4, ⟨Lc4, hQ4, l4, y4, z4⟩, st4⟩ := X0.specialBack hx (y := (⟨"java/lang/Record", "<init>", "()V"⟩ : MethodName)) rfl hown (mvT hZ (hw _ (List.mem_of_getElem? (i := 9) rfl))) (mvT hZ (hw _ (List.mem_of_getElem? (i := 10) rfl))) (mvT hZ (hw _ (List.mem_of_getElem? (i := 13) rfl))) (by decide) (backOf (W := 0) (rm2 l Z a0 hw [] a1 h0 n0 Z0) hZ (hw _ (List.mem_of_getElem? (i := 13) rfl)) (hw _ (List.mem_of_getElem? (i := 12) rfl)) (by decide) (by decide)) (g := (mkF m 1 #[.val (.ref a1), .val (.int p2), .val (.int p3)] [(.ref a1)])) rfl (by rw [hml]; rfl) (Steps.refl _) (a := a1) (argsL := []) (rest := []) (lenOf pd_1_1 rfl) rfl (by show 2 * 0 + _ ≤ _; exact Nat.le_of_eq rfl) (hb hby d1_1) (fun _ _ => ⟨rfl, e0, (by decide : 0 + 0 ≤ _), (by decide : 0 + 0 ≤ _)⟩)
  dsimp only [Pt.U, Pt.locs, Pt.cells, Pt.slots] at X4 l4 y4 z4 st4 hQ4
  subst l4 y4 z4
  obtain ⟨rfl, N4q, e4⟩ := hQ4
  have N4 := Fr.app N0 N4q
  obtain ⟨T5, h5, X5, e5, W5, st5⟩ := putF X4 hx hZ hown (host := "") (Or.inl (hw _ (List.mem_of_getElem? (i := 17) rfl))) Via.refl e4 F_min_a1 E_a1 (Or.inr ⟨(hw _ (List.mem_of_getElem? (i := 18) rfl)), rfl, hnm⟩) (hw _ (List.mem_of_getElem? (i := 4) rfl)) (ty := .int) (by decide) rfl rfl (g := (mkF m 6 #[.val (.ref a1), .val (.int p2), .val (.int p3)] [(.int p2), (.ref a1)])) rfl rfl (hb hby d1_6)
  have Fw5 := F_min_a1.same W5
  have K5 : Keep h0 h5 [a1] := (Keep.refl h0 [a1]).wr W5 (Or.inl (List.mem_of_getElem? (i := 0) rfl))
  have N5 := Fr.snoc X5 N4 g_a1
  obtain ⟨T6, h6, X6, e6, W6, st6⟩ := putF X5 hx hZ hown (host := "") (Or.inl (hw _ (List.mem_of_getElem? (i := 19) rfl))) Via.refl e5 (F_max_a1.other W5 (Or.inr (slot_ne (Or.inr (hw _ (List.mem_of_getElem? (i := 20) rfl))) (Or.inr (hw _ (List.mem_of_getElem? (i := 18) rfl))) (by decide) (t := .int) (t' := .int) (by decide) (by decide)))) (E_a1.wr W5) (Or.inr ⟨(hw _ (List.mem_of_getElem? (i := 20) rfl)), rfl, hnm⟩) (hw _ (List.mem_of_getElem? (i := 4) rfl)) (ty := .int) (by decide) rfl rfl (g := (mkF m 11 #[.val (.ref a1), .val (.int p2), .val (.int p3)] [(.int p3), (.ref a1)])) rfl rfl (hb hby d1_11)
  have Fw6 := (F_max_a1.other W5 (Or.inr (slot_ne (Or.inr (hw _ (List.mem_of_getElem? (i := 20) rfl))) (Or.inr (hw _ (List.mem_of_getElem? (i := 18) rfl))) (by decide) (t := .int) (t' := .int) (by decide) (by decide)))).same W6
  have K6 : Keep h0 h6 [a1] := K5.wr W6 (Or.inl (List.mem_of_getElem? (i := 0) rfl))
  have N6 := Fr.snoc X6 N5 g_a1
  obtain ⟨fs, hr, hrun, hended, hW, hsame⟩ := X6.leave (v := none) (fun _ => rfl)
  refine ⟨_, _, pre0 _ ?_, hrun, hended, _, _, rfl, ?_, ⟨_, rfl⟩, hW, hsame.mono (by decide) (by decide)⟩
  · show Steps p.tables e below (s₁.setTop (mkF m 0 #[.val (.ref a1), .val (.int p2), .val (.int p3)] [])) _
    refine XS.aloadN X0.here hx rfl (hb hby d1_0) rfl rfl ?_
    show Steps p.tables e below (s₁.setTop (mkF m 1 #[.val (.ref a1), .val (.int p2), .val (.int p3)] [(.ref a1)])) _
    refine st4.trans ?_
    show Steps p.tables e below (T4.setTop (mkF m 4 #[.val (.ref a1), .val (.int p2), .val (.int p3)] [])) _
    refine XS.aloadN X4.here hx rfl (hb hby d1_4) rfl rfl ?_
    show Steps p.tables e below (T4.setTop (mkF m 5 #[.val (.ref a1), .val (.int p2), .val (.int p3)] [(.ref a1)])) _
    refine XS.iloadN X4.here hx rfl (hb hby d1_5) rfl ?_
    show Steps p.tables e below (T4.setTop (mkF m 6 #[.val (.ref a1), .val (.int p2), .val (.int p3)] [(.int p2), (.ref a1)])) _
    refine st5 _ ?_
    show Steps p.tables e below (T5.setTop (mkF m 9 #[.val (.ref a1), .val (.int p2), .val (.int p3)] [])) _
    refine XS.aloadN X5.here hx rfl (hb hby d1_9) rfl rfl ?_
    show Steps p.tables e below (T5.setTop (mkF m 10 #[.val (.ref a1), .val (.int p2), .val (.int p3)] [(.ref a1)])) _
    refine XS.iloadN X5.here hx rfl (hb hby d1_10) rfl ?_
    show Steps p.tables e below (T5.setTop (mkF m 11 #[.val (.ref a1), .val (.int p2), .val (.int p3)] [(.int p3), (.ref a1)])) _
    refine st6 _ ?_
    show Steps p.tables e below (T6.setTop (mkF m 14 #[.val (.ref a1), .val (.int p2), .val (.int p3)] [])) _
    exact X6.returnOut hx Bd.returns (hb hby d1_14) hr
  · show Q1 Z a1 p2 p3 u_min_a1 u_max_a1 h0 n0 _ T6.heap _
    rw [e6]
    exact ⟨rfl, N6, K6, Fw5.other W6 (Or.inr (slot_ne (Or.inr (hw _ (List.mem_of_getElem? (i := 18) rfl))) (Or.inr (hw _ (List.mem_of_getElem? (i := 20) rfl))) (by decide) (t := .int) (t' := .int) (by decide) (by decide))), Fw6⟩
theorem pd_1 : parseMethodDescriptor "(II)V" = some ⟨[.int, .int], none⟩ := by decide +kernel
theorem d4_0 : decode prog_56_method_2_code 0 = .ok (.iload_n 1, 1) := by decide +kernel
theorem d4_1 : decode prog_56_method_2_code 1 = .ok (.aload_n 0, 1) := by decide +kernel
theorem d4_2 : decode prog_56_method_2_code 2 = .ok (.getfield 7, 3) := by decide +kernel
theorem d4_5 : decode prog_56_method_2_code 5 = .ok (.if_icmp .lt 15, 3) := by decide +kernel
theorem d4_8 : decode prog_56_method_2_code 8 = .ok (.iload_n 1, 1) := by decide +kernel
theorem d4_9 : decode prog_56_method_2_code 9 = .ok (.aload_n 0, 1) := by decide +kernel
theorem d4_10 : decode prog_56_method_2_code 10 = .ok (.getfield 13, 3) := by decide +kernel
theorem d4_13 : decode prog_56_method_2_code 13 = .ok (.if_icmp .gt 7, 3) := by decide +kernel
theorem d4_16 : decode prog_56_method_2_code 16 = .ok (.iconst 1, 1) := by decide +kernel
theorem d4_17 : decode prog_56_method_2_code 17 = .ok (.goto 4, 3) := by decide +kernel
theorem d4_21 : decode prog_56_method_2_code 21 = .ok (.ireturn, 1) := by decide +kernel
theorem pn_4 : plainName "com/example/deferral_ledger/deferralledger/plan/InstallmentYears" = true := by first | (simp [plainName, overriddenIn]; done) | decide +kernel
theorem ef_4 (m : MethodId) (x0 : Addr) (x1 : Int32) : entryFrame m #[(.ref x0), (.int x1)] 2 = mkF m 0 #[.val (.ref x0), .val (.int x1)] [] := by first | (simp [entryFrame, mkF, argsToLocals, Value.category]; done) | rfl
def Q4a (Z : State) (a1 : Addr) (p2 : Int32) (w3 : Int32) (w5 : Int32) (h0 : Heap) (n0 : Nat) (v : Option Value) (h : Heap) (L : List Loc) : Prop := v = some (.int (1 : Int32)) ∧ Fr n0 L ∧ h = h0
set_option maxRecDepth 65536 in
set_option maxHeartbeats 40000000 in
theorem rm4a (l : Launch) (Z : State) (a0 : Array Value) (hw : ∀ d ∈ tables_1, d.before a0 Z = true) (ws : List Jvm.Cond) (a1 : Addr) (p2 : Int32) (w3 : Int32) (w5 : Int32) (h0 : Heap) (n0 : Nat) (Z0 : n0 ≤ h0.size) (F_min_a1 : Fld Z h0 a1 "com/example/deferral_ledger/deferralledger/plan/InstallmentYears" "min" "I" (.int w3)) (F_max_a1 : Fld Z h0 a1 "com/example/deferral_ledger/deferralledger/plan/InstallmentYears" "max" "I" (.int w5)) (hc5 : ¬ (p2 < w3)) (hc13 : ¬ (w5 < p2)) :
    MetFree l (⟨"com/example/deferral_ledger/deferralledger/plan/InstallmentYears", "allow", "(I)Z"⟩ : MethodName) (head1 (Jvm.Cond.code (⟨"com/example/deferral_ledger/deferralledger/plan/InstallmentYears", "allow", "(I)Z"⟩ : MethodName) prog_56_method_2_code 2 (some .boolean) :: ws) ({ frames := 0, cells := 0, slots := 0, locals := 0 } : Room)) (fun a U => a = #[(.ref a1), (.int p2)] ∧ Z.Warmed39 U.vm ∧ U.heap = h0) (fun _ _ _ _ _ => True) (fun _ U o U' => ∃ v L, o = .returned v ∧ Q4a Z a1 p2 w3 w5 h0 n0 v U'.heap L ∧ FrameEnd U o U' L ({ frames := 0, cells := 0, slots := 0, locals := 0 } : Room).cells ({ frames := 0, cells := 0, slots := 0, locals := 0 } : Room).slots) := by
  refine MetFree.of_bodySF (plainFor_of_name pn_4) hisR ?_
  intro p e s m args below meth c s₁ Bd hml0 hP hK
  obtain ⟨rfl, hZ, hh⟩ := hP
  have hx := Bd.exec
  have hby := Bd.bytes
  have hml : c.maxLocals = 2 := hml0
  have hown : s.vm.findClass "com/example/deferral_ledger/deferralledger/plan/InstallmentYears" = some m.cls := findClass_of_methodNamed Bd.named
  have hnm := (name_of_methodNamed Bd.named Bd.method).1
  have X0 : Stand p l e ({ frames := 0, cells := 0, slots := 0, locals := 0 } : Room) s m #[(.ref a1), (.int p2)] below meth c s₁ [] 0 0 := Stand.of_body Bd
  have e0 : s₁.heap = h0 := by rw [← hh, Bd.state]; rfl
  have N0 := Fr.nil n0
  have pre0 : ∀ t, Steps p.tables e below (s₁.setTop (mkF m 0 #[.val (.ref a1), .val (.int p2)] [])) t → Steps p.tables e below (s₁.setTop (entryFrame m #[(.ref a1), (.int p2)] 2)) t := fun t k => castTop (ef_4 m a1 p2) k
  obtain ⟨T4, X4, e4, st4⟩ := getF X0 hx hZ hown (host := "") (Or.inl (hw _ (List.mem_of_getElem? (i := 17) rfl))) Via.refl e0 F_min_a1 (g := (mkF m 2 #[.val (.ref a1), .val (.int p2)] [(.ref a1), (.int p2)])) rfl rfl (hb hby d4_2)
  obtain ⟨T6, X6, e6, st6⟩ := getF X4 hx hZ hown (host := "") (Or.inl (hw _ (List.mem_of_getElem? (i := 19) rfl))) Via.refl e4 F_max_a1 (g := (mkF m 10 #[.val (.ref a1), .val (.int p2)] [(.ref a1), (.int p2)])) rfl rfl (hb hby d4_10)
  obtain ⟨fs, hr, hrun, hended, hW, hsame⟩ := X6.leave (v := some (.int (1 : Int32))) (fun h => by rw [Bd.returns] at h; cases h)
  refine ⟨_, _, pre0 _ ?_, hrun, hended, _, _, rfl, ?_, ⟨_, rfl⟩, hW, hsame.mono (by decide) (by decide)⟩
  · show Steps p.tables e below (s₁.setTop (mkF m 0 #[.val (.ref a1), .val (.int p2)] [])) _
    refine XS.iloadN X0.here hx rfl (hb hby d4_0) rfl ?_
    show Steps p.tables e below (s₁.setTop (mkF m 1 #[.val (.ref a1), .val (.int p2)] [(.int p2)])) _
    refine XS.aloadN X0.here hx rfl (hb hby d4_1) rfl rfl ?_
    show Steps p.tables e below (s₁.setTop (mkF m 2 #[.val (.ref a1), .val (.int p2)] [(.ref a1), (.int p2)])) _
    refine st4 _ ?_
    show Steps p.tables e below (T4.setTop (mkF m 5 #[.val (.ref a1), .val (.int p2)] [(.int w3), (.int p2)])) _
    refine XS.icmpNo X4.here hx rfl (hb hby d4_5) rfl (flt hc5).1 ?_
    show Steps p.tables e below (T4.setTop (mkF m 8 #[.val (.ref a1), .val (.int p2)] [])) _
    refine XS.iloadN X4.here hx rfl (hb hby d4_8) rfl ?_
    show Steps p.tables e below (T4.setTop (mkF m 9 #[.val (.ref a1), .val (.int p2)] [(.int p2)])) _
    refine XS.aloadN X4.here hx rfl (hb hby d4_9) rfl rfl ?_
    show Steps p.tables e below (T4.setTop (mkF m 10 #[.val (.ref a1), .val (.int p2)] [(.ref a1), (.int p2)])) _
    refine st6 _ ?_
    show Steps p.tables e below (T6.setTop (mkF m 13 #[.val (.ref a1), .val (.int p2)] [(.int w5), (.int p2)])) _
    refine XS.icmpNo X6.here hx rfl (hb hby d4_13) rfl (flt hc13).2.2.1 ?_
    show Steps p.tables e below (T6.setTop (mkF m 16 #[.val (.ref a1), .val (.int p2)] [])) _
    refine XS.iconst X6.here hx rfl (hb hby d4_16) ?_
    show Steps p.tables e below (T6.setTop (mkF m 17 #[.val (.ref a1), .val (.int p2)] [(.int (1 : Int32))])) _
    refine XS.goto X6.here hx rfl (pc0 := 17) (pc' := 21) rfl (hb hby d4_17) (by decide) (by decide) ?_
    show Steps p.tables e below (T6.setTop (mkF m 21 #[.val (.ref a1), .val (.int p2)] [(.int (1 : Int32))])) _
    exact retN X6 hx (t := .boolean) Bd.returns (by simp) (hb hby d4_21) hr
  · show Q4a Z a1 p2 w3 w5 h0 n0 _ T6.heap _
    rw [e6]
    exact ⟨rfl, N0, rfl⟩
theorem d4_20 : decode prog_56_method_2_code 20 = .ok (.iconst 0, 1) := by decide +kernel
def Q4b (Z : State) (a1 : Addr) (p2 : Int32) (w3 : Int32) (h0 : Heap) (n0 : Nat) (v : Option Value) (h : Heap) (L : List Loc) : Prop := v = some (.int (0 : Int32)) ∧ Fr n0 L ∧ h = h0
set_option maxRecDepth 65536 in
set_option maxHeartbeats 40000000 in
theorem rm4b (l : Launch) (Z : State) (a0 : Array Value) (hw : ∀ d ∈ tables_1, d.before a0 Z = true) (ws : List Jvm.Cond) (a1 : Addr) (p2 : Int32) (w3 : Int32) (h0 : Heap) (n0 : Nat) (Z0 : n0 ≤ h0.size) (F_min_a1 : Fld Z h0 a1 "com/example/deferral_ledger/deferralledger/plan/InstallmentYears" "min" "I" (.int w3)) (hc5 : p2 < w3) :
    MetFree l (⟨"com/example/deferral_ledger/deferralledger/plan/InstallmentYears", "allow", "(I)Z"⟩ : MethodName) (head1 (Jvm.Cond.code (⟨"com/example/deferral_ledger/deferralledger/plan/InstallmentYears", "allow", "(I)Z"⟩ : MethodName) prog_56_method_2_code 2 (some .boolean) :: ws) ({ frames := 0, cells := 0, slots := 0, locals := 0 } : Room)) (fun a U => a = #[(.ref a1), (.int p2)] ∧ Z.Warmed39 U.vm ∧ U.heap = h0) (fun _ _ _ _ _ => True) (fun _ U o U' => ∃ v L, o = .returned v ∧ Q4b Z a1 p2 w3 h0 n0 v U'.heap L ∧ FrameEnd U o U' L ({ frames := 0, cells := 0, slots := 0, locals := 0 } : Room).cells ({ frames := 0, cells := 0, slots := 0, locals := 0 } : Room).slots) := by
  refine MetFree.of_bodySF (plainFor_of_name pn_4) hisR ?_
  intro p e s m args below meth c s₁ Bd hml0 hP hK
  obtain ⟨rfl, hZ, hh⟩ := hP
  have hx := Bd.exec
  have hby := Bd.bytes
  have hml : c.maxLocals = 2 := hml0
  have hown : s.vm.findClass "com/example/deferral_ledger/deferralledger/plan/InstallmentYears" = some m.cls := findClass_of_methodNamed Bd.named
  have hnm := (name_of_methodNamed Bd.named Bd.method).1
  have X0 : Stand p l e ({ frames := 0, cells := 0, slots := 0, locals := 0 } : Room) s m #[(.ref a1), (.int p2)] below meth c s₁ [] 0 0 := Stand.of_body Bd
  have e0 : s₁.heap = h0 := by rw [← hh, Bd.state]; rfl
  have N0 := Fr.nil n0
  have pre0 : ∀ t, Steps p.tables e below (s₁.setTop (mkF m 0 #[.val (.ref a1), .val (.int p2)] [])) t → Steps p.tables e below (s₁.setTop (entryFrame m #[(.ref a1), (.int p2)] 2)) t := fun t k => castTop (ef_4 m a1 p2) k
  obtain ⟨T4, X4, e4, st4⟩ := getF X0 hx hZ hown (host := "") (Or.inl (hw _ (List.mem_of_getElem? (i := 17) rfl))) Via.refl e0 F_min_a1 (g := (mkF m 2 #[.val (.ref a1), .val (.int p2)] [(.ref a1), (.int p2)])) rfl rfl (hb hby d4_2)
  obtain ⟨fs, hr, hrun, hended, hW, hsame⟩ := X4.leave (v := some (.int (0 : Int32))) (fun h => by rw [Bd.returns] at h; cases h)
  refine ⟨_, _, pre0 _ ?_, hrun, hended, _, _, rfl, ?_, ⟨_, rfl⟩, hW, hsame.mono (by decide) (by decide)⟩
  · show Steps p.tables e below (s₁.setTop (mkF m 0 #[.val (.ref a1), .val (.int p2)] [])) _
    refine XS.iloadN X0.here hx rfl (hb hby d4_0) rfl ?_
    show Steps p.tables e below (s₁.setTop (mkF m 1 #[.val (.ref a1), .val (.int p2)] [(.int p2)])) _
    refine XS.aloadN X0.here hx rfl (hb hby d4_1) rfl rfl ?_
    show Steps p.tables e below (s₁.setTop (mkF m 2 #[.val (.ref a1), .val (.int p2)] [(.ref a1), (.int p2)])) _
    refine st4 _ ?_
    show Steps p.tables e below (T4.setTop (mkF m 5 #[.val (.ref a1), .val (.int p2)] [(.int w3), (.int p2)])) _
    refine XS.icmpYes X4.here hx rfl (pc0 := 5) (pc' := 20) rfl (hb hby d4_5) rfl (tlt hc5).1 (by decide) (by decide) ?_
    show Steps p.tables e below (T4.setTop (mkF m 20 #[.val (.ref a1), .val (.int p2)] [])) _
    refine XS.iconst X4.here hx rfl (hb hby d4_20) ?_
    show Steps p.tables e below (T4.setTop (mkF m 21 #[.val (.ref a1), .val (.int p2)] [(.int (0 : Int32))])) _
    exact retN X4 hx (t := .boolean) Bd.returns (by simp) (hb hby d4_21) hr
  · show Q4b Z a1 p2 w3 h0 n0 _ T4.heap _
    rw [e4]
    exact ⟨rfl, N0, rfl⟩
def Q4c (Z : State) (a1 : Addr) (p2 : Int32) (w3 : Int32) (w5 : Int32) (h0 : Heap) (n0 : Nat) (v : Option Value) (h : Heap) (L : List Loc) : Prop := v = some (.int (0 : Int32)) ∧ Fr n0 L ∧ h = h0
set_option maxRecDepth 65536 in
set_option maxHeartbeats 40000000 in
theorem rm4c (l : Launch) (Z : State) (a0 : Array Value) (hw : ∀ d ∈ tables_1, d.before a0 Z = true) (ws : List Jvm.Cond) (a1 : Addr) (p2 : Int32) (w3 : Int32) (w5 : Int32) (h0 : Heap) (n0 : Nat) (Z0 : n0 ≤ h0.size) (F_min_a1 : Fld Z h0 a1 "com/example/deferral_ledger/deferralledger/plan/InstallmentYears" "min" "I" (.int w3)) (F_max_a1 : Fld Z h0 a1 "com/example/deferral_ledger/deferralledger/plan/InstallmentYears" "max" "I" (.int w5)) (hc5 : ¬ (p2 < w3)) (hc13 : w5 < p2) :
    MetFree l (⟨"com/example/deferral_ledger/deferralledger/plan/InstallmentYears", "allow", "(I)Z"⟩ : MethodName) (head1 (Jvm.Cond.code (⟨"com/example/deferral_ledger/deferralledger/plan/InstallmentYears", "allow", "(I)Z"⟩ : MethodName) prog_56_method_2_code 2 (some .boolean) :: ws) ({ frames := 0, cells := 0, slots := 0, locals := 0 } : Room)) (fun a U => a = #[(.ref a1), (.int p2)] ∧ Z.Warmed39 U.vm ∧ U.heap = h0) (fun _ _ _ _ _ => True) (fun _ U o U' => ∃ v L, o = .returned v ∧ Q4c Z a1 p2 w3 w5 h0 n0 v U'.heap L ∧ FrameEnd U o U' L ({ frames := 0, cells := 0, slots := 0, locals := 0 } : Room).cells ({ frames := 0, cells := 0, slots := 0, locals := 0 } : Room).slots) := by
  refine MetFree.of_bodySF (plainFor_of_name pn_4) hisR ?_
  intro p e s m args below meth c s₁ Bd hml0 hP hK
  obtain ⟨rfl, hZ, hh⟩ := hP
  have hx := Bd.exec
  have hby := Bd.bytes
  have hml : c.maxLocals = 2 := hml0
  have hown : s.vm.findClass "com/example/deferral_ledger/deferralledger/plan/InstallmentYears" = some m.cls := findClass_of_methodNamed Bd.named
  have hnm := (name_of_methodNamed Bd.named Bd.method).1
  have X0 : Stand p l e ({ frames := 0, cells := 0, slots := 0, locals := 0 } : Room) s m #[(.ref a1), (.int p2)] below meth c s₁ [] 0 0 := Stand.of_body Bd
  have e0 : s₁.heap = h0 := by rw [← hh, Bd.state]; rfl
  have N0 := Fr.nil n0
  have pre0 : ∀ t, Steps p.tables e below (s₁.setTop (mkF m 0 #[.val (.ref a1), .val (.int p2)] [])) t → Steps p.tables e below (s₁.setTop (entryFrame m #[(.ref a1), (.int p2)] 2)) t := fun t k => castTop (ef_4 m a1 p2) k
  obtain ⟨T4, X4, e4, st4⟩ := getF X0 hx hZ hown (host := "") (Or.inl (hw _ (List.mem_of_getElem? (i := 17) rfl))) Via.refl e0 F_min_a1 (g := (mkF m 2 #[.val (.ref a1), .val (.int p2)] [(.ref a1), (.int p2)])) rfl rfl (hb hby d4_2)
  obtain ⟨T6, X6, e6, st6⟩ := getF X4 hx hZ hown (host := "") (Or.inl (hw _ (List.mem_of_getElem? (i := 19) rfl))) Via.refl e4 F_max_a1 (g := (mkF m 10 #[.val (.ref a1), .val (.int p2)] [(.ref a1), (.int p2)])) rfl rfl (hb hby d4_10)
  obtain ⟨fs, hr, hrun, hended, hW, hsame⟩ := X6.leave (v := some (.int (0 : Int32))) (fun h => by rw [Bd.returns] at h; cases h)
  refine ⟨_, _, pre0 _ ?_, hrun, hended, _, _, rfl, ?_, ⟨_, rfl⟩, hW, hsame.mono (by decide) (by decide)⟩
  · show Steps p.tables e below (s₁.setTop (mkF m 0 #[.val (.ref a1), .val (.int p2)] [])) _
    refine XS.iloadN X0.here hx rfl (hb hby d4_0) rfl ?_
    show Steps p.tables e below (s₁.setTop (mkF m 1 #[.val (.ref a1), .val (.int p2)] [(.int p2)])) _
    refine XS.aloadN X0.here hx rfl (hb hby d4_1) rfl rfl ?_
    show Steps p.tables e below (s₁.setTop (mkF m 2 #[.val (.ref a1), .val (.int p2)] [(.ref a1), (.int p2)])) _
    refine st4 _ ?_
    show Steps p.tables e below (T4.setTop (mkF m 5 #[.val (.ref a1), .val (.int p2)] [(.int w3), (.int p2)])) _
    refine XS.icmpNo X4.here hx rfl (hb hby d4_5) rfl (flt hc5).1 ?_
    show Steps p.tables e below (T4.setTop (mkF m 8 #[.val (.ref a1), .val (.int p2)] [])) _
    refine XS.iloadN X4.here hx rfl (hb hby d4_8) rfl ?_
    show Steps p.tables e below (T4.setTop (mkF m 9 #[.val (.ref a1), .val (.int p2)] [(.int p2)])) _
    refine XS.aloadN X4.here hx rfl (hb hby d4_9) rfl rfl ?_
    show Steps p.tables e below (T4.setTop (mkF m 10 #[.val (.ref a1), .val (.int p2)] [(.ref a1), (.int p2)])) _
    refine st6 _ ?_
    show Steps p.tables e below (T6.setTop (mkF m 13 #[.val (.ref a1), .val (.int p2)] [(.int w5), (.int p2)])) _
    refine XS.icmpYes X6.here hx rfl (pc0 := 13) (pc' := 20) rfl (hb hby d4_13) rfl (tlt hc13).2.2.1 (by decide) (by decide) ?_
    show Steps p.tables e below (T6.setTop (mkF m 20 #[.val (.ref a1), .val (.int p2)] [])) _
    refine XS.iconst X6.here hx rfl (hb hby d4_20) ?_
    show Steps p.tables e below (T6.setTop (mkF m 21 #[.val (.ref a1), .val (.int p2)] [(.int (0 : Int32))])) _
    exact retN X6 hx (t := .boolean) Bd.returns (by simp) (hb hby d4_21) hr
  · show Q4c Z a1 p2 w3 w5 h0 n0 _ T6.heap _
    rw [e6]
    exact ⟨rfl, N0, rfl⟩
theorem pd_4 : parseMethodDescriptor "(I)Z" = some ⟨[.int], (some .boolean)⟩ := by decide +kernel
def own_lo (pa : Int32) : Int32 := (if (pa &&& (2147483647 : Int32)) = (0 : Int32) then (1 : Int32) else (pa &&& (2147483647 : Int32)))
theorem own_addL {x y : Int64} (h1 : -9223372036854775808 ≤ x.toInt + y.toInt) (h2 : x.toInt + y.toInt < 9223372036854775808) : (x + y).toInt = x.toInt + y.toInt := by
  have a := c_ladd x y
  have b := rng64 (x + y)
  omega
theorem own_subL {x y : Int64} (h1 : -9223372036854775808 ≤ x.toInt - y.toInt) (h2 : x.toInt - y.toInt < 9223372036854775808) : (x - y).toInt = x.toInt - y.toInt := by
  have a := c_lsub x y
  have b := rng64 (x - y)
  omega
theorem own_l2i {x : Int64} (h1 : -2147483648 ≤ x.toInt) (h2 : x.toInt < 2147483648) : x.toInt32.toInt = x.toInt := by
  have a := c_l2i x
  have b := rng32 x.toInt32
  omega
theorem own_rem (x d : Int64) (h : 1 ≤ d.toInt) (h0 : 0 ≤ x.toInt) : 0 ≤ (x - x / d * d).toInt ∧ (x - x / d * d).toInt < d.toInt := by
  rw [(c_lrem x d d.toInt rfl).1 h0]
  exact ⟨Int.emod_nonneg _ (by omega), Int.emod_lt_of_pos _ (by omega)⟩
theorem own_nz {d : Int64} (h : 1 ≤ d.toInt) : ¬ d = 0 := by
  rintro rfl
  revert h; decide
theorem own_mask (x : Int32) : 0 ≤ (x.toInt64 &&& (4294967295 : Int64)).toInt := by
  rw [c_maskL x.toInt64 4294967295 32 (by decide) (by decide)]
  exact Int.emod_nonneg _ (by decide)
theorem own_lo_rng (a : Int32) : 1 ≤ (own_lo a).toInt := by
  have q := c_mask a 2147483647 31 (by decide) (by decide)
  unfold own_lo
  by_cases h : (a &&& (2147483647 : Int32)) = (0 : Int32)
  · rw [if_pos h]; decide
  · rw [if_neg h]
    rw [← Int32.toInt_inj, show (0 : Int32).toInt = 0 from by decide] at h
    omega
theorem own_k1 : (1 : Int64).toInt = 1 := by decide
theorem own_kM : (2147483647 : Int64).toInt = 2147483647 := by decide
theorem own_km : (-2147483648 : Int64).toInt = -2147483648 := by decide
theorem own_room {lo : Int32} (h : 1 ≤ lo.toInt) : ((2147483647 : Int64) - lo.toInt64 + (1 : Int64)).toInt = 2147483648 - lo.toInt := by
  have r := rng32 lo
  have i := c_i2l lo
  have a : ((2147483647 : Int64) - lo.toInt64).toInt = 2147483647 - lo.toInt := by rw [own_subL] <;> rw [own_kM, i] <;> omega
  rw [own_addL] <;> rw [a, own_k1] <;> omega
theorem own_hi {lo : Int32} {B R : Int64} (h : 1 ≤ lo.toInt) (hR : R.toInt = 2147483648 - lo.toInt) (hB : 0 ≤ B.toInt) : lo.toInt ≤ ((lo.toInt64 + (B - B / R * R)).toInt32).toInt := by
  have r := rng32 lo
  have i := c_i2l lo
  have m := own_rem B R (by omega) hB
  have a : (lo.toInt64 + (B - B / R * R)).toInt = lo.toInt + (B - B / R * R).toInt := by rw [own_addL] <;> rw [i] <;> omega
  rw [own_l2i] <;> rw [a] <;> omega
theorem own_bel {lo : Int32} (h : 1 ≤ lo.toInt) : (lo.toInt64 - (-2147483648 : Int64)).toInt = lo.toInt + 2147483648 := by
  have r := rng32 lo
  have i := c_i2l lo
  rw [own_subL] <;> rw [own_km, i] <;> omega
theorem own_c1 {lo : Int32} {U W : Int64} (h : 1 ≤ lo.toInt) (hW : W.toInt = lo.toInt + 2147483648) (hU : 0 ≤ U.toInt) : ((lo.toInt64 - (1 : Int64) - (U - U / W * W)).toInt32).toInt < lo.toInt := by
  have r := rng32 lo
  have i := c_i2l lo
  have m := own_rem U W (by omega) hU
  have a : (lo.toInt64 - (1 : Int64)).toInt = lo.toInt - 1 := by rw [own_subL] <;> rw [own_k1, i] <;> omega
  have b : (lo.toInt64 - (1 : Int64) - (U - U / W * W)).toInt = lo.toInt - 1 - (U - U / W * W).toInt := by rw [own_subL] <;> rw [a] <;> omega
  rw [own_l2i] <;> rw [b] <;> omega
theorem own_abv {hi : Int32} : ((2147483647 : Int64) - hi.toInt64).toInt = 2147483647 - hi.toInt := by
  have r := rng32 hi
  have i := c_i2l hi
  rw [own_subL] <;> rw [own_kM, i] <;> omega
theorem own_c2 {hi : Int32} {U V : Int64} (h : hi.toInt < 2147483647) (h0 : 1 ≤ hi.toInt) (hV : V.toInt = 2147483647 - hi.toInt) (hU : 0 ≤ U.toInt) : hi.toInt < ((hi.toInt64 + (1 : Int64) + (U - U / V * V)).toInt32).toInt := by
  have i := c_i2l hi
  have m := own_rem U V (by omega) hU
  have a : (hi.toInt64 + (1 : Int64)).toInt = hi.toInt + 1 := by rw [own_addL] <;> rw [own_k1, i] <;> omega
  have b : (hi.toInt64 + (1 : Int64) + (U - U / V * V)).toInt = hi.toInt + 1 + (U - U / V * V).toInt := by rw [own_addL] <;> rw [a] <;> omega
  rw [own_l2i] <;> rw [b] <;> omega
theorem own_wid {lo hi : Int32} (h : lo.toInt ≤ hi.toInt) : (hi.toInt64 - lo.toInt64 + (1 : Int64)).toInt = hi.toInt - lo.toInt + 1 := by
  have r := rng32 lo
  have r' := rng32 hi
  have i := c_i2l lo
  have i' := c_i2l hi
  have a : (hi.toInt64 - lo.toInt64).toInt = hi.toInt - lo.toInt := by rw [own_subL] <;> rw [i, i'] <;> omega
  rw [own_addL] <;> rw [a, own_k1] <;> omega
theorem own_c3 {lo hi : Int32} {U D : Int64} (h0 : 1 ≤ lo.toInt) (h : lo.toInt ≤ hi.toInt) (hD : D.toInt = hi.toInt - lo.toInt + 1) (hU : 0 ≤ U.toInt) : lo.toInt ≤ ((lo.toInt64 + (U - U / D * D)).toInt32).toInt ∧ ((lo.toInt64 + (U - U / D * D)).toInt32).toInt ≤ hi.toInt := by
  have r := rng32 hi
  have i := c_i2l lo
  have m := own_rem U D (by omega) hU
  have a : (lo.toInt64 + (U - U / D * D)).toInt = lo.toInt + (U - U / D * D).toInt := by rw [own_addL] <;> rw [i] <;> omega
  have b : (lo.toInt64 + (U - U / D * D)).toInt32.toInt = lo.toInt + (U - U / D * D).toInt := by rw [own_l2i] <;> rw [a] <;> omega
  omega
theorem own_lt {x y : Int32} (h : x.toInt < y.toInt) : x < y := by rw [Int32.lt_iff_toInt_lt]; exact h
theorem own_nlt {x y : Int32} (h : y.toInt ≤ x.toInt) : ¬ x < y := by rw [Int32.lt_iff_toInt_lt]; omega
theorem own_dec {x : Int32} (h : 1 ≤ x.toInt) : (x - (1 : Int32)).toInt = x.toInt - 1 := by
  have a := c_isub x 1
  have b := rng32 (x - 1)
  have d := rng32 x
  have k : (1 : Int32).toInt = 1 := by decide
  rw [k] at a
  omega
theorem own_inc {x : Int32} (h : x.toInt < 2147483647) : (x + (1 : Int32)).toInt = x.toInt + 1 := by
  have a := c_iadd x 1
  have b := rng32 (x + 1)
  have d := rng32 x
  have k : (1 : Int32).toInt = 1 := by decide
  rw [k] at a
  omega
theorem own_max {x : Int32} (h : x < (2147483647 : Int32)) : x.toInt < 2147483647 := by
  rw [Int32.lt_iff_toInt_lt, show (2147483647 : Int32).toInt = 2147483647 from by decide] at h
  exact h
theorem pn_0 : plainName "com/example/deferral_ledger/deferralledger/plan/InstallmentYearsAllowPinLaw" = true := by first | (simp [plainName, overriddenIn]; done) | decide +kernel
theorem ef_0 (m : MethodId) (pa : Int32) (pb : Int32) (pk : Int32) (ps : Int32) : entryFrame m #[(.int pa), (.int pb), (.int pk), (.int ps)] maxLocals = mkF m 0 #[.val (.int pa), .val (.int pb), .val (.int pk), .val (.int ps), .unset, .unset, .unset, .unset, .unset, .unset, .unset, .unset, .unset, .unset, .unset, .unset] [] := by first | (simp [entryFrame, mkF, argsToLocals, Value.category, maxLocals]; done) | rfl
def Q0 (Z : State) (pa : Int32) (pb : Int32) (pk : Int32) (ps : Int32) (h0 : Heap) (n0 : Nat) (v : Option Value) (h : Heap) (L : List Loc) : Prop := v = some (.int 1) ∧ Fr n0 L
set_option maxRecDepth 65536 in
set_option maxHeartbeats 40000000 in
theorem rm0 (l : Launch) (Z : State) (a0 : Array Value) (hw : ∀ d ∈ tables_1, d.before a0 Z = true) (ws : List Jvm.Cond) (pa : Int32) (pb : Int32) (pk : Int32) (ps : Int32)  (h0 : Heap) (n0 : Nat) (Z0 : n0 ≤ h0.size)  :
    MetFree l x (head1 (Jvm.Cond.code x code maxLocals ret :: ws) room_1) (fun a U => a = #[(.int pa), (.int pb), (.int pk), (.int ps)] ∧ Z.Warmed39 U.vm ∧ U.heap = h0) (fun _ _ _ _ _ => True) (fun _ U o U' => ∃ v L, o = .returned v ∧ Q0 Z pa pb pk ps  h0 n0 v U'.heap L ∧ FrameEnd U o U' L room_1.cells room_1.slots) := by
  refine MetFree.of_bodySF (plainFor_of_name pn_0) hisR ?_
  intro p e s m args below meth c s₁ Bd hml0 hP hK
  obtain ⟨rfl, hZ, hh⟩ := hP
  have hx := Bd.exec
  have hby := Bd.bytes
  have hml : c.maxLocals = 16 := hml0
  have hown : s.vm.findClass "com/example/deferral_ledger/deferralledger/plan/InstallmentYearsAllowPinLaw" = some m.cls := findClass_of_methodNamed Bd.named
  have hnm := (name_of_methodNamed Bd.named Bd.method).1
  have X0 : Stand p l e room_1 s m #[(.int pa), (.int pb), (.int pk), (.int ps)] below meth c s₁ [] 0 0 := Stand.of_body Bd
  have e0 : s₁.heap = h0 := by rw [← hh, Bd.state]; rfl
  have N0 := Fr.nil n0
  have pre0 : ∀ t, Steps p.tables e below (s₁.setTop (mkF m 0 #[.val (.int pa), .val (.int pb), .val (.int pk), .val (.int ps), .unset, .unset, .unset, .unset, .unset, .unset, .unset, .unset, .unset, .unset, .unset, .unset] [])) t → Steps p.tables e below (s₁.setTop (entryFrame m #[(.int pa), (.int pb), (.int pk), (.int ps)] maxLocals)) t := fun t k => castTop (ef_0 m pa pb pk ps) k
  have s0 : ∀ t, Steps p.tables e below (s₁.setTop (mkF m 14 #[.val (.int pa), .val (.int pb), .val (.int pk), .val (.int ps), .val (.int (own_lo pa)), .unset, .unset, .unset, .unset, .unset, .unset, .unset, .unset, .unset, .unset, .unset] [])) t → Steps p.tables e below (s₁.setTop (mkF m 0 #[.val (.int pa), .val (.int pb), .val (.int pk), .val (.int ps), .unset, .unset, .unset, .unset, .unset, .unset, .unset, .unset, .unset, .unset, .unset, .unset] [])) t := by
    intro t k
    refine XS.iloadN X0.here hx rfl (hb hby at_0) rfl ?_
    show Steps p.tables e below (s₁.setTop (mkF m 1 #[.val (.int pa), .val (.int pb), .val (.int pk), .val (.int ps), .unset, .unset, .unset, .unset, .unset, .unset, .unset, .unset, .unset, .unset, .unset, .unset] [(.int pa)])) _
    refine X0.ldcInt hx hown (mvT hZ (hw _ (List.mem_of_getElem? (i := 0) rfl))) (g := (mkF m 1 #[.val (.int pa), .val (.int pb), .val (.int pk), .val (.int ps), .unset, .unset, .unset, .unset, .unset, .unset, .unset, .unset, .unset, .unset, .unset, .unset] [(.int pa)])) rfl (hb hby at_1) _ ?_
    show Steps p.tables e below (s₁.setTop (mkF m 3 #[.val (.int pa), .val (.int pb), .val (.int pk), .val (.int ps), .unset, .unset, .unset, .unset, .unset, .unset, .unset, .unset, .unset, .unset, .unset, .unset] [(.int (2147483647 : Int32)), (.int pa)])) _
    refine XS.iand X0.here hx rfl (hb hby at_3) rfl ?_
    show Steps p.tables e below (s₁.setTop (mkF m 4 #[.val (.int pa), .val (.int pb), .val (.int pk), .val (.int ps), .unset, .unset, .unset, .unset, .unset, .unset, .unset, .unset, .unset, .unset, .unset, .unset] [(.int (pa &&& (2147483647 : Int32)))])) _
    refine XS.istore X0.here hx rfl (hb hby at_4) rfl (l' := #[.val (.int pa), .val (.int pb), .val (.int pk), .val (.int ps), .val (.int (pa &&& (2147483647 : Int32))), .unset, .unset, .unset, .unset, .unset, .unset, .unset, .unset, .unset, .unset, .unset]) rfl ?_
    show Steps p.tables e below (s₁.setTop (mkF m 6 #[.val (.int pa), .val (.int pb), .val (.int pk), .val (.int ps), .val (.int (pa &&& (2147483647 : Int32))), .unset, .unset, .unset, .unset, .unset, .unset, .unset, .unset, .unset, .unset, .unset] [])) _
    refine XS.iload X0.here hx rfl (hb hby at_6) rfl ?_
    show Steps p.tables e below (s₁.setTop (mkF m 8 #[.val (.int pa), .val (.int pb), .val (.int pk), .val (.int ps), .val (.int (pa &&& (2147483647 : Int32))), .unset, .unset, .unset, .unset, .unset, .unset, .unset, .unset, .unset, .unset, .unset] [(.int (pa &&& (2147483647 : Int32)))])) _
    by_cases h8 : (pa &&& (2147483647 : Int32)) = (0 : Int32)
    · refine XS.ifNo X0.here hx rfl (hb hby at_8) rfl ((if0 _ _).trans (teq h8).2) ?_
      show Steps p.tables e below (s₁.setTop (mkF m 11 #[.val (.int pa), .val (.int pb), .val (.int pk), .val (.int ps), .val (.int (pa &&& (2147483647 : Int32))), .unset, .unset, .unset, .unset, .unset, .unset, .unset, .unset, .unset, .unset, .unset] [])) _
      refine XS.iconst X0.here hx rfl (hb hby at_11) ?_
      show Steps p.tables e below (s₁.setTop (mkF m 12 #[.val (.int pa), .val (.int pb), .val (.int pk), .val (.int ps), .val (.int (pa &&& (2147483647 : Int32))), .unset, .unset, .unset, .unset, .unset, .unset, .unset, .unset, .unset, .unset, .unset] [(.int (1 : Int32))])) _
      refine XS.istore X0.here hx rfl (hb hby at_12) rfl (l' := #[.val (.int pa), .val (.int pb), .val (.int pk), .val (.int ps), .val (.int (1 : Int32)), .unset, .unset, .unset, .unset, .unset, .unset, .unset, .unset, .unset, .unset, .unset]) rfl ?_
      show Steps p.tables e below (s₁.setTop (mkF m 14 #[.val (.int pa), .val (.int pb), .val (.int pk), .val (.int ps), .val (.int (1 : Int32)), .unset, .unset, .unset, .unset, .unset, .unset, .unset, .unset, .unset, .unset, .unset] [])) _
      unfold own_lo at k
      rw [if_pos h8] at k
      exact k
    · refine XS.ifYes X0.here hx rfl (pc0 := 8) (pc' := 14) rfl (hb hby at_8) rfl ((if0 _ _).trans (feq h8).2) (by decide) (by decide) ?_
      show Steps p.tables e below (s₁.setTop (mkF m 14 #[.val (.int pa), .val (.int pb), .val (.int pk), .val (.int ps), .val (.int (pa &&& (2147483647 : Int32))), .unset, .unset, .unset, .unset, .unset, .unset, .unset, .unset, .unset, .unset, .unset] [])) _
      unfold own_lo at k
      rw [if_neg h8] at k
      exact k
  obtain ⟨lo, hlo⟩ : ∃ z, z = own_lo pa := ⟨_, rfl⟩
  have bL := own_lo_rng pa
  rw [← hlo] at bL s0
  obtain ⟨rm, hrm⟩ : ∃ z, z = (((2147483647 : Int64) - lo.toInt64) + (1 : Int64)) := ⟨_, rfl⟩
  have b2 : rm.toInt = 2147483648 - lo.toInt := by rw [hrm]; exact own_room bL
  obtain ⟨bb, hbb⟩ : ∃ z, z = (pb.toInt64 &&& (4294967295 : Int64)) := ⟨_, rfl⟩
  have b3 : 0 ≤ bb.toInt := by rw [hbb]; exact own_mask pb
  have rlo := rng32 lo
  obtain ⟨hi, hhi⟩ : ∃ z, z = (lo.toInt64 + (bb - bb / rm * rm)).toInt32 := ⟨_, rfl⟩
  have b4 : lo.toInt ≤ hi.toInt := by rw [hhi]; exact own_hi bL b2 b3
  have rhi := rng32 hi
  obtain ⟨T1, h1, X1, e1, E1, A1, D1, -, st1⟩ := newO X0 hx hZ hown (hw _ (List.mem_of_getElem? (i := 3) rfl)) (hw _ (List.mem_of_getElem? (i := 4) rfl)) (hw _ (List.mem_of_getElem? (i := 5) rfl)) e0 (g := (mkF m 41 #[.val (.int pa), .val (.int pb), .val (.int pk), .val (.int ps), .val (.int lo), .val (.long rm), .second, .val (.int hi), .unset, .unset, .unset, .unset, .unset, .unset, .unset, .unset] [])) rfl (hb hby at_41) (by decide) (by decide)
  obtain ⟨b1, g1⟩ : ∃ z, z = h0.size := ⟨_, rfl⟩
  rw [← g1] at A1 D1 st1
  have F_min_b1 : Fld Z h1 b1 "com/example/deferral_ledger/deferralledger/plan/InstallmentYears" "min" "I" (.int (0 : Int32)) := D1 (Or.inr (hw _ (List.mem_of_getElem? (i := 18) rfl))) (ty := .int) (by decide)
  have F_max_b1 : Fld Z h1 b1 "com/example/deferral_ledger/deferralledger/plan/InstallmentYears" "max" "I" (.int (0 : Int32)) := D1 (Or.inr (hw _ (List.mem_of_getElem? (i := 20) rfl))) (ty := .int) (by decide)
  have Z1 : n0 ≤ h1.size := Nat.le_trans Z0 E1.1
  obtain ⟨_, _, ⟨T2, L2, k2, n2⟩, -, X2, ⟨Lc2, hQ2, l2, y2, z2⟩, st2⟩ := X1.specialBack hx (y := (⟨"com/example/deferral_ledger/deferralledger/plan/InstallmentYears", "<init>", "(II)V"⟩ : MethodName)) rfl hown (mvT hZ (hw _ (List.mem_of_getElem? (i := 6) rfl))) (mvT hZ (hw _ (List.mem_of_getElem? (i := 7) rfl))) (mvT hZ (hw _ (List.mem_of_getElem? (i := 8) rfl))) (by decide) (backOf (W := 1) (rm1 l Z a0 hw [] b1 lo hi (.int 0) (.int 0) h1 n0 Z1 A1 F_min_b1 (Nat.le_trans Z0 (Nat.le_of_eq g1.symm)) F_max_b1) hZ (hw _ (List.mem_of_getElem? (i := 8) rfl)) (hw _ (List.mem_of_getElem? (i := 5) rfl)) (by decide) (by decide)) (g := (mkF m 49 #[.val (.int pa), .val (.int pb), .val (.int pk), .val (.int ps), .val (.int lo), .val (.long rm), .second, .val (.int hi), .unset, .unset, .unset, .unset, .unset, .unset, .unset, .unset] [(.int hi), (.int lo), (.ref b1), (.ref b1)])) rfl (by rw [hml]; rfl) (Steps.refl _) (a := b1) (argsL := [(.int lo), (.int hi)]) (rest := [(.ref b1)]) (lenOf pd_1 rfl) rfl (by show 2 * 0 + _ ≤ _; exact Nat.le_of_eq rfl) (hb hby at_49) (fun _ _ => ⟨rfl, e1, (by decide : 1 + 0 ≤ _), (by decide : 2 + 0 ≤ _)⟩)
  dsimp only [Pt.U, Pt.locs, Pt.cells, Pt.slots] at X2 l2 y2 z2 st2 hQ2
  subst l2 y2 z2
  obtain ⟨rfl, Nq2, K2, Fp2, Fs2⟩ := hQ2
  have N2 := Fr.app N0 Nq2
  have Z2 : n0 ≤ T2.heap.size := Nat.le_trans Z1 K2.1
  have Ex2 := A1.keep K2
  obtain ⟨hh2, ehh2⟩ : ∃ z, z = T2.heap := ⟨_, rfl⟩
  rw [← ehh2] at Z2 Ex2 Fp2 Fs2
  have e2 : T2.heap = hh2 := ehh2.symm
  obtain ⟨uu, huu⟩ : ∃ z, z = (pk.toInt64 &&& (4294967295 : Int64)) := ⟨_, rfl⟩
  have b5 : 0 ≤ uu.toInt := by rw [huu]; exact own_mask pk
  obtain ⟨cq3, kq3, qa3, qb3, qc3⟩ := isOf hZ e2 Ex2
  obtain ⟨_, _, ⟨T3, L3, k3, n3⟩, -, X3, ⟨Lc3, hQ3, l3, y3, z3⟩, st3⟩ := X2.virtualBack hx (y := (⟨"com/example/deferral_ledger/deferralledger/plan/InstallmentYears", "allow", "(I)Z"⟩ : MethodName)) (z := (⟨"com/example/deferral_ledger/deferralledger/plan/InstallmentYears", "allow", "(I)Z"⟩ : MethodName)) hown (mvT hZ (hw _ (List.mem_of_getElem? (i := 21) rfl))) (mvT hZ (hw _ (List.mem_of_getElem? (i := 22) rfl))) (notFace_of_selects (args := #[]) (mvT hZ (hw _ (List.mem_of_getElem? (i := 24) rfl)))) (mvT hZ (hw _ (List.mem_of_getElem? (i := 24) rfl))) (mvT hZ (hw _ (List.mem_of_getElem? (i := 23) rfl))) (by decide) (backOf (W := 0) (rm4a l Z a0 hw [] b1 lo lo hi hh2 n0 Z2 Fp2 Fs2 (own_nlt (by omega)) (own_nlt (by omega))) hZ (hw _ (List.mem_of_getElem? (i := 25) rfl)) (hw _ (List.mem_of_getElem? (i := 5) rfl)) (by decide) (by decide)) qa3 qc3 (g := (mkF m 66 #[.val (.int pa), .val (.int pb), .val (.int pk), .val (.int ps), .val (.int lo), .val (.long rm), .second, .val (.int hi), .val (.ref b1), .val (.long uu), .second, .unset, .unset, .unset, .unset, .unset] [(.int lo), (.ref b1)])) rfl (by rw [hml]; rfl) (Steps.refl _) (argsL := [(.int lo)]) (rest := []) (lenOf pd_4 rfl) rfl (by show 2 * 0 + _ ≤ _; exact Nat.le_of_eq rfl) (hb hby at_66) (fun _ _ => ⟨rfl, e2, (by decide : 1 + 0 ≤ _), (by decide : 2 + 0 ≤ _)⟩)
  dsimp only [Pt.U, Pt.locs, Pt.cells, Pt.slots] at X3 l3 y3 z3 st3 hQ3
  subst l3 y3 z3
  obtain ⟨rfl, Nq3, e3⟩ := hQ3
  have N3 := Fr.app N2 Nq3
  obtain ⟨cq4, kq4, qa4, qb4, qc4⟩ := isOf hZ e3 Ex2
  obtain ⟨_, _, ⟨T4, L4, k4, n4⟩, -, X4, ⟨Lc4, hQ4, l4, y4, z4⟩, st4⟩ := X3.virtualBack hx (y := (⟨"com/example/deferral_ledger/deferralledger/plan/InstallmentYears", "allow", "(I)Z"⟩ : MethodName)) (z := (⟨"com/example/deferral_ledger/deferralledger/plan/InstallmentYears", "allow", "(I)Z"⟩ : MethodName)) hown (mvT hZ (hw _ (List.mem_of_getElem? (i := 21) rfl))) (mvT hZ (hw _ (List.mem_of_getElem? (i := 22) rfl))) (notFace_of_selects (args := #[]) (mvT hZ (hw _ (List.mem_of_getElem? (i := 24) rfl)))) (mvT hZ (hw _ (List.mem_of_getElem? (i := 24) rfl))) (mvT hZ (hw _ (List.mem_of_getElem? (i := 23) rfl))) (by decide) (backOf (W := 0) (rm4a l Z a0 hw [] b1 hi lo hi hh2 n0 Z2 Fp2 Fs2 (own_nlt (by omega)) (own_nlt (by omega))) hZ (hw _ (List.mem_of_getElem? (i := 25) rfl)) (hw _ (List.mem_of_getElem? (i := 5) rfl)) (by decide) (by decide)) qa4 qc4 (g := (mkF m 76 #[.val (.int pa), .val (.int pb), .val (.int pk), .val (.int ps), .val (.int lo), .val (.long rm), .second, .val (.int hi), .val (.ref b1), .val (.long uu), .second, .unset, .unset, .unset, .unset, .unset] [(.int hi), (.ref b1)])) rfl (by rw [hml]; rfl) (Steps.refl _) (argsL := [(.int hi)]) (rest := []) (lenOf pd_4 rfl) rfl (by show 2 * 0 + _ ≤ _; exact Nat.le_of_eq rfl) (hb hby at_76) (fun _ _ => ⟨rfl, e3, (by decide : 1 + 0 ≤ _), (by decide : 2 + 0 ≤ _)⟩)
  dsimp only [Pt.U, Pt.locs, Pt.cells, Pt.slots] at X4 l4 y4 z4 st4 hQ4
  subst l4 y4 z4
  obtain ⟨rfl, Nq4, e4⟩ := hQ4
  have N4 := Fr.app N3 Nq4
  have b6 := own_dec bL
  obtain ⟨cq5, kq5, qa5, qb5, qc5⟩ := isOf hZ e4 Ex2
  obtain ⟨_, _, ⟨T5, L5, k5, n5⟩, -, X5, ⟨Lc5, hQ5, l5, y5, z5⟩, st5⟩ := X4.virtualBack hx (y := (⟨"com/example/deferral_ledger/deferralledger/plan/InstallmentYears", "allow", "(I)Z"⟩ : MethodName)) (z := (⟨"com/example/deferral_ledger/deferralledger/plan/InstallmentYears", "allow", "(I)Z"⟩ : MethodName)) hown (mvT hZ (hw _ (List.mem_of_getElem? (i := 21) rfl))) (mvT hZ (hw _ (List.mem_of_getElem? (i := 22) rfl))) (notFace_of_selects (args := #[]) (mvT hZ (hw _ (List.mem_of_getElem? (i := 24) rfl)))) (mvT hZ (hw _ (List.mem_of_getElem? (i := 24) rfl))) (mvT hZ (hw _ (List.mem_of_getElem? (i := 23) rfl))) (by decide) (backOf (W := 0) (rm4b l Z a0 hw [] b1 (lo - (1 : Int32)) lo hh2 n0 Z2 Fp2 (own_lt (by omega))) hZ (hw _ (List.mem_of_getElem? (i := 25) rfl)) (hw _ (List.mem_of_getElem? (i := 5) rfl)) (by decide) (by decide)) qa5 qc5 (g := (mkF m 88 #[.val (.int pa), .val (.int pb), .val (.int pk), .val (.int ps), .val (.int lo), .val (.long rm), .second, .val (.int hi), .val (.ref b1), .val (.long uu), .second, .unset, .unset, .unset, .unset, .unset] [(.int (lo - (1 : Int32))), (.ref b1)])) rfl (by rw [hml]; rfl) (Steps.refl _) (argsL := [(.int (lo - (1 : Int32)))]) (rest := []) (lenOf pd_4 rfl) rfl (by show 2 * 0 + _ ≤ _; exact Nat.le_of_eq rfl) (hb hby at_88) (fun _ _ => ⟨rfl, e4, (by decide : 1 + 0 ≤ _), (by decide : 2 + 0 ≤ _)⟩)
  dsimp only [Pt.U, Pt.locs, Pt.cells, Pt.slots] at X5 l5 y5 z5 st5 hQ5
  subst l5 y5 z5
  obtain ⟨rfl, Nq5, e5⟩ := hQ5
  have N5 := Fr.app N4 Nq5
  have preA : ∀ t, Steps p.tables e below (T5.setTop (mkF m 105 #[.val (.int pa), .val (.int pb), .val (.int pk), .val (.int ps), .val (.int lo), .val (.long rm), .second, .val (.int hi), .val (.ref b1), .val (.long uu), .second, .val (.int (1 : Int32)), .unset, .unset, .unset, .unset] [(.int (2147483647 : Int32)), (.int hi)])) t → Steps p.tables e below (s₁.setTop (mkF m 0 #[.val (.int pa), .val (.int pb), .val (.int pk), .val (.int ps), .unset, .unset, .unset, .unset, .unset, .unset, .unset, .unset, .unset, .unset, .unset, .unset] [])) t := by
    intro t k
    show Steps p.tables e below (s₁.setTop (mkF m 0 #[.val (.int pa), .val (.int pb), .val (.int pk), .val (.int ps), .unset, .unset, .unset, .unset, .unset, .unset, .unset, .unset, .unset, .unset, .unset, .unset] [])) _
    refine s0 _ ?_
    show Steps p.tables e below (s₁.setTop (mkF m 14 #[.val (.int pa), .val (.int pb), .val (.int pk), .val (.int ps), .val (.int lo), .unset, .unset, .unset, .unset, .unset, .unset, .unset, .unset, .unset, .unset, .unset] [])) _
    refine X0.ldc2Long hx hown (mvT hZ (hw _ (List.mem_of_getElem? (i := 1) rfl))) (g := (mkF m 14 #[.val (.int pa), .val (.int pb), .val (.int pk), .val (.int ps), .val (.int lo), .unset, .unset, .unset, .unset, .unset, .unset, .unset, .unset, .unset, .unset, .unset] [])) rfl (hb hby at_14) _ ?_
    show Steps p.tables e below (s₁.setTop (mkF m 17 #[.val (.int pa), .val (.int pb), .val (.int pk), .val (.int ps), .val (.int lo), .unset, .unset, .unset, .unset, .unset, .unset, .unset, .unset, .unset, .unset, .unset] [(.long (2147483647 : Int64))])) _
    refine XS.iload X0.here hx rfl (hb hby at_17) rfl ?_
    show Steps p.tables e below (s₁.setTop (mkF m 19 #[.val (.int pa), .val (.int pb), .val (.int pk), .val (.int ps), .val (.int lo), .unset, .unset, .unset, .unset, .unset, .unset, .unset, .unset, .unset, .unset, .unset] [(.int lo), (.long (2147483647 : Int64))])) _
    refine XS.i2l X0.here hx rfl (hb hby at_19) rfl ?_
    show Steps p.tables e below (s₁.setTop (mkF m 20 #[.val (.int pa), .val (.int pb), .val (.int pk), .val (.int ps), .val (.int lo), .unset, .unset, .unset, .unset, .unset, .unset, .unset, .unset, .unset, .unset, .unset] [(.long lo.toInt64), (.long (2147483647 : Int64))])) _
    refine XS.lsub X0.here hx rfl (hb hby at_20) rfl ?_
    show Steps p.tables e below (s₁.setTop (mkF m 21 #[.val (.int pa), .val (.int pb), .val (.int pk), .val (.int ps), .val (.int lo), .unset, .unset, .unset, .unset, .unset, .unset, .unset, .unset, .unset, .unset, .unset] [(.long ((2147483647 : Int64) - lo.toInt64))])) _
    refine XS.lconst X0.here hx rfl (hb hby at_21) ?_
    show Steps p.tables e below (s₁.setTop (mkF m 22 #[.val (.int pa), .val (.int pb), .val (.int pk), .val (.int ps), .val (.int lo), .unset, .unset, .unset, .unset, .unset, .unset, .unset, .unset, .unset, .unset, .unset] [(.long (1 : Int64)), (.long ((2147483647 : Int64) - lo.toInt64))])) _
    refine XS.ladd X0.here hx rfl (hb hby at_22) rfl ?_
    show Steps p.tables e below (s₁.setTop (mkF m 23 #[.val (.int pa), .val (.int pb), .val (.int pk), .val (.int ps), .val (.int lo), .unset, .unset, .unset, .unset, .unset, .unset, .unset, .unset, .unset, .unset, .unset] [(.long (((2147483647 : Int64) - lo.toInt64) + (1 : Int64)))])) _
    rw [← hrm]
    show Steps p.tables e below (s₁.setTop (mkF m 23 #[.val (.int pa), .val (.int pb), .val (.int pk), .val (.int ps), .val (.int lo), .unset, .unset, .unset, .unset, .unset, .unset, .unset, .unset, .unset, .unset, .unset] [(.long rm)])) _
    refine XS.lstore X0.here hx rfl (hb hby at_23) rfl (l' := #[.val (.int pa), .val (.int pb), .val (.int pk), .val (.int ps), .val (.int lo), .val (.long rm), .second, .unset, .unset, .unset, .unset, .unset, .unset, .unset, .unset, .unset]) rfl ?_
    show Steps p.tables e below (s₁.setTop (mkF m 25 #[.val (.int pa), .val (.int pb), .val (.int pk), .val (.int ps), .val (.int lo), .val (.long rm), .second, .unset, .unset, .unset, .unset, .unset, .unset, .unset, .unset, .unset] [])) _
    refine XS.iload X0.here hx rfl (hb hby at_25) rfl ?_
    show Steps p.tables e below (s₁.setTop (mkF m 27 #[.val (.int pa), .val (.int pb), .val (.int pk), .val (.int ps), .val (.int lo), .val (.long rm), .second, .unset, .unset, .unset, .unset, .unset, .unset, .unset, .unset, .unset] [(.int lo)])) _
    refine XS.i2l X0.here hx rfl (hb hby at_27) rfl ?_
    show Steps p.tables e below (s₁.setTop (mkF m 28 #[.val (.int pa), .val (.int pb), .val (.int pk), .val (.int ps), .val (.int lo), .val (.long rm), .second, .unset, .unset, .unset, .unset, .unset, .unset, .unset, .unset, .unset] [(.long lo.toInt64)])) _
    refine XS.iloadN X0.here hx rfl (hb hby at_28) rfl ?_
    show Steps p.tables e below (s₁.setTop (mkF m 29 #[.val (.int pa), .val (.int pb), .val (.int pk), .val (.int ps), .val (.int lo), .val (.long rm), .second, .unset, .unset, .unset, .unset, .unset, .unset, .unset, .unset, .unset] [(.int pb), (.long lo.toInt64)])) _
    refine XS.i2l X0.here hx rfl (hb hby at_29) rfl ?_
    show Steps p.tables e below (s₁.setTop (mkF m 30 #[.val (.int pa), .val (.int pb), .val (.int pk), .val (.int ps), .val (.int lo), .val (.long rm), .second, .unset, .unset, .unset, .unset, .unset, .unset, .unset, .unset, .unset] [(.long pb.toInt64), (.long lo.toInt64)])) _
    refine X0.ldc2Long hx hown (mvT hZ (hw _ (List.mem_of_getElem? (i := 2) rfl))) (g := (mkF m 30 #[.val (.int pa), .val (.int pb), .val (.int pk), .val (.int ps), .val (.int lo), .val (.long rm), .second, .unset, .unset, .unset, .unset, .unset, .unset, .unset, .unset, .unset] [(.long pb.toInt64), (.long lo.toInt64)])) rfl (hb hby at_30) _ ?_
    show Steps p.tables e below (s₁.setTop (mkF m 33 #[.val (.int pa), .val (.int pb), .val (.int pk), .val (.int ps), .val (.int lo), .val (.long rm), .second, .unset, .unset, .unset, .unset, .unset, .unset, .unset, .unset, .unset] [(.long (4294967295 : Int64)), (.long pb.toInt64), (.long lo.toInt64)])) _
    refine XS.land X0.here hx rfl (hb hby at_33) rfl ?_
    show Steps p.tables e below (s₁.setTop (mkF m 34 #[.val (.int pa), .val (.int pb), .val (.int pk), .val (.int ps), .val (.int lo), .val (.long rm), .second, .unset, .unset, .unset, .unset, .unset, .unset, .unset, .unset, .unset] [(.long (pb.toInt64 &&& (4294967295 : Int64))), (.long lo.toInt64)])) _
    rw [← hbb]
    show Steps p.tables e below (s₁.setTop (mkF m 34 #[.val (.int pa), .val (.int pb), .val (.int pk), .val (.int ps), .val (.int lo), .val (.long rm), .second, .unset, .unset, .unset, .unset, .unset, .unset, .unset, .unset, .unset] [(.long bb), (.long lo.toInt64)])) _
    refine XS.lload X0.here hx rfl (hb hby at_34) rfl ?_
    show Steps p.tables e below (s₁.setTop (mkF m 36 #[.val (.int pa), .val (.int pb), .val (.int pk), .val (.int ps), .val (.int lo), .val (.long rm), .second, .unset, .unset, .unset, .unset, .unset, .unset, .unset, .unset, .unset] [(.long rm), (.long bb), (.long lo.toInt64)])) _
    refine XS.lrem X0.here hx rfl (hb hby at_36) rfl (own_nz (by omega)) ?_
    show Steps p.tables e below (s₁.setTop (mkF m 37 #[.val (.int pa), .val (.int pb), .val (.int pk), .val (.int ps), .val (.int lo), .val (.long rm), .second, .unset, .unset, .unset, .unset, .unset, .unset, .unset, .unset, .unset] [(.long (bb - bb / rm * rm)), (.long lo.toInt64)])) _
    refine XS.ladd X0.here hx rfl (hb hby at_37) rfl ?_
    show Steps p.tables e below (s₁.setTop (mkF m 38 #[.val (.int pa), .val (.int pb), .val (.int pk), .val (.int ps), .val (.int lo), .val (.long rm), .second, .unset, .unset, .unset, .unset, .unset, .unset, .unset, .unset, .unset] [(.long (lo.toInt64 + (bb - bb / rm * rm)))])) _
    refine XS.l2i X0.here hx rfl (hb hby at_38) rfl ?_
    show Steps p.tables e below (s₁.setTop (mkF m 39 #[.val (.int pa), .val (.int pb), .val (.int pk), .val (.int ps), .val (.int lo), .val (.long rm), .second, .unset, .unset, .unset, .unset, .unset, .unset, .unset, .unset, .unset] [(.int ((lo.toInt64 + (bb - bb / rm * rm)).toInt32))])) _
    rw [← hhi]
    show Steps p.tables e below (s₁.setTop (mkF m 39 #[.val (.int pa), .val (.int pb), .val (.int pk), .val (.int ps), .val (.int lo), .val (.long rm), .second, .unset, .unset, .unset, .unset, .unset, .unset, .unset, .unset, .unset] [(.int hi)])) _
    refine XS.istore X0.here hx rfl (hb hby at_39) rfl (l' := #[.val (.int pa), .val (.int pb), .val (.int pk), .val (.int ps), .val (.int lo), .val (.long rm), .second, .val (.int hi), .unset, .unset, .unset, .unset, .unset, .unset, .unset, .unset]) rfl ?_
    show Steps p.tables e below (s₁.setTop (mkF m 41 #[.val (.int pa), .val (.int pb), .val (.int pk), .val (.int ps), .val (.int lo), .val (.long rm), .second, .val (.int hi), .unset, .unset, .unset, .unset, .unset, .unset, .unset, .unset] [])) _
    refine st1 _ ?_
    show Steps p.tables e below (T1.setTop (mkF m 44 #[.val (.int pa), .val (.int pb), .val (.int pk), .val (.int ps), .val (.int lo), .val (.long rm), .second, .val (.int hi), .unset, .unset, .unset, .unset, .unset, .unset, .unset, .unset] [(.ref b1)])) _
    refine XS.dup X1.here hx rfl (hb hby at_44) rfl rfl ?_
    show Steps p.tables e below (T1.setTop (mkF m 45 #[.val (.int pa), .val (.int pb), .val (.int pk), .val (.int ps), .val (.int lo), .val (.long rm), .second, .val (.int hi), .unset, .unset, .unset, .unset, .unset, .unset, .unset, .unset] [(.ref b1), (.ref b1)])) _
    refine XS.iload X1.here hx rfl (hb hby at_45) rfl ?_
    show Steps p.tables e below (T1.setTop (mkF m 47 #[.val (.int pa), .val (.int pb), .val (.int pk), .val (.int ps), .val (.int lo), .val (.long rm), .second, .val (.int hi), .unset, .unset, .unset, .unset, .unset, .unset, .unset, .unset] [(.int lo), (.ref b1), (.ref b1)])) _
    refine XS.iload X1.here hx rfl (hb hby at_47) rfl ?_
    show Steps p.tables e below (T1.setTop (mkF m 49 #[.val (.int pa), .val (.int pb), .val (.int pk), .val (.int ps), .val (.int lo), .val (.long rm), .second, .val (.int hi), .unset, .unset, .unset, .unset, .unset, .unset, .unset, .unset] [(.int hi), (.int lo), (.ref b1), (.ref b1)])) _
    refine st2.trans ?_
    show Steps p.tables e below (T2.setTop (mkF m 52 #[.val (.int pa), .val (.int pb), .val (.int pk), .val (.int ps), .val (.int lo), .val (.long rm), .second, .val (.int hi), .unset, .unset, .unset, .unset, .unset, .unset, .unset, .unset] [(.ref b1)])) _
    refine XS.astore X2.here hx rfl (hb hby at_52) rfl rfl (l' := #[.val (.int pa), .val (.int pb), .val (.int pk), .val (.int ps), .val (.int lo), .val (.long rm), .second, .val (.int hi), .val (.ref b1), .unset, .unset, .unset, .unset, .unset, .unset, .unset]) rfl ?_
    show Steps p.tables e below (T2.setTop (mkF m 54 #[.val (.int pa), .val (.int pb), .val (.int pk), .val (.int ps), .val (.int lo), .val (.long rm), .second, .val (.int hi), .val (.ref b1), .unset, .unset, .unset, .unset, .unset, .unset, .unset] [])) _
    refine XS.iloadN X2.here hx rfl (hb hby at_54) rfl ?_
    show Steps p.tables e below (T2.setTop (mkF m 55 #[.val (.int pa), .val (.int pb), .val (.int pk), .val (.int ps), .val (.int lo), .val (.long rm), .second, .val (.int hi), .val (.ref b1), .unset, .unset, .unset, .unset, .unset, .unset, .unset] [(.int pk)])) _
    refine XS.i2l X2.here hx rfl (hb hby at_55) rfl ?_
    show Steps p.tables e below (T2.setTop (mkF m 56 #[.val (.int pa), .val (.int pb), .val (.int pk), .val (.int ps), .val (.int lo), .val (.long rm), .second, .val (.int hi), .val (.ref b1), .unset, .unset, .unset, .unset, .unset, .unset, .unset] [(.long pk.toInt64)])) _
    refine X2.ldc2Long hx hown (mvT hZ (hw _ (List.mem_of_getElem? (i := 2) rfl))) (g := (mkF m 56 #[.val (.int pa), .val (.int pb), .val (.int pk), .val (.int ps), .val (.int lo), .val (.long rm), .second, .val (.int hi), .val (.ref b1), .unset, .unset, .unset, .unset, .unset, .unset, .unset] [(.long pk.toInt64)])) rfl (hb hby at_56) _ ?_
    show Steps p.tables e below (T2.setTop (mkF m 59 #[.val (.int pa), .val (.int pb), .val (.int pk), .val (.int ps), .val (.int lo), .val (.long rm), .second, .val (.int hi), .val (.ref b1), .unset, .unset, .unset, .unset, .unset, .unset, .unset] [(.long (4294967295 : Int64)), (.long pk.toInt64)])) _
    refine XS.land X2.here hx rfl (hb hby at_59) rfl ?_
    show Steps p.tables e below (T2.setTop (mkF m 60 #[.val (.int pa), .val (.int pb), .val (.int pk), .val (.int ps), .val (.int lo), .val (.long rm), .second, .val (.int hi), .val (.ref b1), .unset, .unset, .unset, .unset, .unset, .unset, .unset] [(.long (pk.toInt64 &&& (4294967295 : Int64)))])) _
    rw [← huu]
    show Steps p.tables e below (T2.setTop (mkF m 60 #[.val (.int pa), .val (.int pb), .val (.int pk), .val (.int ps), .val (.int lo), .val (.long rm), .second, .val (.int hi), .val (.ref b1), .unset, .unset, .unset, .unset, .unset, .unset, .unset] [(.long uu)])) _
    refine XS.lstore X2.here hx rfl (hb hby at_60) rfl (l' := #[.val (.int pa), .val (.int pb), .val (.int pk), .val (.int ps), .val (.int lo), .val (.long rm), .second, .val (.int hi), .val (.ref b1), .val (.long uu), .second, .unset, .unset, .unset, .unset, .unset]) rfl ?_
    show Steps p.tables e below (T2.setTop (mkF m 62 #[.val (.int pa), .val (.int pb), .val (.int pk), .val (.int ps), .val (.int lo), .val (.long rm), .second, .val (.int hi), .val (.ref b1), .val (.long uu), .second, .unset, .unset, .unset, .unset, .unset] [])) _
    refine XS.aload X2.here hx rfl (hb hby at_62) rfl rfl ?_
    show Steps p.tables e below (T2.setTop (mkF m 64 #[.val (.int pa), .val (.int pb), .val (.int pk), .val (.int ps), .val (.int lo), .val (.long rm), .second, .val (.int hi), .val (.ref b1), .val (.long uu), .second, .unset, .unset, .unset, .unset, .unset] [(.ref b1)])) _
    refine XS.iload X2.here hx rfl (hb hby at_64) rfl ?_
    show Steps p.tables e below (T2.setTop (mkF m 66 #[.val (.int pa), .val (.int pb), .val (.int pk), .val (.int ps), .val (.int lo), .val (.long rm), .second, .val (.int hi), .val (.ref b1), .val (.long uu), .second, .unset, .unset, .unset, .unset, .unset] [(.int lo), (.ref b1)])) _
    refine st3.trans ?_
    show Steps p.tables e below (T3.setTop (mkF m 69 #[.val (.int pa), .val (.int pb), .val (.int pk), .val (.int ps), .val (.int lo), .val (.long rm), .second, .val (.int hi), .val (.ref b1), .val (.long uu), .second, .unset, .unset, .unset, .unset, .unset] [(.int (1 : Int32))])) _
    refine XS.ifNo X3.here hx rfl (hb hby at_69) rfl ((if0 _ _).trans (feq (by decide : ¬ ((1 : Int32) = (0 : Int32)))).1) ?_
    show Steps p.tables e below (T3.setTop (mkF m 72 #[.val (.int pa), .val (.int pb), .val (.int pk), .val (.int ps), .val (.int lo), .val (.long rm), .second, .val (.int hi), .val (.ref b1), .val (.long uu), .second, .unset, .unset, .unset, .unset, .unset] [])) _
    refine XS.aload X3.here hx rfl (hb hby at_72) rfl rfl ?_
    show Steps p.tables e below (T3.setTop (mkF m 74 #[.val (.int pa), .val (.int pb), .val (.int pk), .val (.int ps), .val (.int lo), .val (.long rm), .second, .val (.int hi), .val (.ref b1), .val (.long uu), .second, .unset, .unset, .unset, .unset, .unset] [(.ref b1)])) _
    refine XS.iload X3.here hx rfl (hb hby at_74) rfl ?_
    show Steps p.tables e below (T3.setTop (mkF m 76 #[.val (.int pa), .val (.int pb), .val (.int pk), .val (.int ps), .val (.int lo), .val (.long rm), .second, .val (.int hi), .val (.ref b1), .val (.long uu), .second, .unset, .unset, .unset, .unset, .unset] [(.int hi), (.ref b1)])) _
    refine st4.trans ?_
    show Steps p.tables e below (T4.setTop (mkF m 79 #[.val (.int pa), .val (.int pb), .val (.int pk), .val (.int ps), .val (.int lo), .val (.long rm), .second, .val (.int hi), .val (.ref b1), .val (.long uu), .second, .unset, .unset, .unset, .unset, .unset] [(.int (1 : Int32))])) _
    refine XS.ifNo X4.here hx rfl (hb hby at_79) rfl ((if0 _ _).trans (feq (by decide : ¬ ((1 : Int32) = (0 : Int32)))).1) ?_
    show Steps p.tables e below (T4.setTop (mkF m 82 #[.val (.int pa), .val (.int pb), .val (.int pk), .val (.int ps), .val (.int lo), .val (.long rm), .second, .val (.int hi), .val (.ref b1), .val (.long uu), .second, .unset, .unset, .unset, .unset, .unset] [])) _
    refine XS.aload X4.here hx rfl (hb hby at_82) rfl rfl ?_
    show Steps p.tables e below (T4.setTop (mkF m 84 #[.val (.int pa), .val (.int pb), .val (.int pk), .val (.int ps), .val (.int lo), .val (.long rm), .second, .val (.int hi), .val (.ref b1), .val (.long uu), .second, .unset, .unset, .unset, .unset, .unset] [(.ref b1)])) _
    refine XS.iload X4.here hx rfl (hb hby at_84) rfl ?_
    show Steps p.tables e below (T4.setTop (mkF m 86 #[.val (.int pa), .val (.int pb), .val (.int pk), .val (.int ps), .val (.int lo), .val (.long rm), .second, .val (.int hi), .val (.ref b1), .val (.long uu), .second, .unset, .unset, .unset, .unset, .unset] [(.int lo), (.ref b1)])) _
    refine XS.iconst X4.here hx rfl (hb hby at_86) ?_
    show Steps p.tables e below (T4.setTop (mkF m 87 #[.val (.int pa), .val (.int pb), .val (.int pk), .val (.int ps), .val (.int lo), .val (.long rm), .second, .val (.int hi), .val (.ref b1), .val (.long uu), .second, .unset, .unset, .unset, .unset, .unset] [(.int (1 : Int32)), (.int lo), (.ref b1)])) _
    refine XS.isub X4.here hx rfl (hb hby at_87) rfl ?_
    show Steps p.tables e below (T4.setTop (mkF m 88 #[.val (.int pa), .val (.int pb), .val (.int pk), .val (.int ps), .val (.int lo), .val (.long rm), .second, .val (.int hi), .val (.ref b1), .val (.long uu), .second, .unset, .unset, .unset, .unset, .unset] [(.int (lo - (1 : Int32))), (.ref b1)])) _
    refine st5.trans ?_
    show Steps p.tables e below (T5.setTop (mkF m 91 #[.val (.int pa), .val (.int pb), .val (.int pk), .val (.int ps), .val (.int lo), .val (.long rm), .second, .val (.int hi), .val (.ref b1), .val (.long uu), .second, .unset, .unset, .unset, .unset, .unset] [(.int (0 : Int32))])) _
    refine XS.ifNo X5.here hx rfl (hb hby at_91) rfl ((if0 _ _).trans (teq (by decide : (0 : Int32) = (0 : Int32))).2) ?_
    show Steps p.tables e below (T5.setTop (mkF m 94 #[.val (.int pa), .val (.int pb), .val (.int pk), .val (.int ps), .val (.int lo), .val (.long rm), .second, .val (.int hi), .val (.ref b1), .val (.long uu), .second, .unset, .unset, .unset, .unset, .unset] [])) _
    refine XS.iconst X5.here hx rfl (hb hby at_94) ?_
    show Steps p.tables e below (T5.setTop (mkF m 95 #[.val (.int pa), .val (.int pb), .val (.int pk), .val (.int ps), .val (.int lo), .val (.long rm), .second, .val (.int hi), .val (.ref b1), .val (.long uu), .second, .unset, .unset, .unset, .unset, .unset] [(.int (1 : Int32))])) _
    refine XS.goto X5.here hx rfl (pc0 := 95) (pc' := 99) rfl (hb hby at_95) (by decide) (by decide) ?_
    show Steps p.tables e below (T5.setTop (mkF m 99 #[.val (.int pa), .val (.int pb), .val (.int pk), .val (.int ps), .val (.int lo), .val (.long rm), .second, .val (.int hi), .val (.ref b1), .val (.long uu), .second, .unset, .unset, .unset, .unset, .unset] [(.int (1 : Int32))])) _
    refine XS.istore X5.here hx rfl (hb hby at_99) rfl (l' := #[.val (.int pa), .val (.int pb), .val (.int pk), .val (.int ps), .val (.int lo), .val (.long rm), .second, .val (.int hi), .val (.ref b1), .val (.long uu), .second, .val (.int (1 : Int32)), .unset, .unset, .unset, .unset]) rfl ?_
    show Steps p.tables e below (T5.setTop (mkF m 101 #[.val (.int pa), .val (.int pb), .val (.int pk), .val (.int ps), .val (.int lo), .val (.long rm), .second, .val (.int hi), .val (.ref b1), .val (.long uu), .second, .val (.int (1 : Int32)), .unset, .unset, .unset, .unset] [])) _
    refine XS.iload X5.here hx rfl (hb hby at_101) rfl ?_
    show Steps p.tables e below (T5.setTop (mkF m 103 #[.val (.int pa), .val (.int pb), .val (.int pk), .val (.int ps), .val (.int lo), .val (.long rm), .second, .val (.int hi), .val (.ref b1), .val (.long uu), .second, .val (.int (1 : Int32)), .unset, .unset, .unset, .unset] [(.int hi)])) _
    refine X5.ldcInt hx hown (mvT hZ (hw _ (List.mem_of_getElem? (i := 0) rfl))) (g := (mkF m 103 #[.val (.int pa), .val (.int pb), .val (.int pk), .val (.int ps), .val (.int lo), .val (.long rm), .second, .val (.int hi), .val (.ref b1), .val (.long uu), .second, .val (.int (1 : Int32)), .unset, .unset, .unset, .unset] [(.int hi)])) rfl (hb hby at_103) _ ?_
    show Steps p.tables e below (T5.setTop (mkF m 105 #[.val (.int pa), .val (.int pb), .val (.int pk), .val (.int ps), .val (.int lo), .val (.long rm), .second, .val (.int hi), .val (.ref b1), .val (.long uu), .second, .val (.int (1 : Int32)), .unset, .unset, .unset, .unset] [(.int (2147483647 : Int32)), (.int hi)])) _
    exact k
  by_cases hM : hi < (2147483647 : Int32)
  · have bM0 := own_max hM
    have b9 := own_inc bM0
    obtain ⟨cq6, kq6, qa6, qb6, qc6⟩ := isOf hZ e5 Ex2
    obtain ⟨_, _, ⟨T6, L6, k6, n6⟩, -, X6, ⟨Lc6, hQ6, l6, y6, z6⟩, st6⟩ := X5.virtualBack hx (y := (⟨"com/example/deferral_ledger/deferralledger/plan/InstallmentYears", "allow", "(I)Z"⟩ : MethodName)) (z := (⟨"com/example/deferral_ledger/deferralledger/plan/InstallmentYears", "allow", "(I)Z"⟩ : MethodName)) hown (mvT hZ (hw _ (List.mem_of_getElem? (i := 21) rfl))) (mvT hZ (hw _ (List.mem_of_getElem? (i := 22) rfl))) (notFace_of_selects (args := #[]) (mvT hZ (hw _ (List.mem_of_getElem? (i := 24) rfl)))) (mvT hZ (hw _ (List.mem_of_getElem? (i := 24) rfl))) (mvT hZ (hw _ (List.mem_of_getElem? (i := 23) rfl))) (by decide) (backOf (W := 0) (rm4c l Z a0 hw [] b1 (hi + (1 : Int32)) lo hi hh2 n0 Z2 Fp2 Fs2 (own_nlt (by omega)) (own_lt (by omega))) hZ (hw _ (List.mem_of_getElem? (i := 25) rfl)) (hw _ (List.mem_of_getElem? (i := 5) rfl)) (by decide) (by decide)) qa6 qc6 (g := (mkF m 119 #[.val (.int pa), .val (.int pb), .val (.int pk), .val (.int ps), .val (.int lo), .val (.long rm), .second, .val (.int hi), .val (.ref b1), .val (.long uu), .second, .val (.int (1 : Int32)), .unset, .unset, .unset, .unset] [(.int (hi + (1 : Int32))), (.ref b1)])) rfl (by rw [hml]; rfl) (Steps.refl _) (argsL := [(.int (hi + (1 : Int32)))]) (rest := []) (lenOf pd_4 rfl) rfl (by show 2 * 0 + _ ≤ _; exact Nat.le_of_eq rfl) (hb hby at_119) (fun _ _ => ⟨rfl, e5, (by decide : 1 + 0 ≤ _), (by decide : 2 + 0 ≤ _)⟩)
    dsimp only [Pt.U, Pt.locs, Pt.cells, Pt.slots] at X6 l6 y6 z6 st6 hQ6
    subst l6 y6 z6
    obtain ⟨rfl, Nq6, e6⟩ := hQ6
    have N6 := Fr.app N5 Nq6
    have preB : ∀ t, Steps p.tables e below (T6.setTop (mkF m 132 #[.val (.int pa), .val (.int pb), .val (.int pk), .val (.int ps), .val (.int lo), .val (.long rm), .second, .val (.int hi), .val (.ref b1), .val (.long uu), .second, .val (.int (1 : Int32)), .unset, .unset, .unset, .unset] [])) t → Steps p.tables e below (T5.setTop (mkF m 105 #[.val (.int pa), .val (.int pb), .val (.int pk), .val (.int ps), .val (.int lo), .val (.long rm), .second, .val (.int hi), .val (.ref b1), .val (.long uu), .second, .val (.int (1 : Int32)), .unset, .unset, .unset, .unset] [(.int (2147483647 : Int32)), (.int hi)])) t := by
      intro t k
      show Steps p.tables e below (T5.setTop (mkF m 105 #[.val (.int pa), .val (.int pb), .val (.int pk), .val (.int ps), .val (.int lo), .val (.long rm), .second, .val (.int hi), .val (.ref b1), .val (.long uu), .second, .val (.int (1 : Int32)), .unset, .unset, .unset, .unset] [(.int (2147483647 : Int32)), (.int hi)])) _
      refine XS.icmpNo X5.here hx rfl (hb hby at_105) rfl (tlt hM).2.1 ?_
      show Steps p.tables e below (T5.setTop (mkF m 108 #[.val (.int pa), .val (.int pb), .val (.int pk), .val (.int ps), .val (.int lo), .val (.long rm), .second, .val (.int hi), .val (.ref b1), .val (.long uu), .second, .val (.int (1 : Int32)), .unset, .unset, .unset, .unset] [])) _
      refine XS.iload X5.here hx rfl (hb hby at_108) rfl ?_
      show Steps p.tables e below (T5.setTop (mkF m 110 #[.val (.int pa), .val (.int pb), .val (.int pk), .val (.int ps), .val (.int lo), .val (.long rm), .second, .val (.int hi), .val (.ref b1), .val (.long uu), .second, .val (.int (1 : Int32)), .unset, .unset, .unset, .unset] [(.int (1 : Int32))])) _
      refine XS.ifNo X5.here hx rfl (hb hby at_110) rfl ((if0 _ _).trans (feq (by decide : ¬ ((1 : Int32) = (0 : Int32)))).1) ?_
      show Steps p.tables e below (T5.setTop (mkF m 113 #[.val (.int pa), .val (.int pb), .val (.int pk), .val (.int ps), .val (.int lo), .val (.long rm), .second, .val (.int hi), .val (.ref b1), .val (.long uu), .second, .val (.int (1 : Int32)), .unset, .unset, .unset, .unset] [])) _
      refine XS.aload X5.here hx rfl (hb hby at_113) rfl rfl ?_
      show Steps p.tables e below (T5.setTop (mkF m 115 #[.val (.int pa), .val (.int pb), .val (.int pk), .val (.int ps), .val (.int lo), .val (.long rm), .second, .val (.int hi), .val (.ref b1), .val (.long uu), .second, .val (.int (1 : Int32)), .unset, .unset, .unset, .unset] [(.ref b1)])) _
      refine XS.iload X5.here hx rfl (hb hby at_115) rfl ?_
      show Steps p.tables e below (T5.setTop (mkF m 117 #[.val (.int pa), .val (.int pb), .val (.int pk), .val (.int ps), .val (.int lo), .val (.long rm), .second, .val (.int hi), .val (.ref b1), .val (.long uu), .second, .val (.int (1 : Int32)), .unset, .unset, .unset, .unset] [(.int hi), (.ref b1)])) _
      refine XS.iconst X5.here hx rfl (hb hby at_117) ?_
      show Steps p.tables e below (T5.setTop (mkF m 118 #[.val (.int pa), .val (.int pb), .val (.int pk), .val (.int ps), .val (.int lo), .val (.long rm), .second, .val (.int hi), .val (.ref b1), .val (.long uu), .second, .val (.int (1 : Int32)), .unset, .unset, .unset, .unset] [(.int (1 : Int32)), (.int hi), (.ref b1)])) _
      refine XS.iadd X5.here hx rfl (hb hby at_118) rfl ?_
      show Steps p.tables e below (T5.setTop (mkF m 119 #[.val (.int pa), .val (.int pb), .val (.int pk), .val (.int ps), .val (.int lo), .val (.long rm), .second, .val (.int hi), .val (.ref b1), .val (.long uu), .second, .val (.int (1 : Int32)), .unset, .unset, .unset, .unset] [(.int (hi + (1 : Int32))), (.ref b1)])) _
      refine st6.trans ?_
      show Steps p.tables e below (T6.setTop (mkF m 122 #[.val (.int pa), .val (.int pb), .val (.int pk), .val (.int ps), .val (.int lo), .val (.long rm), .second, .val (.int hi), .val (.ref b1), .val (.long uu), .second, .val (.int (1 : Int32)), .unset, .unset, .unset, .unset] [(.int (0 : Int32))])) _
      refine XS.ifNo X6.here hx rfl (hb hby at_122) rfl ((if0 _ _).trans (teq (by decide : (0 : Int32) = (0 : Int32))).2) ?_
      show Steps p.tables e below (T6.setTop (mkF m 125 #[.val (.int pa), .val (.int pb), .val (.int pk), .val (.int ps), .val (.int lo), .val (.long rm), .second, .val (.int hi), .val (.ref b1), .val (.long uu), .second, .val (.int (1 : Int32)), .unset, .unset, .unset, .unset] [])) _
      refine XS.iconst X6.here hx rfl (hb hby at_125) ?_
      show Steps p.tables e below (T6.setTop (mkF m 126 #[.val (.int pa), .val (.int pb), .val (.int pk), .val (.int ps), .val (.int lo), .val (.long rm), .second, .val (.int hi), .val (.ref b1), .val (.long uu), .second, .val (.int (1 : Int32)), .unset, .unset, .unset, .unset] [(.int (1 : Int32))])) _
      refine XS.goto X6.here hx rfl (pc0 := 126) (pc' := 130) rfl (hb hby at_126) (by decide) (by decide) ?_
      show Steps p.tables e below (T6.setTop (mkF m 130 #[.val (.int pa), .val (.int pb), .val (.int pk), .val (.int ps), .val (.int lo), .val (.long rm), .second, .val (.int hi), .val (.ref b1), .val (.long uu), .second, .val (.int (1 : Int32)), .unset, .unset, .unset, .unset] [(.int (1 : Int32))])) _
      refine XS.istore X6.here hx rfl (hb hby at_130) rfl (l' := #[.val (.int pa), .val (.int pb), .val (.int pk), .val (.int ps), .val (.int lo), .val (.long rm), .second, .val (.int hi), .val (.ref b1), .val (.long uu), .second, .val (.int (1 : Int32)), .unset, .unset, .unset, .unset]) rfl ?_
      show Steps p.tables e below (T6.setTop (mkF m 132 #[.val (.int pa), .val (.int pb), .val (.int pk), .val (.int ps), .val (.int lo), .val (.long rm), .second, .val (.int hi), .val (.ref b1), .val (.long uu), .second, .val (.int (1 : Int32)), .unset, .unset, .unset, .unset] [])) _
      exact k
    by_cases hs : (ps &&& (3 : Int32)) = (1 : Int32)
    · obtain ⟨ww, hww⟩ : ∃ z, z = (lo.toInt64 - (-2147483648 : Int64)) := ⟨_, rfl⟩
      have b7 : ww.toInt = lo.toInt + 2147483648 := by rw [hww]; exact own_bel bL
      obtain ⟨cc, hcc⟩ : ∃ z, z = ((lo.toInt64 - (1 : Int64)) - (uu - uu / ww * ww)).toInt32 := ⟨_, rfl⟩
      have b8 : cc.toInt < lo.toInt := by rw [hcc]; exact own_c1 bL b7 b5
      obtain ⟨cq7, kq7, qa7, qb7, qc7⟩ := isOf hZ e6 Ex2
      obtain ⟨_, _, ⟨T7, L7, k7, n7⟩, -, X7, ⟨Lc7, hQ7, l7, y7, z7⟩, st7⟩ := X6.virtualBack hx (y := (⟨"com/example/deferral_ledger/deferralledger/plan/InstallmentYears", "allow", "(I)Z"⟩ : MethodName)) (z := (⟨"com/example/deferral_ledger/deferralledger/plan/InstallmentYears", "allow", "(I)Z"⟩ : MethodName)) hown (mvT hZ (hw _ (List.mem_of_getElem? (i := 21) rfl))) (mvT hZ (hw _ (List.mem_of_getElem? (i := 22) rfl))) (notFace_of_selects (args := #[]) (mvT hZ (hw _ (List.mem_of_getElem? (i := 24) rfl)))) (mvT hZ (hw _ (List.mem_of_getElem? (i := 24) rfl))) (mvT hZ (hw _ (List.mem_of_getElem? (i := 23) rfl))) (by decide) (backOf (W := 0) (rm4b l Z a0 hw [] b1 cc lo hh2 n0 Z2 Fp2 (own_lt (by omega))) hZ (hw _ (List.mem_of_getElem? (i := 25) rfl)) (hw _ (List.mem_of_getElem? (i := 5) rfl)) (by decide) (by decide)) qa7 qc7 (g := (mkF m 175 #[.val (.int pa), .val (.int pb), .val (.int pk), .val (.int ps), .val (.int lo), .val (.long rm), .second, .val (.int hi), .val (.ref b1), .val (.long uu), .second, .val (.int (1 : Int32)), .val (.int (ps &&& (3 : Int32))), .val (.long ww), .second, .val (.int cc)] [(.int cc), (.ref b1)])) rfl (by rw [hml]; rfl) (Steps.refl _) (argsL := [(.int cc)]) (rest := []) (lenOf pd_4 rfl) rfl (by show 2 * 0 + _ ≤ _; exact Nat.le_of_eq rfl) (hb hby at_175) (fun _ _ => ⟨rfl, e6, (by decide : 1 + 0 ≤ _), (by decide : 2 + 0 ≤ _)⟩)
      dsimp only [Pt.U, Pt.locs, Pt.cells, Pt.slots] at X7 l7 y7 z7 st7 hQ7
      subst l7 y7 z7
      obtain ⟨rfl, Nq7, e7⟩ := hQ7
      have N7 := Fr.app N6 Nq7
      obtain ⟨fs, hr, hrun, hended, hW, hsame⟩ := X7.leave (v := some (.int (1 : Int32))) (fun h => by rw [Bd.returns] at h; cases h)
      refine ⟨_, _, pre0 _ (preA _ (preB _ ?_)), hrun, hended, _, _, rfl, ?_, ⟨_, rfl⟩, hW, hsame.mono (by decide) (by decide)⟩
      · show Steps p.tables e below (T6.setTop (mkF m 132 #[.val (.int pa), .val (.int pb), .val (.int pk), .val (.int ps), .val (.int lo), .val (.long rm), .second, .val (.int hi), .val (.ref b1), .val (.long uu), .second, .val (.int (1 : Int32)), .unset, .unset, .unset, .unset] [])) _
        refine XS.iloadN X6.here hx rfl (hb hby at_132) rfl ?_
        show Steps p.tables e below (T6.setTop (mkF m 133 #[.val (.int pa), .val (.int pb), .val (.int pk), .val (.int ps), .val (.int lo), .val (.long rm), .second, .val (.int hi), .val (.ref b1), .val (.long uu), .second, .val (.int (1 : Int32)), .unset, .unset, .unset, .unset] [(.int ps)])) _
        refine XS.iconst X6.here hx rfl (hb hby at_133) ?_
        show Steps p.tables e below (T6.setTop (mkF m 134 #[.val (.int pa), .val (.int pb), .val (.int pk), .val (.int ps), .val (.int lo), .val (.long rm), .second, .val (.int hi), .val (.ref b1), .val (.long uu), .second, .val (.int (1 : Int32)), .unset, .unset, .unset, .unset] [(.int (3 : Int32)), (.int ps)])) _
        refine XS.iand X6.here hx rfl (hb hby at_134) rfl ?_
        show Steps p.tables e below (T6.setTop (mkF m 135 #[.val (.int pa), .val (.int pb), .val (.int pk), .val (.int ps), .val (.int lo), .val (.long rm), .second, .val (.int hi), .val (.ref b1), .val (.long uu), .second, .val (.int (1 : Int32)), .unset, .unset, .unset, .unset] [(.int (ps &&& (3 : Int32)))])) _
        refine XS.istore X6.here hx rfl (hb hby at_135) rfl (l' := #[.val (.int pa), .val (.int pb), .val (.int pk), .val (.int ps), .val (.int lo), .val (.long rm), .second, .val (.int hi), .val (.ref b1), .val (.long uu), .second, .val (.int (1 : Int32)), .val (.int (ps &&& (3 : Int32))), .unset, .unset, .unset]) rfl ?_
        show Steps p.tables e below (T6.setTop (mkF m 137 #[.val (.int pa), .val (.int pb), .val (.int pk), .val (.int ps), .val (.int lo), .val (.long rm), .second, .val (.int hi), .val (.ref b1), .val (.long uu), .second, .val (.int (1 : Int32)), .val (.int (ps &&& (3 : Int32))), .unset, .unset, .unset] [])) _
        refine XS.iload X6.here hx rfl (hb hby at_137) rfl ?_
        show Steps p.tables e below (T6.setTop (mkF m 139 #[.val (.int pa), .val (.int pb), .val (.int pk), .val (.int ps), .val (.int lo), .val (.long rm), .second, .val (.int hi), .val (.ref b1), .val (.long uu), .second, .val (.int (1 : Int32)), .val (.int (ps &&& (3 : Int32))), .unset, .unset, .unset] [(.int (ps &&& (3 : Int32)))])) _
        refine XS.iconst X6.here hx rfl (hb hby at_139) ?_
        show Steps p.tables e below (T6.setTop (mkF m 140 #[.val (.int pa), .val (.int pb), .val (.int pk), .val (.int ps), .val (.int lo), .val (.long rm), .second, .val (.int hi), .val (.ref b1), .val (.long uu), .second, .val (.int (1 : Int32)), .val (.int (ps &&& (3 : Int32))), .unset, .unset, .unset] [(.int (1 : Int32)), (.int (ps &&& (3 : Int32)))])) _
        refine XS.icmpNo X6.here hx rfl (hb hby at_140) rfl (teq hs).2 ?_
        show Steps p.tables e below (T6.setTop (mkF m 143 #[.val (.int pa), .val (.int pb), .val (.int pk), .val (.int ps), .val (.int lo), .val (.long rm), .second, .val (.int hi), .val (.ref b1), .val (.long uu), .second, .val (.int (1 : Int32)), .val (.int (ps &&& (3 : Int32))), .unset, .unset, .unset] [])) _
        refine XS.iload X6.here hx rfl (hb hby at_143) rfl ?_
        show Steps p.tables e below (T6.setTop (mkF m 145 #[.val (.int pa), .val (.int pb), .val (.int pk), .val (.int ps), .val (.int lo), .val (.long rm), .second, .val (.int hi), .val (.ref b1), .val (.long uu), .second, .val (.int (1 : Int32)), .val (.int (ps &&& (3 : Int32))), .unset, .unset, .unset] [(.int lo)])) _
        refine XS.i2l X6.here hx rfl (hb hby at_145) rfl ?_
        show Steps p.tables e below (T6.setTop (mkF m 146 #[.val (.int pa), .val (.int pb), .val (.int pk), .val (.int ps), .val (.int lo), .val (.long rm), .second, .val (.int hi), .val (.ref b1), .val (.long uu), .second, .val (.int (1 : Int32)), .val (.int (ps &&& (3 : Int32))), .unset, .unset, .unset] [(.long lo.toInt64)])) _
        refine X6.ldc2Long hx hown (mvT hZ (hw _ (List.mem_of_getElem? (i := 26) rfl))) (g := (mkF m 146 #[.val (.int pa), .val (.int pb), .val (.int pk), .val (.int ps), .val (.int lo), .val (.long rm), .second, .val (.int hi), .val (.ref b1), .val (.long uu), .second, .val (.int (1 : Int32)), .val (.int (ps &&& (3 : Int32))), .unset, .unset, .unset] [(.long lo.toInt64)])) rfl (hb hby at_146) _ ?_
        show Steps p.tables e below (T6.setTop (mkF m 149 #[.val (.int pa), .val (.int pb), .val (.int pk), .val (.int ps), .val (.int lo), .val (.long rm), .second, .val (.int hi), .val (.ref b1), .val (.long uu), .second, .val (.int (1 : Int32)), .val (.int (ps &&& (3 : Int32))), .unset, .unset, .unset] [(.long (-2147483648 : Int64)), (.long lo.toInt64)])) _
        refine XS.lsub X6.here hx rfl (hb hby at_149) rfl ?_
        show Steps p.tables e below (T6.setTop (mkF m 150 #[.val (.int pa), .val (.int pb), .val (.int pk), .val (.int ps), .val (.int lo), .val (.long rm), .second, .val (.int hi), .val (.ref b1), .val (.long uu), .second, .val (.int (1 : Int32)), .val (.int (ps &&& (3 : Int32))), .unset, .unset, .unset] [(.long (lo.toInt64 - (-2147483648 : Int64)))])) _
        rw [← hww]
        show Steps p.tables e below (T6.setTop (mkF m 150 #[.val (.int pa), .val (.int pb), .val (.int pk), .val (.int ps), .val (.int lo), .val (.long rm), .second, .val (.int hi), .val (.ref b1), .val (.long uu), .second, .val (.int (1 : Int32)), .val (.int (ps &&& (3 : Int32))), .unset, .unset, .unset] [(.long ww)])) _
        refine XS.lstore X6.here hx rfl (hb hby at_150) rfl (l' := #[.val (.int pa), .val (.int pb), .val (.int pk), .val (.int ps), .val (.int lo), .val (.long rm), .second, .val (.int hi), .val (.ref b1), .val (.long uu), .second, .val (.int (1 : Int32)), .val (.int (ps &&& (3 : Int32))), .val (.long ww), .second, .unset]) rfl ?_
        show Steps p.tables e below (T6.setTop (mkF m 152 #[.val (.int pa), .val (.int pb), .val (.int pk), .val (.int ps), .val (.int lo), .val (.long rm), .second, .val (.int hi), .val (.ref b1), .val (.long uu), .second, .val (.int (1 : Int32)), .val (.int (ps &&& (3 : Int32))), .val (.long ww), .second, .unset] [])) _
        refine XS.iload X6.here hx rfl (hb hby at_152) rfl ?_
        show Steps p.tables e below (T6.setTop (mkF m 154 #[.val (.int pa), .val (.int pb), .val (.int pk), .val (.int ps), .val (.int lo), .val (.long rm), .second, .val (.int hi), .val (.ref b1), .val (.long uu), .second, .val (.int (1 : Int32)), .val (.int (ps &&& (3 : Int32))), .val (.long ww), .second, .unset] [(.int lo)])) _
        refine XS.i2l X6.here hx rfl (hb hby at_154) rfl ?_
        show Steps p.tables e below (T6.setTop (mkF m 155 #[.val (.int pa), .val (.int pb), .val (.int pk), .val (.int ps), .val (.int lo), .val (.long rm), .second, .val (.int hi), .val (.ref b1), .val (.long uu), .second, .val (.int (1 : Int32)), .val (.int (ps &&& (3 : Int32))), .val (.long ww), .second, .unset] [(.long lo.toInt64)])) _
        refine XS.lconst X6.here hx rfl (hb hby at_155) ?_
        show Steps p.tables e below (T6.setTop (mkF m 156 #[.val (.int pa), .val (.int pb), .val (.int pk), .val (.int ps), .val (.int lo), .val (.long rm), .second, .val (.int hi), .val (.ref b1), .val (.long uu), .second, .val (.int (1 : Int32)), .val (.int (ps &&& (3 : Int32))), .val (.long ww), .second, .unset] [(.long (1 : Int64)), (.long lo.toInt64)])) _
        refine XS.lsub X6.here hx rfl (hb hby at_156) rfl ?_
        show Steps p.tables e below (T6.setTop (mkF m 157 #[.val (.int pa), .val (.int pb), .val (.int pk), .val (.int ps), .val (.int lo), .val (.long rm), .second, .val (.int hi), .val (.ref b1), .val (.long uu), .second, .val (.int (1 : Int32)), .val (.int (ps &&& (3 : Int32))), .val (.long ww), .second, .unset] [(.long (lo.toInt64 - (1 : Int64)))])) _
        refine XS.lload X6.here hx rfl (hb hby at_157) rfl ?_
        show Steps p.tables e below (T6.setTop (mkF m 159 #[.val (.int pa), .val (.int pb), .val (.int pk), .val (.int ps), .val (.int lo), .val (.long rm), .second, .val (.int hi), .val (.ref b1), .val (.long uu), .second, .val (.int (1 : Int32)), .val (.int (ps &&& (3 : Int32))), .val (.long ww), .second, .unset] [(.long uu), (.long (lo.toInt64 - (1 : Int64)))])) _
        refine XS.lload X6.here hx rfl (hb hby at_159) rfl ?_
        show Steps p.tables e below (T6.setTop (mkF m 161 #[.val (.int pa), .val (.int pb), .val (.int pk), .val (.int ps), .val (.int lo), .val (.long rm), .second, .val (.int hi), .val (.ref b1), .val (.long uu), .second, .val (.int (1 : Int32)), .val (.int (ps &&& (3 : Int32))), .val (.long ww), .second, .unset] [(.long ww), (.long uu), (.long (lo.toInt64 - (1 : Int64)))])) _
        refine XS.lrem X6.here hx rfl (hb hby at_161) rfl (own_nz (by omega)) ?_
        show Steps p.tables e below (T6.setTop (mkF m 162 #[.val (.int pa), .val (.int pb), .val (.int pk), .val (.int ps), .val (.int lo), .val (.long rm), .second, .val (.int hi), .val (.ref b1), .val (.long uu), .second, .val (.int (1 : Int32)), .val (.int (ps &&& (3 : Int32))), .val (.long ww), .second, .unset] [(.long (uu - uu / ww * ww)), (.long (lo.toInt64 - (1 : Int64)))])) _
        refine XS.lsub X6.here hx rfl (hb hby at_162) rfl ?_
        show Steps p.tables e below (T6.setTop (mkF m 163 #[.val (.int pa), .val (.int pb), .val (.int pk), .val (.int ps), .val (.int lo), .val (.long rm), .second, .val (.int hi), .val (.ref b1), .val (.long uu), .second, .val (.int (1 : Int32)), .val (.int (ps &&& (3 : Int32))), .val (.long ww), .second, .unset] [(.long ((lo.toInt64 - (1 : Int64)) - (uu - uu / ww * ww)))])) _
        refine XS.l2i X6.here hx rfl (hb hby at_163) rfl ?_
        show Steps p.tables e below (T6.setTop (mkF m 164 #[.val (.int pa), .val (.int pb), .val (.int pk), .val (.int ps), .val (.int lo), .val (.long rm), .second, .val (.int hi), .val (.ref b1), .val (.long uu), .second, .val (.int (1 : Int32)), .val (.int (ps &&& (3 : Int32))), .val (.long ww), .second, .unset] [(.int (((lo.toInt64 - (1 : Int64)) - (uu - uu / ww * ww)).toInt32))])) _
        rw [← hcc]
        show Steps p.tables e below (T6.setTop (mkF m 164 #[.val (.int pa), .val (.int pb), .val (.int pk), .val (.int ps), .val (.int lo), .val (.long rm), .second, .val (.int hi), .val (.ref b1), .val (.long uu), .second, .val (.int (1 : Int32)), .val (.int (ps &&& (3 : Int32))), .val (.long ww), .second, .unset] [(.int cc)])) _
        refine XS.istore X6.here hx rfl (hb hby at_164) rfl (l' := #[.val (.int pa), .val (.int pb), .val (.int pk), .val (.int ps), .val (.int lo), .val (.long rm), .second, .val (.int hi), .val (.ref b1), .val (.long uu), .second, .val (.int (1 : Int32)), .val (.int (ps &&& (3 : Int32))), .val (.long ww), .second, .val (.int cc)]) rfl ?_
        show Steps p.tables e below (T6.setTop (mkF m 166 #[.val (.int pa), .val (.int pb), .val (.int pk), .val (.int ps), .val (.int lo), .val (.long rm), .second, .val (.int hi), .val (.ref b1), .val (.long uu), .second, .val (.int (1 : Int32)), .val (.int (ps &&& (3 : Int32))), .val (.long ww), .second, .val (.int cc)] [])) _
        refine XS.iload X6.here hx rfl (hb hby at_166) rfl ?_
        show Steps p.tables e below (T6.setTop (mkF m 168 #[.val (.int pa), .val (.int pb), .val (.int pk), .val (.int ps), .val (.int lo), .val (.long rm), .second, .val (.int hi), .val (.ref b1), .val (.long uu), .second, .val (.int (1 : Int32)), .val (.int (ps &&& (3 : Int32))), .val (.long ww), .second, .val (.int cc)] [(.int (1 : Int32))])) _
        refine XS.ifNo X6.here hx rfl (hb hby at_168) rfl ((if0 _ _).trans (feq (by decide : ¬ ((1 : Int32) = (0 : Int32)))).1) ?_
        show Steps p.tables e below (T6.setTop (mkF m 171 #[.val (.int pa), .val (.int pb), .val (.int pk), .val (.int ps), .val (.int lo), .val (.long rm), .second, .val (.int hi), .val (.ref b1), .val (.long uu), .second, .val (.int (1 : Int32)), .val (.int (ps &&& (3 : Int32))), .val (.long ww), .second, .val (.int cc)] [])) _
        refine XS.aload X6.here hx rfl (hb hby at_171) rfl rfl ?_
        show Steps p.tables e below (T6.setTop (mkF m 173 #[.val (.int pa), .val (.int pb), .val (.int pk), .val (.int ps), .val (.int lo), .val (.long rm), .second, .val (.int hi), .val (.ref b1), .val (.long uu), .second, .val (.int (1 : Int32)), .val (.int (ps &&& (3 : Int32))), .val (.long ww), .second, .val (.int cc)] [(.ref b1)])) _
        refine XS.iload X6.here hx rfl (hb hby at_173) rfl ?_
        show Steps p.tables e below (T6.setTop (mkF m 175 #[.val (.int pa), .val (.int pb), .val (.int pk), .val (.int ps), .val (.int lo), .val (.long rm), .second, .val (.int hi), .val (.ref b1), .val (.long uu), .second, .val (.int (1 : Int32)), .val (.int (ps &&& (3 : Int32))), .val (.long ww), .second, .val (.int cc)] [(.int cc), (.ref b1)])) _
        refine st7.trans ?_
        show Steps p.tables e below (T7.setTop (mkF m 178 #[.val (.int pa), .val (.int pb), .val (.int pk), .val (.int ps), .val (.int lo), .val (.long rm), .second, .val (.int hi), .val (.ref b1), .val (.long uu), .second, .val (.int (1 : Int32)), .val (.int (ps &&& (3 : Int32))), .val (.long ww), .second, .val (.int cc)] [(.int (0 : Int32))])) _
        refine XS.ifNo X7.here hx rfl (hb hby at_178) rfl ((if0 _ _).trans (teq (by decide : (0 : Int32) = (0 : Int32))).2) ?_
        show Steps p.tables e below (T7.setTop (mkF m 181 #[.val (.int pa), .val (.int pb), .val (.int pk), .val (.int ps), .val (.int lo), .val (.long rm), .second, .val (.int hi), .val (.ref b1), .val (.long uu), .second, .val (.int (1 : Int32)), .val (.int (ps &&& (3 : Int32))), .val (.long ww), .second, .val (.int cc)] [])) _
        refine XS.iconst X7.here hx rfl (hb hby at_181) ?_
        show Steps p.tables e below (T7.setTop (mkF m 182 #[.val (.int pa), .val (.int pb), .val (.int pk), .val (.int ps), .val (.int lo), .val (.long rm), .second, .val (.int hi), .val (.ref b1), .val (.long uu), .second, .val (.int (1 : Int32)), .val (.int (ps &&& (3 : Int32))), .val (.long ww), .second, .val (.int cc)] [(.int (1 : Int32))])) _
        refine XS.goto X7.here hx rfl (pc0 := 182) (pc' := 186) rfl (hb hby at_182) (by decide) (by decide) ?_
        show Steps p.tables e below (T7.setTop (mkF m 186 #[.val (.int pa), .val (.int pb), .val (.int pk), .val (.int ps), .val (.int lo), .val (.long rm), .second, .val (.int hi), .val (.ref b1), .val (.long uu), .second, .val (.int (1 : Int32)), .val (.int (ps &&& (3 : Int32))), .val (.long ww), .second, .val (.int cc)] [(.int (1 : Int32))])) _
        exact retN X7 hx (t := .boolean) Bd.returns (by simp) (hb hby at_186) hr
      · show Q0 Z pa pb pk ps h0 n0 _ T7.heap _
        rw [e7]
        exact ⟨rfl, N7⟩
    · by_cases ht : (ps &&& (3 : Int32)) < (2 : Int32)
      · obtain ⟨ww, hww⟩ : ∃ z, z = ((hi.toInt64 - lo.toInt64) + (1 : Int64)) := ⟨_, rfl⟩
        have b7 : ww.toInt = hi.toInt - lo.toInt + 1 := by rw [hww]; exact own_wid b4
        obtain ⟨cc, hcc⟩ : ∃ z, z = (lo.toInt64 + (uu - uu / ww * ww)).toInt32 := ⟨_, rfl⟩
        have b8 : lo.toInt ≤ cc.toInt ∧ cc.toInt ≤ hi.toInt := by rw [hcc]; exact own_c3 bL b4 b7 b5
        obtain ⟨cq7, kq7, qa7, qb7, qc7⟩ := isOf hZ e6 Ex2
        obtain ⟨_, _, ⟨T7, L7, k7, n7⟩, -, X7, ⟨Lc7, hQ7, l7, y7, z7⟩, st7⟩ := X6.virtualBack hx (y := (⟨"com/example/deferral_ledger/deferralledger/plan/InstallmentYears", "allow", "(I)Z"⟩ : MethodName)) (z := (⟨"com/example/deferral_ledger/deferralledger/plan/InstallmentYears", "allow", "(I)Z"⟩ : MethodName)) hown (mvT hZ (hw _ (List.mem_of_getElem? (i := 21) rfl))) (mvT hZ (hw _ (List.mem_of_getElem? (i := 22) rfl))) (notFace_of_selects (args := #[]) (mvT hZ (hw _ (List.mem_of_getElem? (i := 24) rfl)))) (mvT hZ (hw _ (List.mem_of_getElem? (i := 24) rfl))) (mvT hZ (hw _ (List.mem_of_getElem? (i := 23) rfl))) (by decide) (backOf (W := 0) (rm4a l Z a0 hw [] b1 cc lo hi hh2 n0 Z2 Fp2 Fs2 (own_nlt (by omega)) (own_nlt (by omega))) hZ (hw _ (List.mem_of_getElem? (i := 25) rfl)) (hw _ (List.mem_of_getElem? (i := 5) rfl)) (by decide) (by decide)) qa7 qc7 (g := (mkF m 272 #[.val (.int pa), .val (.int pb), .val (.int pk), .val (.int ps), .val (.int lo), .val (.long rm), .second, .val (.int hi), .val (.ref b1), .val (.long uu), .second, .val (.int (1 : Int32)), .val (.int (ps &&& (3 : Int32))), .val (.int cc), .unset, .unset] [(.int cc), (.ref b1)])) rfl (by rw [hml]; rfl) (Steps.refl _) (argsL := [(.int cc)]) (rest := []) (lenOf pd_4 rfl) rfl (by show 2 * 0 + _ ≤ _; exact Nat.le_of_eq rfl) (hb hby at_272) (fun _ _ => ⟨rfl, e6, (by decide : 1 + 0 ≤ _), (by decide : 2 + 0 ≤ _)⟩)
        dsimp only [Pt.U, Pt.locs, Pt.cells, Pt.slots] at X7 l7 y7 z7 st7 hQ7
        subst l7 y7 z7
        obtain ⟨rfl, Nq7, e7⟩ := hQ7
        have N7 := Fr.app N6 Nq7
        obtain ⟨fs, hr, hrun, hended, hW, hsame⟩ := X7.leave (v := some (.int (1 : Int32))) (fun h => by rw [Bd.returns] at h; cases h)
        refine ⟨_, _, pre0 _ (preA _ (preB _ ?_)), hrun, hended, _, _, rfl, ?_, ⟨_, rfl⟩, hW, hsame.mono (by decide) (by decide)⟩
        · show Steps p.tables e below (T6.setTop (mkF m 132 #[.val (.int pa), .val (.int pb), .val (.int pk), .val (.int ps), .val (.int lo), .val (.long rm), .second, .val (.int hi), .val (.ref b1), .val (.long uu), .second, .val (.int (1 : Int32)), .unset, .unset, .unset, .unset] [])) _
          refine XS.iloadN X6.here hx rfl (hb hby at_132) rfl ?_
          show Steps p.tables e below (T6.setTop (mkF m 133 #[.val (.int pa), .val (.int pb), .val (.int pk), .val (.int ps), .val (.int lo), .val (.long rm), .second, .val (.int hi), .val (.ref b1), .val (.long uu), .second, .val (.int (1 : Int32)), .unset, .unset, .unset, .unset] [(.int ps)])) _
          refine XS.iconst X6.here hx rfl (hb hby at_133) ?_
          show Steps p.tables e below (T6.setTop (mkF m 134 #[.val (.int pa), .val (.int pb), .val (.int pk), .val (.int ps), .val (.int lo), .val (.long rm), .second, .val (.int hi), .val (.ref b1), .val (.long uu), .second, .val (.int (1 : Int32)), .unset, .unset, .unset, .unset] [(.int (3 : Int32)), (.int ps)])) _
          refine XS.iand X6.here hx rfl (hb hby at_134) rfl ?_
          show Steps p.tables e below (T6.setTop (mkF m 135 #[.val (.int pa), .val (.int pb), .val (.int pk), .val (.int ps), .val (.int lo), .val (.long rm), .second, .val (.int hi), .val (.ref b1), .val (.long uu), .second, .val (.int (1 : Int32)), .unset, .unset, .unset, .unset] [(.int (ps &&& (3 : Int32)))])) _
          refine XS.istore X6.here hx rfl (hb hby at_135) rfl (l' := #[.val (.int pa), .val (.int pb), .val (.int pk), .val (.int ps), .val (.int lo), .val (.long rm), .second, .val (.int hi), .val (.ref b1), .val (.long uu), .second, .val (.int (1 : Int32)), .val (.int (ps &&& (3 : Int32))), .unset, .unset, .unset]) rfl ?_
          show Steps p.tables e below (T6.setTop (mkF m 137 #[.val (.int pa), .val (.int pb), .val (.int pk), .val (.int ps), .val (.int lo), .val (.long rm), .second, .val (.int hi), .val (.ref b1), .val (.long uu), .second, .val (.int (1 : Int32)), .val (.int (ps &&& (3 : Int32))), .unset, .unset, .unset] [])) _
          refine XS.iload X6.here hx rfl (hb hby at_137) rfl ?_
          show Steps p.tables e below (T6.setTop (mkF m 139 #[.val (.int pa), .val (.int pb), .val (.int pk), .val (.int ps), .val (.int lo), .val (.long rm), .second, .val (.int hi), .val (.ref b1), .val (.long uu), .second, .val (.int (1 : Int32)), .val (.int (ps &&& (3 : Int32))), .unset, .unset, .unset] [(.int (ps &&& (3 : Int32)))])) _
          refine XS.iconst X6.here hx rfl (hb hby at_139) ?_
          show Steps p.tables e below (T6.setTop (mkF m 140 #[.val (.int pa), .val (.int pb), .val (.int pk), .val (.int ps), .val (.int lo), .val (.long rm), .second, .val (.int hi), .val (.ref b1), .val (.long uu), .second, .val (.int (1 : Int32)), .val (.int (ps &&& (3 : Int32))), .unset, .unset, .unset] [(.int (1 : Int32)), (.int (ps &&& (3 : Int32)))])) _
          refine XS.icmpYes X6.here hx rfl (pc0 := 140) (pc' := 187) rfl (hb hby at_140) rfl (feq hs).2 (by decide) (by decide) ?_
          show Steps p.tables e below (T6.setTop (mkF m 187 #[.val (.int pa), .val (.int pb), .val (.int pk), .val (.int ps), .val (.int lo), .val (.long rm), .second, .val (.int hi), .val (.ref b1), .val (.long uu), .second, .val (.int (1 : Int32)), .val (.int (ps &&& (3 : Int32))), .unset, .unset, .unset] [])) _
          refine XS.iload X6.here hx rfl (hb hby at_187) rfl ?_
          show Steps p.tables e below (T6.setTop (mkF m 189 #[.val (.int pa), .val (.int pb), .val (.int pk), .val (.int ps), .val (.int lo), .val (.long rm), .second, .val (.int hi), .val (.ref b1), .val (.long uu), .second, .val (.int (1 : Int32)), .val (.int (ps &&& (3 : Int32))), .unset, .unset, .unset] [(.int (ps &&& (3 : Int32)))])) _
          refine XS.iconst X6.here hx rfl (hb hby at_189) ?_
          show Steps p.tables e below (T6.setTop (mkF m 190 #[.val (.int pa), .val (.int pb), .val (.int pk), .val (.int ps), .val (.int lo), .val (.long rm), .second, .val (.int hi), .val (.ref b1), .val (.long uu), .second, .val (.int (1 : Int32)), .val (.int (ps &&& (3 : Int32))), .unset, .unset, .unset] [(.int (2 : Int32)), (.int (ps &&& (3 : Int32)))])) _
          refine XS.icmpYes X6.here hx rfl (pc0 := 190) (pc' := 244) rfl (hb hby at_190) rfl (tlt ht).1 (by decide) (by decide) ?_
          show Steps p.tables e below (T6.setTop (mkF m 244 #[.val (.int pa), .val (.int pb), .val (.int pk), .val (.int ps), .val (.int lo), .val (.long rm), .second, .val (.int hi), .val (.ref b1), .val (.long uu), .second, .val (.int (1 : Int32)), .val (.int (ps &&& (3 : Int32))), .unset, .unset, .unset] [])) _
          refine XS.iload X6.here hx rfl (hb hby at_244) rfl ?_
          show Steps p.tables e below (T6.setTop (mkF m 246 #[.val (.int pa), .val (.int pb), .val (.int pk), .val (.int ps), .val (.int lo), .val (.long rm), .second, .val (.int hi), .val (.ref b1), .val (.long uu), .second, .val (.int (1 : Int32)), .val (.int (ps &&& (3 : Int32))), .unset, .unset, .unset] [(.int lo)])) _
          refine XS.i2l X6.here hx rfl (hb hby at_246) rfl ?_
          show Steps p.tables e below (T6.setTop (mkF m 247 #[.val (.int pa), .val (.int pb), .val (.int pk), .val (.int ps), .val (.int lo), .val (.long rm), .second, .val (.int hi), .val (.ref b1), .val (.long uu), .second, .val (.int (1 : Int32)), .val (.int (ps &&& (3 : Int32))), .unset, .unset, .unset] [(.long lo.toInt64)])) _
          refine XS.lload X6.here hx rfl (hb hby at_247) rfl ?_
          show Steps p.tables e below (T6.setTop (mkF m 249 #[.val (.int pa), .val (.int pb), .val (.int pk), .val (.int ps), .val (.int lo), .val (.long rm), .second, .val (.int hi), .val (.ref b1), .val (.long uu), .second, .val (.int (1 : Int32)), .val (.int (ps &&& (3 : Int32))), .unset, .unset, .unset] [(.long uu), (.long lo.toInt64)])) _
          refine XS.iload X6.here hx rfl (hb hby at_249) rfl ?_
          show Steps p.tables e below (T6.setTop (mkF m 251 #[.val (.int pa), .val (.int pb), .val (.int pk), .val (.int ps), .val (.int lo), .val (.long rm), .second, .val (.int hi), .val (.ref b1), .val (.long uu), .second, .val (.int (1 : Int32)), .val (.int (ps &&& (3 : Int32))), .unset, .unset, .unset] [(.int hi), (.long uu), (.long lo.toInt64)])) _
          refine XS.i2l X6.here hx rfl (hb hby at_251) rfl ?_
          show Steps p.tables e below (T6.setTop (mkF m 252 #[.val (.int pa), .val (.int pb), .val (.int pk), .val (.int ps), .val (.int lo), .val (.long rm), .second, .val (.int hi), .val (.ref b1), .val (.long uu), .second, .val (.int (1 : Int32)), .val (.int (ps &&& (3 : Int32))), .unset, .unset, .unset] [(.long hi.toInt64), (.long uu), (.long lo.toInt64)])) _
          refine XS.iload X6.here hx rfl (hb hby at_252) rfl ?_
          show Steps p.tables e below (T6.setTop (mkF m 254 #[.val (.int pa), .val (.int pb), .val (.int pk), .val (.int ps), .val (.int lo), .val (.long rm), .second, .val (.int hi), .val (.ref b1), .val (.long uu), .second, .val (.int (1 : Int32)), .val (.int (ps &&& (3 : Int32))), .unset, .unset, .unset] [(.int lo), (.long hi.toInt64), (.long uu), (.long lo.toInt64)])) _
          refine XS.i2l X6.here hx rfl (hb hby at_254) rfl ?_
          show Steps p.tables e below (T6.setTop (mkF m 255 #[.val (.int pa), .val (.int pb), .val (.int pk), .val (.int ps), .val (.int lo), .val (.long rm), .second, .val (.int hi), .val (.ref b1), .val (.long uu), .second, .val (.int (1 : Int32)), .val (.int (ps &&& (3 : Int32))), .unset, .unset, .unset] [(.long lo.toInt64), (.long hi.toInt64), (.long uu), (.long lo.toInt64)])) _
          refine XS.lsub X6.here hx rfl (hb hby at_255) rfl ?_
          show Steps p.tables e below (T6.setTop (mkF m 256 #[.val (.int pa), .val (.int pb), .val (.int pk), .val (.int ps), .val (.int lo), .val (.long rm), .second, .val (.int hi), .val (.ref b1), .val (.long uu), .second, .val (.int (1 : Int32)), .val (.int (ps &&& (3 : Int32))), .unset, .unset, .unset] [(.long (hi.toInt64 - lo.toInt64)), (.long uu), (.long lo.toInt64)])) _
          refine XS.lconst X6.here hx rfl (hb hby at_256) ?_
          show Steps p.tables e below (T6.setTop (mkF m 257 #[.val (.int pa), .val (.int pb), .val (.int pk), .val (.int ps), .val (.int lo), .val (.long rm), .second, .val (.int hi), .val (.ref b1), .val (.long uu), .second, .val (.int (1 : Int32)), .val (.int (ps &&& (3 : Int32))), .unset, .unset, .unset] [(.long (1 : Int64)), (.long (hi.toInt64 - lo.toInt64)), (.long uu), (.long lo.toInt64)])) _
          refine XS.ladd X6.here hx rfl (hb hby at_257) rfl ?_
          show Steps p.tables e below (T6.setTop (mkF m 258 #[.val (.int pa), .val (.int pb), .val (.int pk), .val (.int ps), .val (.int lo), .val (.long rm), .second, .val (.int hi), .val (.ref b1), .val (.long uu), .second, .val (.int (1 : Int32)), .val (.int (ps &&& (3 : Int32))), .unset, .unset, .unset] [(.long ((hi.toInt64 - lo.toInt64) + (1 : Int64))), (.long uu), (.long lo.toInt64)])) _
          rw [← hww]
          show Steps p.tables e below (T6.setTop (mkF m 258 #[.val (.int pa), .val (.int pb), .val (.int pk), .val (.int ps), .val (.int lo), .val (.long rm), .second, .val (.int hi), .val (.ref b1), .val (.long uu), .second, .val (.int (1 : Int32)), .val (.int (ps &&& (3 : Int32))), .unset, .unset, .unset] [(.long ww), (.long uu), (.long lo.toInt64)])) _
          refine XS.lrem X6.here hx rfl (hb hby at_258) rfl (own_nz (by omega)) ?_
          show Steps p.tables e below (T6.setTop (mkF m 259 #[.val (.int pa), .val (.int pb), .val (.int pk), .val (.int ps), .val (.int lo), .val (.long rm), .second, .val (.int hi), .val (.ref b1), .val (.long uu), .second, .val (.int (1 : Int32)), .val (.int (ps &&& (3 : Int32))), .unset, .unset, .unset] [(.long (uu - uu / ww * ww)), (.long lo.toInt64)])) _
          refine XS.ladd X6.here hx rfl (hb hby at_259) rfl ?_
          show Steps p.tables e below (T6.setTop (mkF m 260 #[.val (.int pa), .val (.int pb), .val (.int pk), .val (.int ps), .val (.int lo), .val (.long rm), .second, .val (.int hi), .val (.ref b1), .val (.long uu), .second, .val (.int (1 : Int32)), .val (.int (ps &&& (3 : Int32))), .unset, .unset, .unset] [(.long (lo.toInt64 + (uu - uu / ww * ww)))])) _
          refine XS.l2i X6.here hx rfl (hb hby at_260) rfl ?_
          show Steps p.tables e below (T6.setTop (mkF m 261 #[.val (.int pa), .val (.int pb), .val (.int pk), .val (.int ps), .val (.int lo), .val (.long rm), .second, .val (.int hi), .val (.ref b1), .val (.long uu), .second, .val (.int (1 : Int32)), .val (.int (ps &&& (3 : Int32))), .unset, .unset, .unset] [(.int ((lo.toInt64 + (uu - uu / ww * ww)).toInt32))])) _
          rw [← hcc]
          show Steps p.tables e below (T6.setTop (mkF m 261 #[.val (.int pa), .val (.int pb), .val (.int pk), .val (.int ps), .val (.int lo), .val (.long rm), .second, .val (.int hi), .val (.ref b1), .val (.long uu), .second, .val (.int (1 : Int32)), .val (.int (ps &&& (3 : Int32))), .unset, .unset, .unset] [(.int cc)])) _
          refine XS.istore X6.here hx rfl (hb hby at_261) rfl (l' := #[.val (.int pa), .val (.int pb), .val (.int pk), .val (.int ps), .val (.int lo), .val (.long rm), .second, .val (.int hi), .val (.ref b1), .val (.long uu), .second, .val (.int (1 : Int32)), .val (.int (ps &&& (3 : Int32))), .val (.int cc), .unset, .unset]) rfl ?_
          show Steps p.tables e below (T6.setTop (mkF m 263 #[.val (.int pa), .val (.int pb), .val (.int pk), .val (.int ps), .val (.int lo), .val (.long rm), .second, .val (.int hi), .val (.ref b1), .val (.long uu), .second, .val (.int (1 : Int32)), .val (.int (ps &&& (3 : Int32))), .val (.int cc), .unset, .unset] [])) _
          refine XS.iload X6.here hx rfl (hb hby at_263) rfl ?_
          show Steps p.tables e below (T6.setTop (mkF m 265 #[.val (.int pa), .val (.int pb), .val (.int pk), .val (.int ps), .val (.int lo), .val (.long rm), .second, .val (.int hi), .val (.ref b1), .val (.long uu), .second, .val (.int (1 : Int32)), .val (.int (ps &&& (3 : Int32))), .val (.int cc), .unset, .unset] [(.int (1 : Int32))])) _
          refine XS.ifNo X6.here hx rfl (hb hby at_265) rfl ((if0 _ _).trans (feq (by decide : ¬ ((1 : Int32) = (0 : Int32)))).1) ?_
          show Steps p.tables e below (T6.setTop (mkF m 268 #[.val (.int pa), .val (.int pb), .val (.int pk), .val (.int ps), .val (.int lo), .val (.long rm), .second, .val (.int hi), .val (.ref b1), .val (.long uu), .second, .val (.int (1 : Int32)), .val (.int (ps &&& (3 : Int32))), .val (.int cc), .unset, .unset] [])) _
          refine XS.aload X6.here hx rfl (hb hby at_268) rfl rfl ?_
          show Steps p.tables e below (T6.setTop (mkF m 270 #[.val (.int pa), .val (.int pb), .val (.int pk), .val (.int ps), .val (.int lo), .val (.long rm), .second, .val (.int hi), .val (.ref b1), .val (.long uu), .second, .val (.int (1 : Int32)), .val (.int (ps &&& (3 : Int32))), .val (.int cc), .unset, .unset] [(.ref b1)])) _
          refine XS.iload X6.here hx rfl (hb hby at_270) rfl ?_
          show Steps p.tables e below (T6.setTop (mkF m 272 #[.val (.int pa), .val (.int pb), .val (.int pk), .val (.int ps), .val (.int lo), .val (.long rm), .second, .val (.int hi), .val (.ref b1), .val (.long uu), .second, .val (.int (1 : Int32)), .val (.int (ps &&& (3 : Int32))), .val (.int cc), .unset, .unset] [(.int cc), (.ref b1)])) _
          refine st7.trans ?_
          show Steps p.tables e below (T7.setTop (mkF m 275 #[.val (.int pa), .val (.int pb), .val (.int pk), .val (.int ps), .val (.int lo), .val (.long rm), .second, .val (.int hi), .val (.ref b1), .val (.long uu), .second, .val (.int (1 : Int32)), .val (.int (ps &&& (3 : Int32))), .val (.int cc), .unset, .unset] [(.int (1 : Int32))])) _
          refine XS.ifNo X7.here hx rfl (hb hby at_275) rfl ((if0 _ _).trans (feq (by decide : ¬ ((1 : Int32) = (0 : Int32)))).1) ?_
          show Steps p.tables e below (T7.setTop (mkF m 278 #[.val (.int pa), .val (.int pb), .val (.int pk), .val (.int ps), .val (.int lo), .val (.long rm), .second, .val (.int hi), .val (.ref b1), .val (.long uu), .second, .val (.int (1 : Int32)), .val (.int (ps &&& (3 : Int32))), .val (.int cc), .unset, .unset] [])) _
          refine XS.iconst X7.here hx rfl (hb hby at_278) ?_
          show Steps p.tables e below (T7.setTop (mkF m 279 #[.val (.int pa), .val (.int pb), .val (.int pk), .val (.int ps), .val (.int lo), .val (.long rm), .second, .val (.int hi), .val (.ref b1), .val (.long uu), .second, .val (.int (1 : Int32)), .val (.int (ps &&& (3 : Int32))), .val (.int cc), .unset, .unset] [(.int (1 : Int32))])) _
          refine XS.goto X7.here hx rfl (pc0 := 279) (pc' := 283) rfl (hb hby at_279) (by decide) (by decide) ?_
          show Steps p.tables e below (T7.setTop (mkF m 283 #[.val (.int pa), .val (.int pb), .val (.int pk), .val (.int ps), .val (.int lo), .val (.long rm), .second, .val (.int hi), .val (.ref b1), .val (.long uu), .second, .val (.int (1 : Int32)), .val (.int (ps &&& (3 : Int32))), .val (.int cc), .unset, .unset] [(.int (1 : Int32))])) _
          exact retN X7 hx (t := .boolean) Bd.returns (by simp) (hb hby at_283) hr
        · show Q0 Z pa pb pk ps h0 n0 _ T7.heap _
          rw [e7]
          exact ⟨rfl, N7⟩
      · obtain ⟨ww, hww⟩ : ∃ z, z = ((2147483647 : Int64) - hi.toInt64) := ⟨_, rfl⟩
        have b7 : ww.toInt = 2147483647 - hi.toInt := by rw [hww]; exact own_abv
        have bM := own_max hM
        obtain ⟨cc, hcc⟩ : ∃ z, z = ((hi.toInt64 + (1 : Int64)) + (uu - uu / ww * ww)).toInt32 := ⟨_, rfl⟩
        have b8 : hi.toInt < cc.toInt := by rw [hcc]; exact own_c2 bM (by omega) b7 b5
        obtain ⟨cq7, kq7, qa7, qb7, qc7⟩ := isOf hZ e6 Ex2
        obtain ⟨_, _, ⟨T7, L7, k7, n7⟩, -, X7, ⟨Lc7, hQ7, l7, y7, z7⟩, st7⟩ := X6.virtualBack hx (y := (⟨"com/example/deferral_ledger/deferralledger/plan/InstallmentYears", "allow", "(I)Z"⟩ : MethodName)) (z := (⟨"com/example/deferral_ledger/deferralledger/plan/InstallmentYears", "allow", "(I)Z"⟩ : MethodName)) hown (mvT hZ (hw _ (List.mem_of_getElem? (i := 21) rfl))) (mvT hZ (hw _ (List.mem_of_getElem? (i := 22) rfl))) (notFace_of_selects (args := #[]) (mvT hZ (hw _ (List.mem_of_getElem? (i := 24) rfl)))) (mvT hZ (hw _ (List.mem_of_getElem? (i := 24) rfl))) (mvT hZ (hw _ (List.mem_of_getElem? (i := 23) rfl))) (by decide) (backOf (W := 0) (rm4c l Z a0 hw [] b1 cc lo hi hh2 n0 Z2 Fp2 Fs2 (own_nlt (by omega)) (own_lt (by omega))) hZ (hw _ (List.mem_of_getElem? (i := 25) rfl)) (hw _ (List.mem_of_getElem? (i := 5) rfl)) (by decide) (by decide)) qa7 qc7 (g := (mkF m 232 #[.val (.int pa), .val (.int pb), .val (.int pk), .val (.int ps), .val (.int lo), .val (.long rm), .second, .val (.int hi), .val (.ref b1), .val (.long uu), .second, .val (.int (1 : Int32)), .val (.int (ps &&& (3 : Int32))), .val (.long ww), .second, .val (.int cc)] [(.int cc), (.ref b1)])) rfl (by rw [hml]; rfl) (Steps.refl _) (argsL := [(.int cc)]) (rest := []) (lenOf pd_4 rfl) rfl (by show 2 * 0 + _ ≤ _; exact Nat.le_of_eq rfl) (hb hby at_232) (fun _ _ => ⟨rfl, e6, (by decide : 1 + 0 ≤ _), (by decide : 2 + 0 ≤ _)⟩)
        dsimp only [Pt.U, Pt.locs, Pt.cells, Pt.slots] at X7 l7 y7 z7 st7 hQ7
        subst l7 y7 z7
        obtain ⟨rfl, Nq7, e7⟩ := hQ7
        have N7 := Fr.app N6 Nq7
        obtain ⟨fs, hr, hrun, hended, hW, hsame⟩ := X7.leave (v := some (.int (1 : Int32))) (fun h => by rw [Bd.returns] at h; cases h)
        refine ⟨_, _, pre0 _ (preA _ (preB _ ?_)), hrun, hended, _, _, rfl, ?_, ⟨_, rfl⟩, hW, hsame.mono (by decide) (by decide)⟩
        · show Steps p.tables e below (T6.setTop (mkF m 132 #[.val (.int pa), .val (.int pb), .val (.int pk), .val (.int ps), .val (.int lo), .val (.long rm), .second, .val (.int hi), .val (.ref b1), .val (.long uu), .second, .val (.int (1 : Int32)), .unset, .unset, .unset, .unset] [])) _
          refine XS.iloadN X6.here hx rfl (hb hby at_132) rfl ?_
          show Steps p.tables e below (T6.setTop (mkF m 133 #[.val (.int pa), .val (.int pb), .val (.int pk), .val (.int ps), .val (.int lo), .val (.long rm), .second, .val (.int hi), .val (.ref b1), .val (.long uu), .second, .val (.int (1 : Int32)), .unset, .unset, .unset, .unset] [(.int ps)])) _
          refine XS.iconst X6.here hx rfl (hb hby at_133) ?_
          show Steps p.tables e below (T6.setTop (mkF m 134 #[.val (.int pa), .val (.int pb), .val (.int pk), .val (.int ps), .val (.int lo), .val (.long rm), .second, .val (.int hi), .val (.ref b1), .val (.long uu), .second, .val (.int (1 : Int32)), .unset, .unset, .unset, .unset] [(.int (3 : Int32)), (.int ps)])) _
          refine XS.iand X6.here hx rfl (hb hby at_134) rfl ?_
          show Steps p.tables e below (T6.setTop (mkF m 135 #[.val (.int pa), .val (.int pb), .val (.int pk), .val (.int ps), .val (.int lo), .val (.long rm), .second, .val (.int hi), .val (.ref b1), .val (.long uu), .second, .val (.int (1 : Int32)), .unset, .unset, .unset, .unset] [(.int (ps &&& (3 : Int32)))])) _
          refine XS.istore X6.here hx rfl (hb hby at_135) rfl (l' := #[.val (.int pa), .val (.int pb), .val (.int pk), .val (.int ps), .val (.int lo), .val (.long rm), .second, .val (.int hi), .val (.ref b1), .val (.long uu), .second, .val (.int (1 : Int32)), .val (.int (ps &&& (3 : Int32))), .unset, .unset, .unset]) rfl ?_
          show Steps p.tables e below (T6.setTop (mkF m 137 #[.val (.int pa), .val (.int pb), .val (.int pk), .val (.int ps), .val (.int lo), .val (.long rm), .second, .val (.int hi), .val (.ref b1), .val (.long uu), .second, .val (.int (1 : Int32)), .val (.int (ps &&& (3 : Int32))), .unset, .unset, .unset] [])) _
          refine XS.iload X6.here hx rfl (hb hby at_137) rfl ?_
          show Steps p.tables e below (T6.setTop (mkF m 139 #[.val (.int pa), .val (.int pb), .val (.int pk), .val (.int ps), .val (.int lo), .val (.long rm), .second, .val (.int hi), .val (.ref b1), .val (.long uu), .second, .val (.int (1 : Int32)), .val (.int (ps &&& (3 : Int32))), .unset, .unset, .unset] [(.int (ps &&& (3 : Int32)))])) _
          refine XS.iconst X6.here hx rfl (hb hby at_139) ?_
          show Steps p.tables e below (T6.setTop (mkF m 140 #[.val (.int pa), .val (.int pb), .val (.int pk), .val (.int ps), .val (.int lo), .val (.long rm), .second, .val (.int hi), .val (.ref b1), .val (.long uu), .second, .val (.int (1 : Int32)), .val (.int (ps &&& (3 : Int32))), .unset, .unset, .unset] [(.int (1 : Int32)), (.int (ps &&& (3 : Int32)))])) _
          refine XS.icmpYes X6.here hx rfl (pc0 := 140) (pc' := 187) rfl (hb hby at_140) rfl (feq hs).2 (by decide) (by decide) ?_
          show Steps p.tables e below (T6.setTop (mkF m 187 #[.val (.int pa), .val (.int pb), .val (.int pk), .val (.int ps), .val (.int lo), .val (.long rm), .second, .val (.int hi), .val (.ref b1), .val (.long uu), .second, .val (.int (1 : Int32)), .val (.int (ps &&& (3 : Int32))), .unset, .unset, .unset] [])) _
          refine XS.iload X6.here hx rfl (hb hby at_187) rfl ?_
          show Steps p.tables e below (T6.setTop (mkF m 189 #[.val (.int pa), .val (.int pb), .val (.int pk), .val (.int ps), .val (.int lo), .val (.long rm), .second, .val (.int hi), .val (.ref b1), .val (.long uu), .second, .val (.int (1 : Int32)), .val (.int (ps &&& (3 : Int32))), .unset, .unset, .unset] [(.int (ps &&& (3 : Int32)))])) _
          refine XS.iconst X6.here hx rfl (hb hby at_189) ?_
          show Steps p.tables e below (T6.setTop (mkF m 190 #[.val (.int pa), .val (.int pb), .val (.int pk), .val (.int ps), .val (.int lo), .val (.long rm), .second, .val (.int hi), .val (.ref b1), .val (.long uu), .second, .val (.int (1 : Int32)), .val (.int (ps &&& (3 : Int32))), .unset, .unset, .unset] [(.int (2 : Int32)), (.int (ps &&& (3 : Int32)))])) _
          refine XS.icmpNo X6.here hx rfl (hb hby at_190) rfl (flt ht).1 ?_
          show Steps p.tables e below (T6.setTop (mkF m 193 #[.val (.int pa), .val (.int pb), .val (.int pk), .val (.int ps), .val (.int lo), .val (.long rm), .second, .val (.int hi), .val (.ref b1), .val (.long uu), .second, .val (.int (1 : Int32)), .val (.int (ps &&& (3 : Int32))), .unset, .unset, .unset] [])) _
          refine XS.iload X6.here hx rfl (hb hby at_193) rfl ?_
          show Steps p.tables e below (T6.setTop (mkF m 195 #[.val (.int pa), .val (.int pb), .val (.int pk), .val (.int ps), .val (.int lo), .val (.long rm), .second, .val (.int hi), .val (.ref b1), .val (.long uu), .second, .val (.int (1 : Int32)), .val (.int (ps &&& (3 : Int32))), .unset, .unset, .unset] [(.int hi)])) _
          refine X6.ldcInt hx hown (mvT hZ (hw _ (List.mem_of_getElem? (i := 0) rfl))) (g := (mkF m 195 #[.val (.int pa), .val (.int pb), .val (.int pk), .val (.int ps), .val (.int lo), .val (.long rm), .second, .val (.int hi), .val (.ref b1), .val (.long uu), .second, .val (.int (1 : Int32)), .val (.int (ps &&& (3 : Int32))), .unset, .unset, .unset] [(.int hi)])) rfl (hb hby at_195) _ ?_
          show Steps p.tables e below (T6.setTop (mkF m 197 #[.val (.int pa), .val (.int pb), .val (.int pk), .val (.int ps), .val (.int lo), .val (.long rm), .second, .val (.int hi), .val (.ref b1), .val (.long uu), .second, .val (.int (1 : Int32)), .val (.int (ps &&& (3 : Int32))), .unset, .unset, .unset] [(.int (2147483647 : Int32)), (.int hi)])) _
          refine XS.icmpNo X6.here hx rfl (hb hby at_197) rfl (tlt hM).2.1 ?_
          show Steps p.tables e below (T6.setTop (mkF m 200 #[.val (.int pa), .val (.int pb), .val (.int pk), .val (.int ps), .val (.int lo), .val (.long rm), .second, .val (.int hi), .val (.ref b1), .val (.long uu), .second, .val (.int (1 : Int32)), .val (.int (ps &&& (3 : Int32))), .unset, .unset, .unset] [])) _
          refine X6.ldc2Long hx hown (mvT hZ (hw _ (List.mem_of_getElem? (i := 1) rfl))) (g := (mkF m 200 #[.val (.int pa), .val (.int pb), .val (.int pk), .val (.int ps), .val (.int lo), .val (.long rm), .second, .val (.int hi), .val (.ref b1), .val (.long uu), .second, .val (.int (1 : Int32)), .val (.int (ps &&& (3 : Int32))), .unset, .unset, .unset] [])) rfl (hb hby at_200) _ ?_
          show Steps p.tables e below (T6.setTop (mkF m 203 #[.val (.int pa), .val (.int pb), .val (.int pk), .val (.int ps), .val (.int lo), .val (.long rm), .second, .val (.int hi), .val (.ref b1), .val (.long uu), .second, .val (.int (1 : Int32)), .val (.int (ps &&& (3 : Int32))), .unset, .unset, .unset] [(.long (2147483647 : Int64))])) _
          refine XS.iload X6.here hx rfl (hb hby at_203) rfl ?_
          show Steps p.tables e below (T6.setTop (mkF m 205 #[.val (.int pa), .val (.int pb), .val (.int pk), .val (.int ps), .val (.int lo), .val (.long rm), .second, .val (.int hi), .val (.ref b1), .val (.long uu), .second, .val (.int (1 : Int32)), .val (.int (ps &&& (3 : Int32))), .unset, .unset, .unset] [(.int hi), (.long (2147483647 : Int64))])) _
          refine XS.i2l X6.here hx rfl (hb hby at_205) rfl ?_
          show Steps p.tables e below (T6.setTop (mkF m 206 #[.val (.int pa), .val (.int pb), .val (.int pk), .val (.int ps), .val (.int lo), .val (.long rm), .second, .val (.int hi), .val (.ref b1), .val (.long uu), .second, .val (.int (1 : Int32)), .val (.int (ps &&& (3 : Int32))), .unset, .unset, .unset] [(.long hi.toInt64), (.long (2147483647 : Int64))])) _
          refine XS.lsub X6.here hx rfl (hb hby at_206) rfl ?_
          show Steps p.tables e below (T6.setTop (mkF m 207 #[.val (.int pa), .val (.int pb), .val (.int pk), .val (.int ps), .val (.int lo), .val (.long rm), .second, .val (.int hi), .val (.ref b1), .val (.long uu), .second, .val (.int (1 : Int32)), .val (.int (ps &&& (3 : Int32))), .unset, .unset, .unset] [(.long ((2147483647 : Int64) - hi.toInt64))])) _
          rw [← hww]
          show Steps p.tables e below (T6.setTop (mkF m 207 #[.val (.int pa), .val (.int pb), .val (.int pk), .val (.int ps), .val (.int lo), .val (.long rm), .second, .val (.int hi), .val (.ref b1), .val (.long uu), .second, .val (.int (1 : Int32)), .val (.int (ps &&& (3 : Int32))), .unset, .unset, .unset] [(.long ww)])) _
          refine XS.lstore X6.here hx rfl (hb hby at_207) rfl (l' := #[.val (.int pa), .val (.int pb), .val (.int pk), .val (.int ps), .val (.int lo), .val (.long rm), .second, .val (.int hi), .val (.ref b1), .val (.long uu), .second, .val (.int (1 : Int32)), .val (.int (ps &&& (3 : Int32))), .val (.long ww), .second, .unset]) rfl ?_
          show Steps p.tables e below (T6.setTop (mkF m 209 #[.val (.int pa), .val (.int pb), .val (.int pk), .val (.int ps), .val (.int lo), .val (.long rm), .second, .val (.int hi), .val (.ref b1), .val (.long uu), .second, .val (.int (1 : Int32)), .val (.int (ps &&& (3 : Int32))), .val (.long ww), .second, .unset] [])) _
          refine XS.iload X6.here hx rfl (hb hby at_209) rfl ?_
          show Steps p.tables e below (T6.setTop (mkF m 211 #[.val (.int pa), .val (.int pb), .val (.int pk), .val (.int ps), .val (.int lo), .val (.long rm), .second, .val (.int hi), .val (.ref b1), .val (.long uu), .second, .val (.int (1 : Int32)), .val (.int (ps &&& (3 : Int32))), .val (.long ww), .second, .unset] [(.int hi)])) _
          refine XS.i2l X6.here hx rfl (hb hby at_211) rfl ?_
          show Steps p.tables e below (T6.setTop (mkF m 212 #[.val (.int pa), .val (.int pb), .val (.int pk), .val (.int ps), .val (.int lo), .val (.long rm), .second, .val (.int hi), .val (.ref b1), .val (.long uu), .second, .val (.int (1 : Int32)), .val (.int (ps &&& (3 : Int32))), .val (.long ww), .second, .unset] [(.long hi.toInt64)])) _
          refine XS.lconst X6.here hx rfl (hb hby at_212) ?_
          show Steps p.tables e below (T6.setTop (mkF m 213 #[.val (.int pa), .val (.int pb), .val (.int pk), .val (.int ps), .val (.int lo), .val (.long rm), .second, .val (.int hi), .val (.ref b1), .val (.long uu), .second, .val (.int (1 : Int32)), .val (.int (ps &&& (3 : Int32))), .val (.long ww), .second, .unset] [(.long (1 : Int64)), (.long hi.toInt64)])) _
          refine XS.ladd X6.here hx rfl (hb hby at_213) rfl ?_
          show Steps p.tables e below (T6.setTop (mkF m 214 #[.val (.int pa), .val (.int pb), .val (.int pk), .val (.int ps), .val (.int lo), .val (.long rm), .second, .val (.int hi), .val (.ref b1), .val (.long uu), .second, .val (.int (1 : Int32)), .val (.int (ps &&& (3 : Int32))), .val (.long ww), .second, .unset] [(.long (hi.toInt64 + (1 : Int64)))])) _
          refine XS.lload X6.here hx rfl (hb hby at_214) rfl ?_
          show Steps p.tables e below (T6.setTop (mkF m 216 #[.val (.int pa), .val (.int pb), .val (.int pk), .val (.int ps), .val (.int lo), .val (.long rm), .second, .val (.int hi), .val (.ref b1), .val (.long uu), .second, .val (.int (1 : Int32)), .val (.int (ps &&& (3 : Int32))), .val (.long ww), .second, .unset] [(.long uu), (.long (hi.toInt64 + (1 : Int64)))])) _
          refine XS.lload X6.here hx rfl (hb hby at_216) rfl ?_
          show Steps p.tables e below (T6.setTop (mkF m 218 #[.val (.int pa), .val (.int pb), .val (.int pk), .val (.int ps), .val (.int lo), .val (.long rm), .second, .val (.int hi), .val (.ref b1), .val (.long uu), .second, .val (.int (1 : Int32)), .val (.int (ps &&& (3 : Int32))), .val (.long ww), .second, .unset] [(.long ww), (.long uu), (.long (hi.toInt64 + (1 : Int64)))])) _
          refine XS.lrem X6.here hx rfl (hb hby at_218) rfl (own_nz (by omega)) ?_
          show Steps p.tables e below (T6.setTop (mkF m 219 #[.val (.int pa), .val (.int pb), .val (.int pk), .val (.int ps), .val (.int lo), .val (.long rm), .second, .val (.int hi), .val (.ref b1), .val (.long uu), .second, .val (.int (1 : Int32)), .val (.int (ps &&& (3 : Int32))), .val (.long ww), .second, .unset] [(.long (uu - uu / ww * ww)), (.long (hi.toInt64 + (1 : Int64)))])) _
          refine XS.ladd X6.here hx rfl (hb hby at_219) rfl ?_
          show Steps p.tables e below (T6.setTop (mkF m 220 #[.val (.int pa), .val (.int pb), .val (.int pk), .val (.int ps), .val (.int lo), .val (.long rm), .second, .val (.int hi), .val (.ref b1), .val (.long uu), .second, .val (.int (1 : Int32)), .val (.int (ps &&& (3 : Int32))), .val (.long ww), .second, .unset] [(.long ((hi.toInt64 + (1 : Int64)) + (uu - uu / ww * ww)))])) _
          refine XS.l2i X6.here hx rfl (hb hby at_220) rfl ?_
          show Steps p.tables e below (T6.setTop (mkF m 221 #[.val (.int pa), .val (.int pb), .val (.int pk), .val (.int ps), .val (.int lo), .val (.long rm), .second, .val (.int hi), .val (.ref b1), .val (.long uu), .second, .val (.int (1 : Int32)), .val (.int (ps &&& (3 : Int32))), .val (.long ww), .second, .unset] [(.int (((hi.toInt64 + (1 : Int64)) + (uu - uu / ww * ww)).toInt32))])) _
          rw [← hcc]
          show Steps p.tables e below (T6.setTop (mkF m 221 #[.val (.int pa), .val (.int pb), .val (.int pk), .val (.int ps), .val (.int lo), .val (.long rm), .second, .val (.int hi), .val (.ref b1), .val (.long uu), .second, .val (.int (1 : Int32)), .val (.int (ps &&& (3 : Int32))), .val (.long ww), .second, .unset] [(.int cc)])) _
          refine XS.istore X6.here hx rfl (hb hby at_221) rfl (l' := #[.val (.int pa), .val (.int pb), .val (.int pk), .val (.int ps), .val (.int lo), .val (.long rm), .second, .val (.int hi), .val (.ref b1), .val (.long uu), .second, .val (.int (1 : Int32)), .val (.int (ps &&& (3 : Int32))), .val (.long ww), .second, .val (.int cc)]) rfl ?_
          show Steps p.tables e below (T6.setTop (mkF m 223 #[.val (.int pa), .val (.int pb), .val (.int pk), .val (.int ps), .val (.int lo), .val (.long rm), .second, .val (.int hi), .val (.ref b1), .val (.long uu), .second, .val (.int (1 : Int32)), .val (.int (ps &&& (3 : Int32))), .val (.long ww), .second, .val (.int cc)] [])) _
          refine XS.iload X6.here hx rfl (hb hby at_223) rfl ?_
          show Steps p.tables e below (T6.setTop (mkF m 225 #[.val (.int pa), .val (.int pb), .val (.int pk), .val (.int ps), .val (.int lo), .val (.long rm), .second, .val (.int hi), .val (.ref b1), .val (.long uu), .second, .val (.int (1 : Int32)), .val (.int (ps &&& (3 : Int32))), .val (.long ww), .second, .val (.int cc)] [(.int (1 : Int32))])) _
          refine XS.ifNo X6.here hx rfl (hb hby at_225) rfl ((if0 _ _).trans (feq (by decide : ¬ ((1 : Int32) = (0 : Int32)))).1) ?_
          show Steps p.tables e below (T6.setTop (mkF m 228 #[.val (.int pa), .val (.int pb), .val (.int pk), .val (.int ps), .val (.int lo), .val (.long rm), .second, .val (.int hi), .val (.ref b1), .val (.long uu), .second, .val (.int (1 : Int32)), .val (.int (ps &&& (3 : Int32))), .val (.long ww), .second, .val (.int cc)] [])) _
          refine XS.aload X6.here hx rfl (hb hby at_228) rfl rfl ?_
          show Steps p.tables e below (T6.setTop (mkF m 230 #[.val (.int pa), .val (.int pb), .val (.int pk), .val (.int ps), .val (.int lo), .val (.long rm), .second, .val (.int hi), .val (.ref b1), .val (.long uu), .second, .val (.int (1 : Int32)), .val (.int (ps &&& (3 : Int32))), .val (.long ww), .second, .val (.int cc)] [(.ref b1)])) _
          refine XS.iload X6.here hx rfl (hb hby at_230) rfl ?_
          show Steps p.tables e below (T6.setTop (mkF m 232 #[.val (.int pa), .val (.int pb), .val (.int pk), .val (.int ps), .val (.int lo), .val (.long rm), .second, .val (.int hi), .val (.ref b1), .val (.long uu), .second, .val (.int (1 : Int32)), .val (.int (ps &&& (3 : Int32))), .val (.long ww), .second, .val (.int cc)] [(.int cc), (.ref b1)])) _
          refine st7.trans ?_
          show Steps p.tables e below (T7.setTop (mkF m 235 #[.val (.int pa), .val (.int pb), .val (.int pk), .val (.int ps), .val (.int lo), .val (.long rm), .second, .val (.int hi), .val (.ref b1), .val (.long uu), .second, .val (.int (1 : Int32)), .val (.int (ps &&& (3 : Int32))), .val (.long ww), .second, .val (.int cc)] [(.int (0 : Int32))])) _
          refine XS.ifNo X7.here hx rfl (hb hby at_235) rfl ((if0 _ _).trans (teq (by decide : (0 : Int32) = (0 : Int32))).2) ?_
          show Steps p.tables e below (T7.setTop (mkF m 238 #[.val (.int pa), .val (.int pb), .val (.int pk), .val (.int ps), .val (.int lo), .val (.long rm), .second, .val (.int hi), .val (.ref b1), .val (.long uu), .second, .val (.int (1 : Int32)), .val (.int (ps &&& (3 : Int32))), .val (.long ww), .second, .val (.int cc)] [])) _
          refine XS.iconst X7.here hx rfl (hb hby at_238) ?_
          show Steps p.tables e below (T7.setTop (mkF m 239 #[.val (.int pa), .val (.int pb), .val (.int pk), .val (.int ps), .val (.int lo), .val (.long rm), .second, .val (.int hi), .val (.ref b1), .val (.long uu), .second, .val (.int (1 : Int32)), .val (.int (ps &&& (3 : Int32))), .val (.long ww), .second, .val (.int cc)] [(.int (1 : Int32))])) _
          refine XS.goto X7.here hx rfl (pc0 := 239) (pc' := 243) rfl (hb hby at_239) (by decide) (by decide) ?_
          show Steps p.tables e below (T7.setTop (mkF m 243 #[.val (.int pa), .val (.int pb), .val (.int pk), .val (.int ps), .val (.int lo), .val (.long rm), .second, .val (.int hi), .val (.ref b1), .val (.long uu), .second, .val (.int (1 : Int32)), .val (.int (ps &&& (3 : Int32))), .val (.long ww), .second, .val (.int cc)] [(.int (1 : Int32))])) _
          exact retN X7 hx (t := .boolean) Bd.returns (by simp) (hb hby at_243) hr
        · show Q0 Z pa pb pk ps h0 n0 _ T7.heap _
          rw [e7]
          exact ⟨rfl, N7⟩
  · have preB : ∀ t, Steps p.tables e below (T5.setTop (mkF m 132 #[.val (.int pa), .val (.int pb), .val (.int pk), .val (.int ps), .val (.int lo), .val (.long rm), .second, .val (.int hi), .val (.ref b1), .val (.long uu), .second, .val (.int (1 : Int32)), .unset, .unset, .unset, .unset] [])) t → Steps p.tables e below (T5.setTop (mkF m 105 #[.val (.int pa), .val (.int pb), .val (.int pk), .val (.int ps), .val (.int lo), .val (.long rm), .second, .val (.int hi), .val (.ref b1), .val (.long uu), .second, .val (.int (1 : Int32)), .unset, .unset, .unset, .unset] [(.int (2147483647 : Int32)), (.int hi)])) t := by
      intro t k
      show Steps p.tables e below (T5.setTop (mkF m 105 #[.val (.int pa), .val (.int pb), .val (.int pk), .val (.int ps), .val (.int lo), .val (.long rm), .second, .val (.int hi), .val (.ref b1), .val (.long uu), .second, .val (.int (1 : Int32)), .unset, .unset, .unset, .unset] [(.int (2147483647 : Int32)), (.int hi)])) _
      refine XS.icmpYes X5.here hx rfl (pc0 := 105) (pc' := 132) rfl (hb hby at_105) rfl (flt hM).2.1 (by decide) (by decide) ?_
      show Steps p.tables e below (T5.setTop (mkF m 132 #[.val (.int pa), .val (.int pb), .val (.int pk), .val (.int ps), .val (.int lo), .val (.long rm), .second, .val (.int hi), .val (.ref b1), .val (.long uu), .second, .val (.int (1 : Int32)), .unset, .unset, .unset, .unset] [])) _
      exact k
    by_cases hs : (ps &&& (3 : Int32)) = (1 : Int32)
    · obtain ⟨ww, hww⟩ : ∃ z, z = (lo.toInt64 - (-2147483648 : Int64)) := ⟨_, rfl⟩
      have b7 : ww.toInt = lo.toInt + 2147483648 := by rw [hww]; exact own_bel bL
      obtain ⟨cc, hcc⟩ : ∃ z, z = ((lo.toInt64 - (1 : Int64)) - (uu - uu / ww * ww)).toInt32 := ⟨_, rfl⟩
      have b8 : cc.toInt < lo.toInt := by rw [hcc]; exact own_c1 bL b7 b5
      obtain ⟨cq7, kq7, qa7, qb7, qc7⟩ := isOf hZ e5 Ex2
      obtain ⟨_, _, ⟨T7, L7, k7, n7⟩, -, X7, ⟨Lc7, hQ7, l7, y7, z7⟩, st7⟩ := X5.virtualBack hx (y := (⟨"com/example/deferral_ledger/deferralledger/plan/InstallmentYears", "allow", "(I)Z"⟩ : MethodName)) (z := (⟨"com/example/deferral_ledger/deferralledger/plan/InstallmentYears", "allow", "(I)Z"⟩ : MethodName)) hown (mvT hZ (hw _ (List.mem_of_getElem? (i := 21) rfl))) (mvT hZ (hw _ (List.mem_of_getElem? (i := 22) rfl))) (notFace_of_selects (args := #[]) (mvT hZ (hw _ (List.mem_of_getElem? (i := 24) rfl)))) (mvT hZ (hw _ (List.mem_of_getElem? (i := 24) rfl))) (mvT hZ (hw _ (List.mem_of_getElem? (i := 23) rfl))) (by decide) (backOf (W := 0) (rm4b l Z a0 hw [] b1 cc lo hh2 n0 Z2 Fp2 (own_lt (by omega))) hZ (hw _ (List.mem_of_getElem? (i := 25) rfl)) (hw _ (List.mem_of_getElem? (i := 5) rfl)) (by decide) (by decide)) qa7 qc7 (g := (mkF m 175 #[.val (.int pa), .val (.int pb), .val (.int pk), .val (.int ps), .val (.int lo), .val (.long rm), .second, .val (.int hi), .val (.ref b1), .val (.long uu), .second, .val (.int (1 : Int32)), .val (.int (ps &&& (3 : Int32))), .val (.long ww), .second, .val (.int cc)] [(.int cc), (.ref b1)])) rfl (by rw [hml]; rfl) (Steps.refl _) (argsL := [(.int cc)]) (rest := []) (lenOf pd_4 rfl) rfl (by show 2 * 0 + _ ≤ _; exact Nat.le_of_eq rfl) (hb hby at_175) (fun _ _ => ⟨rfl, e5, (by decide : 1 + 0 ≤ _), (by decide : 2 + 0 ≤ _)⟩)
      dsimp only [Pt.U, Pt.locs, Pt.cells, Pt.slots] at X7 l7 y7 z7 st7 hQ7
      subst l7 y7 z7
      obtain ⟨rfl, Nq7, e7⟩ := hQ7
      have N7 := Fr.app N5 Nq7
      obtain ⟨fs, hr, hrun, hended, hW, hsame⟩ := X7.leave (v := some (.int (1 : Int32))) (fun h => by rw [Bd.returns] at h; cases h)
      refine ⟨_, _, pre0 _ (preA _ (preB _ ?_)), hrun, hended, _, _, rfl, ?_, ⟨_, rfl⟩, hW, hsame.mono (by decide) (by decide)⟩
      · show Steps p.tables e below (T5.setTop (mkF m 132 #[.val (.int pa), .val (.int pb), .val (.int pk), .val (.int ps), .val (.int lo), .val (.long rm), .second, .val (.int hi), .val (.ref b1), .val (.long uu), .second, .val (.int (1 : Int32)), .unset, .unset, .unset, .unset] [])) _
        refine XS.iloadN X5.here hx rfl (hb hby at_132) rfl ?_
        show Steps p.tables e below (T5.setTop (mkF m 133 #[.val (.int pa), .val (.int pb), .val (.int pk), .val (.int ps), .val (.int lo), .val (.long rm), .second, .val (.int hi), .val (.ref b1), .val (.long uu), .second, .val (.int (1 : Int32)), .unset, .unset, .unset, .unset] [(.int ps)])) _
        refine XS.iconst X5.here hx rfl (hb hby at_133) ?_
        show Steps p.tables e below (T5.setTop (mkF m 134 #[.val (.int pa), .val (.int pb), .val (.int pk), .val (.int ps), .val (.int lo), .val (.long rm), .second, .val (.int hi), .val (.ref b1), .val (.long uu), .second, .val (.int (1 : Int32)), .unset, .unset, .unset, .unset] [(.int (3 : Int32)), (.int ps)])) _
        refine XS.iand X5.here hx rfl (hb hby at_134) rfl ?_
        show Steps p.tables e below (T5.setTop (mkF m 135 #[.val (.int pa), .val (.int pb), .val (.int pk), .val (.int ps), .val (.int lo), .val (.long rm), .second, .val (.int hi), .val (.ref b1), .val (.long uu), .second, .val (.int (1 : Int32)), .unset, .unset, .unset, .unset] [(.int (ps &&& (3 : Int32)))])) _
        refine XS.istore X5.here hx rfl (hb hby at_135) rfl (l' := #[.val (.int pa), .val (.int pb), .val (.int pk), .val (.int ps), .val (.int lo), .val (.long rm), .second, .val (.int hi), .val (.ref b1), .val (.long uu), .second, .val (.int (1 : Int32)), .val (.int (ps &&& (3 : Int32))), .unset, .unset, .unset]) rfl ?_
        show Steps p.tables e below (T5.setTop (mkF m 137 #[.val (.int pa), .val (.int pb), .val (.int pk), .val (.int ps), .val (.int lo), .val (.long rm), .second, .val (.int hi), .val (.ref b1), .val (.long uu), .second, .val (.int (1 : Int32)), .val (.int (ps &&& (3 : Int32))), .unset, .unset, .unset] [])) _
        refine XS.iload X5.here hx rfl (hb hby at_137) rfl ?_
        show Steps p.tables e below (T5.setTop (mkF m 139 #[.val (.int pa), .val (.int pb), .val (.int pk), .val (.int ps), .val (.int lo), .val (.long rm), .second, .val (.int hi), .val (.ref b1), .val (.long uu), .second, .val (.int (1 : Int32)), .val (.int (ps &&& (3 : Int32))), .unset, .unset, .unset] [(.int (ps &&& (3 : Int32)))])) _
        refine XS.iconst X5.here hx rfl (hb hby at_139) ?_
        show Steps p.tables e below (T5.setTop (mkF m 140 #[.val (.int pa), .val (.int pb), .val (.int pk), .val (.int ps), .val (.int lo), .val (.long rm), .second, .val (.int hi), .val (.ref b1), .val (.long uu), .second, .val (.int (1 : Int32)), .val (.int (ps &&& (3 : Int32))), .unset, .unset, .unset] [(.int (1 : Int32)), (.int (ps &&& (3 : Int32)))])) _
        refine XS.icmpNo X5.here hx rfl (hb hby at_140) rfl (teq hs).2 ?_
        show Steps p.tables e below (T5.setTop (mkF m 143 #[.val (.int pa), .val (.int pb), .val (.int pk), .val (.int ps), .val (.int lo), .val (.long rm), .second, .val (.int hi), .val (.ref b1), .val (.long uu), .second, .val (.int (1 : Int32)), .val (.int (ps &&& (3 : Int32))), .unset, .unset, .unset] [])) _
        refine XS.iload X5.here hx rfl (hb hby at_143) rfl ?_
        show Steps p.tables e below (T5.setTop (mkF m 145 #[.val (.int pa), .val (.int pb), .val (.int pk), .val (.int ps), .val (.int lo), .val (.long rm), .second, .val (.int hi), .val (.ref b1), .val (.long uu), .second, .val (.int (1 : Int32)), .val (.int (ps &&& (3 : Int32))), .unset, .unset, .unset] [(.int lo)])) _
        refine XS.i2l X5.here hx rfl (hb hby at_145) rfl ?_
        show Steps p.tables e below (T5.setTop (mkF m 146 #[.val (.int pa), .val (.int pb), .val (.int pk), .val (.int ps), .val (.int lo), .val (.long rm), .second, .val (.int hi), .val (.ref b1), .val (.long uu), .second, .val (.int (1 : Int32)), .val (.int (ps &&& (3 : Int32))), .unset, .unset, .unset] [(.long lo.toInt64)])) _
        refine X5.ldc2Long hx hown (mvT hZ (hw _ (List.mem_of_getElem? (i := 26) rfl))) (g := (mkF m 146 #[.val (.int pa), .val (.int pb), .val (.int pk), .val (.int ps), .val (.int lo), .val (.long rm), .second, .val (.int hi), .val (.ref b1), .val (.long uu), .second, .val (.int (1 : Int32)), .val (.int (ps &&& (3 : Int32))), .unset, .unset, .unset] [(.long lo.toInt64)])) rfl (hb hby at_146) _ ?_
        show Steps p.tables e below (T5.setTop (mkF m 149 #[.val (.int pa), .val (.int pb), .val (.int pk), .val (.int ps), .val (.int lo), .val (.long rm), .second, .val (.int hi), .val (.ref b1), .val (.long uu), .second, .val (.int (1 : Int32)), .val (.int (ps &&& (3 : Int32))), .unset, .unset, .unset] [(.long (-2147483648 : Int64)), (.long lo.toInt64)])) _
        refine XS.lsub X5.here hx rfl (hb hby at_149) rfl ?_
        show Steps p.tables e below (T5.setTop (mkF m 150 #[.val (.int pa), .val (.int pb), .val (.int pk), .val (.int ps), .val (.int lo), .val (.long rm), .second, .val (.int hi), .val (.ref b1), .val (.long uu), .second, .val (.int (1 : Int32)), .val (.int (ps &&& (3 : Int32))), .unset, .unset, .unset] [(.long (lo.toInt64 - (-2147483648 : Int64)))])) _
        rw [← hww]
        show Steps p.tables e below (T5.setTop (mkF m 150 #[.val (.int pa), .val (.int pb), .val (.int pk), .val (.int ps), .val (.int lo), .val (.long rm), .second, .val (.int hi), .val (.ref b1), .val (.long uu), .second, .val (.int (1 : Int32)), .val (.int (ps &&& (3 : Int32))), .unset, .unset, .unset] [(.long ww)])) _
        refine XS.lstore X5.here hx rfl (hb hby at_150) rfl (l' := #[.val (.int pa), .val (.int pb), .val (.int pk), .val (.int ps), .val (.int lo), .val (.long rm), .second, .val (.int hi), .val (.ref b1), .val (.long uu), .second, .val (.int (1 : Int32)), .val (.int (ps &&& (3 : Int32))), .val (.long ww), .second, .unset]) rfl ?_
        show Steps p.tables e below (T5.setTop (mkF m 152 #[.val (.int pa), .val (.int pb), .val (.int pk), .val (.int ps), .val (.int lo), .val (.long rm), .second, .val (.int hi), .val (.ref b1), .val (.long uu), .second, .val (.int (1 : Int32)), .val (.int (ps &&& (3 : Int32))), .val (.long ww), .second, .unset] [])) _
        refine XS.iload X5.here hx rfl (hb hby at_152) rfl ?_
        show Steps p.tables e below (T5.setTop (mkF m 154 #[.val (.int pa), .val (.int pb), .val (.int pk), .val (.int ps), .val (.int lo), .val (.long rm), .second, .val (.int hi), .val (.ref b1), .val (.long uu), .second, .val (.int (1 : Int32)), .val (.int (ps &&& (3 : Int32))), .val (.long ww), .second, .unset] [(.int lo)])) _
        refine XS.i2l X5.here hx rfl (hb hby at_154) rfl ?_
        show Steps p.tables e below (T5.setTop (mkF m 155 #[.val (.int pa), .val (.int pb), .val (.int pk), .val (.int ps), .val (.int lo), .val (.long rm), .second, .val (.int hi), .val (.ref b1), .val (.long uu), .second, .val (.int (1 : Int32)), .val (.int (ps &&& (3 : Int32))), .val (.long ww), .second, .unset] [(.long lo.toInt64)])) _
        refine XS.lconst X5.here hx rfl (hb hby at_155) ?_
        show Steps p.tables e below (T5.setTop (mkF m 156 #[.val (.int pa), .val (.int pb), .val (.int pk), .val (.int ps), .val (.int lo), .val (.long rm), .second, .val (.int hi), .val (.ref b1), .val (.long uu), .second, .val (.int (1 : Int32)), .val (.int (ps &&& (3 : Int32))), .val (.long ww), .second, .unset] [(.long (1 : Int64)), (.long lo.toInt64)])) _
        refine XS.lsub X5.here hx rfl (hb hby at_156) rfl ?_
        show Steps p.tables e below (T5.setTop (mkF m 157 #[.val (.int pa), .val (.int pb), .val (.int pk), .val (.int ps), .val (.int lo), .val (.long rm), .second, .val (.int hi), .val (.ref b1), .val (.long uu), .second, .val (.int (1 : Int32)), .val (.int (ps &&& (3 : Int32))), .val (.long ww), .second, .unset] [(.long (lo.toInt64 - (1 : Int64)))])) _
        refine XS.lload X5.here hx rfl (hb hby at_157) rfl ?_
        show Steps p.tables e below (T5.setTop (mkF m 159 #[.val (.int pa), .val (.int pb), .val (.int pk), .val (.int ps), .val (.int lo), .val (.long rm), .second, .val (.int hi), .val (.ref b1), .val (.long uu), .second, .val (.int (1 : Int32)), .val (.int (ps &&& (3 : Int32))), .val (.long ww), .second, .unset] [(.long uu), (.long (lo.toInt64 - (1 : Int64)))])) _
        refine XS.lload X5.here hx rfl (hb hby at_159) rfl ?_
        show Steps p.tables e below (T5.setTop (mkF m 161 #[.val (.int pa), .val (.int pb), .val (.int pk), .val (.int ps), .val (.int lo), .val (.long rm), .second, .val (.int hi), .val (.ref b1), .val (.long uu), .second, .val (.int (1 : Int32)), .val (.int (ps &&& (3 : Int32))), .val (.long ww), .second, .unset] [(.long ww), (.long uu), (.long (lo.toInt64 - (1 : Int64)))])) _
        refine XS.lrem X5.here hx rfl (hb hby at_161) rfl (own_nz (by omega)) ?_
        show Steps p.tables e below (T5.setTop (mkF m 162 #[.val (.int pa), .val (.int pb), .val (.int pk), .val (.int ps), .val (.int lo), .val (.long rm), .second, .val (.int hi), .val (.ref b1), .val (.long uu), .second, .val (.int (1 : Int32)), .val (.int (ps &&& (3 : Int32))), .val (.long ww), .second, .unset] [(.long (uu - uu / ww * ww)), (.long (lo.toInt64 - (1 : Int64)))])) _
        refine XS.lsub X5.here hx rfl (hb hby at_162) rfl ?_
        show Steps p.tables e below (T5.setTop (mkF m 163 #[.val (.int pa), .val (.int pb), .val (.int pk), .val (.int ps), .val (.int lo), .val (.long rm), .second, .val (.int hi), .val (.ref b1), .val (.long uu), .second, .val (.int (1 : Int32)), .val (.int (ps &&& (3 : Int32))), .val (.long ww), .second, .unset] [(.long ((lo.toInt64 - (1 : Int64)) - (uu - uu / ww * ww)))])) _
        refine XS.l2i X5.here hx rfl (hb hby at_163) rfl ?_
        show Steps p.tables e below (T5.setTop (mkF m 164 #[.val (.int pa), .val (.int pb), .val (.int pk), .val (.int ps), .val (.int lo), .val (.long rm), .second, .val (.int hi), .val (.ref b1), .val (.long uu), .second, .val (.int (1 : Int32)), .val (.int (ps &&& (3 : Int32))), .val (.long ww), .second, .unset] [(.int (((lo.toInt64 - (1 : Int64)) - (uu - uu / ww * ww)).toInt32))])) _
        rw [← hcc]
        show Steps p.tables e below (T5.setTop (mkF m 164 #[.val (.int pa), .val (.int pb), .val (.int pk), .val (.int ps), .val (.int lo), .val (.long rm), .second, .val (.int hi), .val (.ref b1), .val (.long uu), .second, .val (.int (1 : Int32)), .val (.int (ps &&& (3 : Int32))), .val (.long ww), .second, .unset] [(.int cc)])) _
        refine XS.istore X5.here hx rfl (hb hby at_164) rfl (l' := #[.val (.int pa), .val (.int pb), .val (.int pk), .val (.int ps), .val (.int lo), .val (.long rm), .second, .val (.int hi), .val (.ref b1), .val (.long uu), .second, .val (.int (1 : Int32)), .val (.int (ps &&& (3 : Int32))), .val (.long ww), .second, .val (.int cc)]) rfl ?_
        show Steps p.tables e below (T5.setTop (mkF m 166 #[.val (.int pa), .val (.int pb), .val (.int pk), .val (.int ps), .val (.int lo), .val (.long rm), .second, .val (.int hi), .val (.ref b1), .val (.long uu), .second, .val (.int (1 : Int32)), .val (.int (ps &&& (3 : Int32))), .val (.long ww), .second, .val (.int cc)] [])) _
        refine XS.iload X5.here hx rfl (hb hby at_166) rfl ?_
        show Steps p.tables e below (T5.setTop (mkF m 168 #[.val (.int pa), .val (.int pb), .val (.int pk), .val (.int ps), .val (.int lo), .val (.long rm), .second, .val (.int hi), .val (.ref b1), .val (.long uu), .second, .val (.int (1 : Int32)), .val (.int (ps &&& (3 : Int32))), .val (.long ww), .second, .val (.int cc)] [(.int (1 : Int32))])) _
        refine XS.ifNo X5.here hx rfl (hb hby at_168) rfl ((if0 _ _).trans (feq (by decide : ¬ ((1 : Int32) = (0 : Int32)))).1) ?_
        show Steps p.tables e below (T5.setTop (mkF m 171 #[.val (.int pa), .val (.int pb), .val (.int pk), .val (.int ps), .val (.int lo), .val (.long rm), .second, .val (.int hi), .val (.ref b1), .val (.long uu), .second, .val (.int (1 : Int32)), .val (.int (ps &&& (3 : Int32))), .val (.long ww), .second, .val (.int cc)] [])) _
        refine XS.aload X5.here hx rfl (hb hby at_171) rfl rfl ?_
        show Steps p.tables e below (T5.setTop (mkF m 173 #[.val (.int pa), .val (.int pb), .val (.int pk), .val (.int ps), .val (.int lo), .val (.long rm), .second, .val (.int hi), .val (.ref b1), .val (.long uu), .second, .val (.int (1 : Int32)), .val (.int (ps &&& (3 : Int32))), .val (.long ww), .second, .val (.int cc)] [(.ref b1)])) _
        refine XS.iload X5.here hx rfl (hb hby at_173) rfl ?_
        show Steps p.tables e below (T5.setTop (mkF m 175 #[.val (.int pa), .val (.int pb), .val (.int pk), .val (.int ps), .val (.int lo), .val (.long rm), .second, .val (.int hi), .val (.ref b1), .val (.long uu), .second, .val (.int (1 : Int32)), .val (.int (ps &&& (3 : Int32))), .val (.long ww), .second, .val (.int cc)] [(.int cc), (.ref b1)])) _
        refine st7.trans ?_
        show Steps p.tables e below (T7.setTop (mkF m 178 #[.val (.int pa), .val (.int pb), .val (.int pk), .val (.int ps), .val (.int lo), .val (.long rm), .second, .val (.int hi), .val (.ref b1), .val (.long uu), .second, .val (.int (1 : Int32)), .val (.int (ps &&& (3 : Int32))), .val (.long ww), .second, .val (.int cc)] [(.int (0 : Int32))])) _
        refine XS.ifNo X7.here hx rfl (hb hby at_178) rfl ((if0 _ _).trans (teq (by decide : (0 : Int32) = (0 : Int32))).2) ?_
        show Steps p.tables e below (T7.setTop (mkF m 181 #[.val (.int pa), .val (.int pb), .val (.int pk), .val (.int ps), .val (.int lo), .val (.long rm), .second, .val (.int hi), .val (.ref b1), .val (.long uu), .second, .val (.int (1 : Int32)), .val (.int (ps &&& (3 : Int32))), .val (.long ww), .second, .val (.int cc)] [])) _
        refine XS.iconst X7.here hx rfl (hb hby at_181) ?_
        show Steps p.tables e below (T7.setTop (mkF m 182 #[.val (.int pa), .val (.int pb), .val (.int pk), .val (.int ps), .val (.int lo), .val (.long rm), .second, .val (.int hi), .val (.ref b1), .val (.long uu), .second, .val (.int (1 : Int32)), .val (.int (ps &&& (3 : Int32))), .val (.long ww), .second, .val (.int cc)] [(.int (1 : Int32))])) _
        refine XS.goto X7.here hx rfl (pc0 := 182) (pc' := 186) rfl (hb hby at_182) (by decide) (by decide) ?_
        show Steps p.tables e below (T7.setTop (mkF m 186 #[.val (.int pa), .val (.int pb), .val (.int pk), .val (.int ps), .val (.int lo), .val (.long rm), .second, .val (.int hi), .val (.ref b1), .val (.long uu), .second, .val (.int (1 : Int32)), .val (.int (ps &&& (3 : Int32))), .val (.long ww), .second, .val (.int cc)] [(.int (1 : Int32))])) _
        exact retN X7 hx (t := .boolean) Bd.returns (by simp) (hb hby at_186) hr
      · show Q0 Z pa pb pk ps h0 n0 _ T7.heap _
        rw [e7]
        exact ⟨rfl, N7⟩
    · by_cases ht : (ps &&& (3 : Int32)) < (2 : Int32)
      · obtain ⟨ww, hww⟩ : ∃ z, z = ((hi.toInt64 - lo.toInt64) + (1 : Int64)) := ⟨_, rfl⟩
        have b7 : ww.toInt = hi.toInt - lo.toInt + 1 := by rw [hww]; exact own_wid b4
        obtain ⟨cc, hcc⟩ : ∃ z, z = (lo.toInt64 + (uu - uu / ww * ww)).toInt32 := ⟨_, rfl⟩
        have b8 : lo.toInt ≤ cc.toInt ∧ cc.toInt ≤ hi.toInt := by rw [hcc]; exact own_c3 bL b4 b7 b5
        obtain ⟨cq7, kq7, qa7, qb7, qc7⟩ := isOf hZ e5 Ex2
        obtain ⟨_, _, ⟨T7, L7, k7, n7⟩, -, X7, ⟨Lc7, hQ7, l7, y7, z7⟩, st7⟩ := X5.virtualBack hx (y := (⟨"com/example/deferral_ledger/deferralledger/plan/InstallmentYears", "allow", "(I)Z"⟩ : MethodName)) (z := (⟨"com/example/deferral_ledger/deferralledger/plan/InstallmentYears", "allow", "(I)Z"⟩ : MethodName)) hown (mvT hZ (hw _ (List.mem_of_getElem? (i := 21) rfl))) (mvT hZ (hw _ (List.mem_of_getElem? (i := 22) rfl))) (notFace_of_selects (args := #[]) (mvT hZ (hw _ (List.mem_of_getElem? (i := 24) rfl)))) (mvT hZ (hw _ (List.mem_of_getElem? (i := 24) rfl))) (mvT hZ (hw _ (List.mem_of_getElem? (i := 23) rfl))) (by decide) (backOf (W := 0) (rm4a l Z a0 hw [] b1 cc lo hi hh2 n0 Z2 Fp2 Fs2 (own_nlt (by omega)) (own_nlt (by omega))) hZ (hw _ (List.mem_of_getElem? (i := 25) rfl)) (hw _ (List.mem_of_getElem? (i := 5) rfl)) (by decide) (by decide)) qa7 qc7 (g := (mkF m 272 #[.val (.int pa), .val (.int pb), .val (.int pk), .val (.int ps), .val (.int lo), .val (.long rm), .second, .val (.int hi), .val (.ref b1), .val (.long uu), .second, .val (.int (1 : Int32)), .val (.int (ps &&& (3 : Int32))), .val (.int cc), .unset, .unset] [(.int cc), (.ref b1)])) rfl (by rw [hml]; rfl) (Steps.refl _) (argsL := [(.int cc)]) (rest := []) (lenOf pd_4 rfl) rfl (by show 2 * 0 + _ ≤ _; exact Nat.le_of_eq rfl) (hb hby at_272) (fun _ _ => ⟨rfl, e5, (by decide : 1 + 0 ≤ _), (by decide : 2 + 0 ≤ _)⟩)
        dsimp only [Pt.U, Pt.locs, Pt.cells, Pt.slots] at X7 l7 y7 z7 st7 hQ7
        subst l7 y7 z7
        obtain ⟨rfl, Nq7, e7⟩ := hQ7
        have N7 := Fr.app N5 Nq7
        obtain ⟨fs, hr, hrun, hended, hW, hsame⟩ := X7.leave (v := some (.int (1 : Int32))) (fun h => by rw [Bd.returns] at h; cases h)
        refine ⟨_, _, pre0 _ (preA _ (preB _ ?_)), hrun, hended, _, _, rfl, ?_, ⟨_, rfl⟩, hW, hsame.mono (by decide) (by decide)⟩
        · show Steps p.tables e below (T5.setTop (mkF m 132 #[.val (.int pa), .val (.int pb), .val (.int pk), .val (.int ps), .val (.int lo), .val (.long rm), .second, .val (.int hi), .val (.ref b1), .val (.long uu), .second, .val (.int (1 : Int32)), .unset, .unset, .unset, .unset] [])) _
          refine XS.iloadN X5.here hx rfl (hb hby at_132) rfl ?_
          show Steps p.tables e below (T5.setTop (mkF m 133 #[.val (.int pa), .val (.int pb), .val (.int pk), .val (.int ps), .val (.int lo), .val (.long rm), .second, .val (.int hi), .val (.ref b1), .val (.long uu), .second, .val (.int (1 : Int32)), .unset, .unset, .unset, .unset] [(.int ps)])) _
          refine XS.iconst X5.here hx rfl (hb hby at_133) ?_
          show Steps p.tables e below (T5.setTop (mkF m 134 #[.val (.int pa), .val (.int pb), .val (.int pk), .val (.int ps), .val (.int lo), .val (.long rm), .second, .val (.int hi), .val (.ref b1), .val (.long uu), .second, .val (.int (1 : Int32)), .unset, .unset, .unset, .unset] [(.int (3 : Int32)), (.int ps)])) _
          refine XS.iand X5.here hx rfl (hb hby at_134) rfl ?_
          show Steps p.tables e below (T5.setTop (mkF m 135 #[.val (.int pa), .val (.int pb), .val (.int pk), .val (.int ps), .val (.int lo), .val (.long rm), .second, .val (.int hi), .val (.ref b1), .val (.long uu), .second, .val (.int (1 : Int32)), .unset, .unset, .unset, .unset] [(.int (ps &&& (3 : Int32)))])) _
          refine XS.istore X5.here hx rfl (hb hby at_135) rfl (l' := #[.val (.int pa), .val (.int pb), .val (.int pk), .val (.int ps), .val (.int lo), .val (.long rm), .second, .val (.int hi), .val (.ref b1), .val (.long uu), .second, .val (.int (1 : Int32)), .val (.int (ps &&& (3 : Int32))), .unset, .unset, .unset]) rfl ?_
          show Steps p.tables e below (T5.setTop (mkF m 137 #[.val (.int pa), .val (.int pb), .val (.int pk), .val (.int ps), .val (.int lo), .val (.long rm), .second, .val (.int hi), .val (.ref b1), .val (.long uu), .second, .val (.int (1 : Int32)), .val (.int (ps &&& (3 : Int32))), .unset, .unset, .unset] [])) _
          refine XS.iload X5.here hx rfl (hb hby at_137) rfl ?_
          show Steps p.tables e below (T5.setTop (mkF m 139 #[.val (.int pa), .val (.int pb), .val (.int pk), .val (.int ps), .val (.int lo), .val (.long rm), .second, .val (.int hi), .val (.ref b1), .val (.long uu), .second, .val (.int (1 : Int32)), .val (.int (ps &&& (3 : Int32))), .unset, .unset, .unset] [(.int (ps &&& (3 : Int32)))])) _
          refine XS.iconst X5.here hx rfl (hb hby at_139) ?_
          show Steps p.tables e below (T5.setTop (mkF m 140 #[.val (.int pa), .val (.int pb), .val (.int pk), .val (.int ps), .val (.int lo), .val (.long rm), .second, .val (.int hi), .val (.ref b1), .val (.long uu), .second, .val (.int (1 : Int32)), .val (.int (ps &&& (3 : Int32))), .unset, .unset, .unset] [(.int (1 : Int32)), (.int (ps &&& (3 : Int32)))])) _
          refine XS.icmpYes X5.here hx rfl (pc0 := 140) (pc' := 187) rfl (hb hby at_140) rfl (feq hs).2 (by decide) (by decide) ?_
          show Steps p.tables e below (T5.setTop (mkF m 187 #[.val (.int pa), .val (.int pb), .val (.int pk), .val (.int ps), .val (.int lo), .val (.long rm), .second, .val (.int hi), .val (.ref b1), .val (.long uu), .second, .val (.int (1 : Int32)), .val (.int (ps &&& (3 : Int32))), .unset, .unset, .unset] [])) _
          refine XS.iload X5.here hx rfl (hb hby at_187) rfl ?_
          show Steps p.tables e below (T5.setTop (mkF m 189 #[.val (.int pa), .val (.int pb), .val (.int pk), .val (.int ps), .val (.int lo), .val (.long rm), .second, .val (.int hi), .val (.ref b1), .val (.long uu), .second, .val (.int (1 : Int32)), .val (.int (ps &&& (3 : Int32))), .unset, .unset, .unset] [(.int (ps &&& (3 : Int32)))])) _
          refine XS.iconst X5.here hx rfl (hb hby at_189) ?_
          show Steps p.tables e below (T5.setTop (mkF m 190 #[.val (.int pa), .val (.int pb), .val (.int pk), .val (.int ps), .val (.int lo), .val (.long rm), .second, .val (.int hi), .val (.ref b1), .val (.long uu), .second, .val (.int (1 : Int32)), .val (.int (ps &&& (3 : Int32))), .unset, .unset, .unset] [(.int (2 : Int32)), (.int (ps &&& (3 : Int32)))])) _
          refine XS.icmpYes X5.here hx rfl (pc0 := 190) (pc' := 244) rfl (hb hby at_190) rfl (tlt ht).1 (by decide) (by decide) ?_
          show Steps p.tables e below (T5.setTop (mkF m 244 #[.val (.int pa), .val (.int pb), .val (.int pk), .val (.int ps), .val (.int lo), .val (.long rm), .second, .val (.int hi), .val (.ref b1), .val (.long uu), .second, .val (.int (1 : Int32)), .val (.int (ps &&& (3 : Int32))), .unset, .unset, .unset] [])) _
          refine XS.iload X5.here hx rfl (hb hby at_244) rfl ?_
          show Steps p.tables e below (T5.setTop (mkF m 246 #[.val (.int pa), .val (.int pb), .val (.int pk), .val (.int ps), .val (.int lo), .val (.long rm), .second, .val (.int hi), .val (.ref b1), .val (.long uu), .second, .val (.int (1 : Int32)), .val (.int (ps &&& (3 : Int32))), .unset, .unset, .unset] [(.int lo)])) _
          refine XS.i2l X5.here hx rfl (hb hby at_246) rfl ?_
          show Steps p.tables e below (T5.setTop (mkF m 247 #[.val (.int pa), .val (.int pb), .val (.int pk), .val (.int ps), .val (.int lo), .val (.long rm), .second, .val (.int hi), .val (.ref b1), .val (.long uu), .second, .val (.int (1 : Int32)), .val (.int (ps &&& (3 : Int32))), .unset, .unset, .unset] [(.long lo.toInt64)])) _
          refine XS.lload X5.here hx rfl (hb hby at_247) rfl ?_
          show Steps p.tables e below (T5.setTop (mkF m 249 #[.val (.int pa), .val (.int pb), .val (.int pk), .val (.int ps), .val (.int lo), .val (.long rm), .second, .val (.int hi), .val (.ref b1), .val (.long uu), .second, .val (.int (1 : Int32)), .val (.int (ps &&& (3 : Int32))), .unset, .unset, .unset] [(.long uu), (.long lo.toInt64)])) _
          refine XS.iload X5.here hx rfl (hb hby at_249) rfl ?_
          show Steps p.tables e below (T5.setTop (mkF m 251 #[.val (.int pa), .val (.int pb), .val (.int pk), .val (.int ps), .val (.int lo), .val (.long rm), .second, .val (.int hi), .val (.ref b1), .val (.long uu), .second, .val (.int (1 : Int32)), .val (.int (ps &&& (3 : Int32))), .unset, .unset, .unset] [(.int hi), (.long uu), (.long lo.toInt64)])) _
          refine XS.i2l X5.here hx rfl (hb hby at_251) rfl ?_
          show Steps p.tables e below (T5.setTop (mkF m 252 #[.val (.int pa), .val (.int pb), .val (.int pk), .val (.int ps), .val (.int lo), .val (.long rm), .second, .val (.int hi), .val (.ref b1), .val (.long uu), .second, .val (.int (1 : Int32)), .val (.int (ps &&& (3 : Int32))), .unset, .unset, .unset] [(.long hi.toInt64), (.long uu), (.long lo.toInt64)])) _
          refine XS.iload X5.here hx rfl (hb hby at_252) rfl ?_
          show Steps p.tables e below (T5.setTop (mkF m 254 #[.val (.int pa), .val (.int pb), .val (.int pk), .val (.int ps), .val (.int lo), .val (.long rm), .second, .val (.int hi), .val (.ref b1), .val (.long uu), .second, .val (.int (1 : Int32)), .val (.int (ps &&& (3 : Int32))), .unset, .unset, .unset] [(.int lo), (.long hi.toInt64), (.long uu), (.long lo.toInt64)])) _
          refine XS.i2l X5.here hx rfl (hb hby at_254) rfl ?_
          show Steps p.tables e below (T5.setTop (mkF m 255 #[.val (.int pa), .val (.int pb), .val (.int pk), .val (.int ps), .val (.int lo), .val (.long rm), .second, .val (.int hi), .val (.ref b1), .val (.long uu), .second, .val (.int (1 : Int32)), .val (.int (ps &&& (3 : Int32))), .unset, .unset, .unset] [(.long lo.toInt64), (.long hi.toInt64), (.long uu), (.long lo.toInt64)])) _
          refine XS.lsub X5.here hx rfl (hb hby at_255) rfl ?_
          show Steps p.tables e below (T5.setTop (mkF m 256 #[.val (.int pa), .val (.int pb), .val (.int pk), .val (.int ps), .val (.int lo), .val (.long rm), .second, .val (.int hi), .val (.ref b1), .val (.long uu), .second, .val (.int (1 : Int32)), .val (.int (ps &&& (3 : Int32))), .unset, .unset, .unset] [(.long (hi.toInt64 - lo.toInt64)), (.long uu), (.long lo.toInt64)])) _
          refine XS.lconst X5.here hx rfl (hb hby at_256) ?_
          show Steps p.tables e below (T5.setTop (mkF m 257 #[.val (.int pa), .val (.int pb), .val (.int pk), .val (.int ps), .val (.int lo), .val (.long rm), .second, .val (.int hi), .val (.ref b1), .val (.long uu), .second, .val (.int (1 : Int32)), .val (.int (ps &&& (3 : Int32))), .unset, .unset, .unset] [(.long (1 : Int64)), (.long (hi.toInt64 - lo.toInt64)), (.long uu), (.long lo.toInt64)])) _
          refine XS.ladd X5.here hx rfl (hb hby at_257) rfl ?_
          show Steps p.tables e below (T5.setTop (mkF m 258 #[.val (.int pa), .val (.int pb), .val (.int pk), .val (.int ps), .val (.int lo), .val (.long rm), .second, .val (.int hi), .val (.ref b1), .val (.long uu), .second, .val (.int (1 : Int32)), .val (.int (ps &&& (3 : Int32))), .unset, .unset, .unset] [(.long ((hi.toInt64 - lo.toInt64) + (1 : Int64))), (.long uu), (.long lo.toInt64)])) _
          rw [← hww]
          show Steps p.tables e below (T5.setTop (mkF m 258 #[.val (.int pa), .val (.int pb), .val (.int pk), .val (.int ps), .val (.int lo), .val (.long rm), .second, .val (.int hi), .val (.ref b1), .val (.long uu), .second, .val (.int (1 : Int32)), .val (.int (ps &&& (3 : Int32))), .unset, .unset, .unset] [(.long ww), (.long uu), (.long lo.toInt64)])) _
          refine XS.lrem X5.here hx rfl (hb hby at_258) rfl (own_nz (by omega)) ?_
          show Steps p.tables e below (T5.setTop (mkF m 259 #[.val (.int pa), .val (.int pb), .val (.int pk), .val (.int ps), .val (.int lo), .val (.long rm), .second, .val (.int hi), .val (.ref b1), .val (.long uu), .second, .val (.int (1 : Int32)), .val (.int (ps &&& (3 : Int32))), .unset, .unset, .unset] [(.long (uu - uu / ww * ww)), (.long lo.toInt64)])) _
          refine XS.ladd X5.here hx rfl (hb hby at_259) rfl ?_
          show Steps p.tables e below (T5.setTop (mkF m 260 #[.val (.int pa), .val (.int pb), .val (.int pk), .val (.int ps), .val (.int lo), .val (.long rm), .second, .val (.int hi), .val (.ref b1), .val (.long uu), .second, .val (.int (1 : Int32)), .val (.int (ps &&& (3 : Int32))), .unset, .unset, .unset] [(.long (lo.toInt64 + (uu - uu / ww * ww)))])) _
          refine XS.l2i X5.here hx rfl (hb hby at_260) rfl ?_
          show Steps p.tables e below (T5.setTop (mkF m 261 #[.val (.int pa), .val (.int pb), .val (.int pk), .val (.int ps), .val (.int lo), .val (.long rm), .second, .val (.int hi), .val (.ref b1), .val (.long uu), .second, .val (.int (1 : Int32)), .val (.int (ps &&& (3 : Int32))), .unset, .unset, .unset] [(.int ((lo.toInt64 + (uu - uu / ww * ww)).toInt32))])) _
          rw [← hcc]
          show Steps p.tables e below (T5.setTop (mkF m 261 #[.val (.int pa), .val (.int pb), .val (.int pk), .val (.int ps), .val (.int lo), .val (.long rm), .second, .val (.int hi), .val (.ref b1), .val (.long uu), .second, .val (.int (1 : Int32)), .val (.int (ps &&& (3 : Int32))), .unset, .unset, .unset] [(.int cc)])) _
          refine XS.istore X5.here hx rfl (hb hby at_261) rfl (l' := #[.val (.int pa), .val (.int pb), .val (.int pk), .val (.int ps), .val (.int lo), .val (.long rm), .second, .val (.int hi), .val (.ref b1), .val (.long uu), .second, .val (.int (1 : Int32)), .val (.int (ps &&& (3 : Int32))), .val (.int cc), .unset, .unset]) rfl ?_
          show Steps p.tables e below (T5.setTop (mkF m 263 #[.val (.int pa), .val (.int pb), .val (.int pk), .val (.int ps), .val (.int lo), .val (.long rm), .second, .val (.int hi), .val (.ref b1), .val (.long uu), .second, .val (.int (1 : Int32)), .val (.int (ps &&& (3 : Int32))), .val (.int cc), .unset, .unset] [])) _
          refine XS.iload X5.here hx rfl (hb hby at_263) rfl ?_
          show Steps p.tables e below (T5.setTop (mkF m 265 #[.val (.int pa), .val (.int pb), .val (.int pk), .val (.int ps), .val (.int lo), .val (.long rm), .second, .val (.int hi), .val (.ref b1), .val (.long uu), .second, .val (.int (1 : Int32)), .val (.int (ps &&& (3 : Int32))), .val (.int cc), .unset, .unset] [(.int (1 : Int32))])) _
          refine XS.ifNo X5.here hx rfl (hb hby at_265) rfl ((if0 _ _).trans (feq (by decide : ¬ ((1 : Int32) = (0 : Int32)))).1) ?_
          show Steps p.tables e below (T5.setTop (mkF m 268 #[.val (.int pa), .val (.int pb), .val (.int pk), .val (.int ps), .val (.int lo), .val (.long rm), .second, .val (.int hi), .val (.ref b1), .val (.long uu), .second, .val (.int (1 : Int32)), .val (.int (ps &&& (3 : Int32))), .val (.int cc), .unset, .unset] [])) _
          refine XS.aload X5.here hx rfl (hb hby at_268) rfl rfl ?_
          show Steps p.tables e below (T5.setTop (mkF m 270 #[.val (.int pa), .val (.int pb), .val (.int pk), .val (.int ps), .val (.int lo), .val (.long rm), .second, .val (.int hi), .val (.ref b1), .val (.long uu), .second, .val (.int (1 : Int32)), .val (.int (ps &&& (3 : Int32))), .val (.int cc), .unset, .unset] [(.ref b1)])) _
          refine XS.iload X5.here hx rfl (hb hby at_270) rfl ?_
          show Steps p.tables e below (T5.setTop (mkF m 272 #[.val (.int pa), .val (.int pb), .val (.int pk), .val (.int ps), .val (.int lo), .val (.long rm), .second, .val (.int hi), .val (.ref b1), .val (.long uu), .second, .val (.int (1 : Int32)), .val (.int (ps &&& (3 : Int32))), .val (.int cc), .unset, .unset] [(.int cc), (.ref b1)])) _
          refine st7.trans ?_
          show Steps p.tables e below (T7.setTop (mkF m 275 #[.val (.int pa), .val (.int pb), .val (.int pk), .val (.int ps), .val (.int lo), .val (.long rm), .second, .val (.int hi), .val (.ref b1), .val (.long uu), .second, .val (.int (1 : Int32)), .val (.int (ps &&& (3 : Int32))), .val (.int cc), .unset, .unset] [(.int (1 : Int32))])) _
          refine XS.ifNo X7.here hx rfl (hb hby at_275) rfl ((if0 _ _).trans (feq (by decide : ¬ ((1 : Int32) = (0 : Int32)))).1) ?_
          show Steps p.tables e below (T7.setTop (mkF m 278 #[.val (.int pa), .val (.int pb), .val (.int pk), .val (.int ps), .val (.int lo), .val (.long rm), .second, .val (.int hi), .val (.ref b1), .val (.long uu), .second, .val (.int (1 : Int32)), .val (.int (ps &&& (3 : Int32))), .val (.int cc), .unset, .unset] [])) _
          refine XS.iconst X7.here hx rfl (hb hby at_278) ?_
          show Steps p.tables e below (T7.setTop (mkF m 279 #[.val (.int pa), .val (.int pb), .val (.int pk), .val (.int ps), .val (.int lo), .val (.long rm), .second, .val (.int hi), .val (.ref b1), .val (.long uu), .second, .val (.int (1 : Int32)), .val (.int (ps &&& (3 : Int32))), .val (.int cc), .unset, .unset] [(.int (1 : Int32))])) _
          refine XS.goto X7.here hx rfl (pc0 := 279) (pc' := 283) rfl (hb hby at_279) (by decide) (by decide) ?_
          show Steps p.tables e below (T7.setTop (mkF m 283 #[.val (.int pa), .val (.int pb), .val (.int pk), .val (.int ps), .val (.int lo), .val (.long rm), .second, .val (.int hi), .val (.ref b1), .val (.long uu), .second, .val (.int (1 : Int32)), .val (.int (ps &&& (3 : Int32))), .val (.int cc), .unset, .unset] [(.int (1 : Int32))])) _
          exact retN X7 hx (t := .boolean) Bd.returns (by simp) (hb hby at_283) hr
        · show Q0 Z pa pb pk ps h0 n0 _ T7.heap _
          rw [e7]
          exact ⟨rfl, N7⟩
      · obtain ⟨ww, hww⟩ : ∃ z, z = ((hi.toInt64 - lo.toInt64) + (1 : Int64)) := ⟨_, rfl⟩
        have b7 : ww.toInt = hi.toInt - lo.toInt + 1 := by rw [hww]; exact own_wid b4
        obtain ⟨cc, hcc⟩ : ∃ z, z = (lo.toInt64 + (uu - uu / ww * ww)).toInt32 := ⟨_, rfl⟩
        have b8 : lo.toInt ≤ cc.toInt ∧ cc.toInt ≤ hi.toInt := by rw [hcc]; exact own_c3 bL b4 b7 b5
        obtain ⟨cq7, kq7, qa7, qb7, qc7⟩ := isOf hZ e5 Ex2
        obtain ⟨_, _, ⟨T7, L7, k7, n7⟩, -, X7, ⟨Lc7, hQ7, l7, y7, z7⟩, st7⟩ := X5.virtualBack hx (y := (⟨"com/example/deferral_ledger/deferralledger/plan/InstallmentYears", "allow", "(I)Z"⟩ : MethodName)) (z := (⟨"com/example/deferral_ledger/deferralledger/plan/InstallmentYears", "allow", "(I)Z"⟩ : MethodName)) hown (mvT hZ (hw _ (List.mem_of_getElem? (i := 21) rfl))) (mvT hZ (hw _ (List.mem_of_getElem? (i := 22) rfl))) (notFace_of_selects (args := #[]) (mvT hZ (hw _ (List.mem_of_getElem? (i := 24) rfl)))) (mvT hZ (hw _ (List.mem_of_getElem? (i := 24) rfl))) (mvT hZ (hw _ (List.mem_of_getElem? (i := 23) rfl))) (by decide) (backOf (W := 0) (rm4a l Z a0 hw [] b1 cc lo hi hh2 n0 Z2 Fp2 Fs2 (own_nlt (by omega)) (own_nlt (by omega))) hZ (hw _ (List.mem_of_getElem? (i := 25) rfl)) (hw _ (List.mem_of_getElem? (i := 5) rfl)) (by decide) (by decide)) qa7 qc7 (g := (mkF m 272 #[.val (.int pa), .val (.int pb), .val (.int pk), .val (.int ps), .val (.int lo), .val (.long rm), .second, .val (.int hi), .val (.ref b1), .val (.long uu), .second, .val (.int (1 : Int32)), .val (.int (ps &&& (3 : Int32))), .val (.int cc), .unset, .unset] [(.int cc), (.ref b1)])) rfl (by rw [hml]; rfl) (Steps.refl _) (argsL := [(.int cc)]) (rest := []) (lenOf pd_4 rfl) rfl (by show 2 * 0 + _ ≤ _; exact Nat.le_of_eq rfl) (hb hby at_272) (fun _ _ => ⟨rfl, e5, (by decide : 1 + 0 ≤ _), (by decide : 2 + 0 ≤ _)⟩)
        dsimp only [Pt.U, Pt.locs, Pt.cells, Pt.slots] at X7 l7 y7 z7 st7 hQ7
        subst l7 y7 z7
        obtain ⟨rfl, Nq7, e7⟩ := hQ7
        have N7 := Fr.app N5 Nq7
        obtain ⟨fs, hr, hrun, hended, hW, hsame⟩ := X7.leave (v := some (.int (1 : Int32))) (fun h => by rw [Bd.returns] at h; cases h)
        refine ⟨_, _, pre0 _ (preA _ (preB _ ?_)), hrun, hended, _, _, rfl, ?_, ⟨_, rfl⟩, hW, hsame.mono (by decide) (by decide)⟩
        · show Steps p.tables e below (T5.setTop (mkF m 132 #[.val (.int pa), .val (.int pb), .val (.int pk), .val (.int ps), .val (.int lo), .val (.long rm), .second, .val (.int hi), .val (.ref b1), .val (.long uu), .second, .val (.int (1 : Int32)), .unset, .unset, .unset, .unset] [])) _
          refine XS.iloadN X5.here hx rfl (hb hby at_132) rfl ?_
          show Steps p.tables e below (T5.setTop (mkF m 133 #[.val (.int pa), .val (.int pb), .val (.int pk), .val (.int ps), .val (.int lo), .val (.long rm), .second, .val (.int hi), .val (.ref b1), .val (.long uu), .second, .val (.int (1 : Int32)), .unset, .unset, .unset, .unset] [(.int ps)])) _
          refine XS.iconst X5.here hx rfl (hb hby at_133) ?_
          show Steps p.tables e below (T5.setTop (mkF m 134 #[.val (.int pa), .val (.int pb), .val (.int pk), .val (.int ps), .val (.int lo), .val (.long rm), .second, .val (.int hi), .val (.ref b1), .val (.long uu), .second, .val (.int (1 : Int32)), .unset, .unset, .unset, .unset] [(.int (3 : Int32)), (.int ps)])) _
          refine XS.iand X5.here hx rfl (hb hby at_134) rfl ?_
          show Steps p.tables e below (T5.setTop (mkF m 135 #[.val (.int pa), .val (.int pb), .val (.int pk), .val (.int ps), .val (.int lo), .val (.long rm), .second, .val (.int hi), .val (.ref b1), .val (.long uu), .second, .val (.int (1 : Int32)), .unset, .unset, .unset, .unset] [(.int (ps &&& (3 : Int32)))])) _
          refine XS.istore X5.here hx rfl (hb hby at_135) rfl (l' := #[.val (.int pa), .val (.int pb), .val (.int pk), .val (.int ps), .val (.int lo), .val (.long rm), .second, .val (.int hi), .val (.ref b1), .val (.long uu), .second, .val (.int (1 : Int32)), .val (.int (ps &&& (3 : Int32))), .unset, .unset, .unset]) rfl ?_
          show Steps p.tables e below (T5.setTop (mkF m 137 #[.val (.int pa), .val (.int pb), .val (.int pk), .val (.int ps), .val (.int lo), .val (.long rm), .second, .val (.int hi), .val (.ref b1), .val (.long uu), .second, .val (.int (1 : Int32)), .val (.int (ps &&& (3 : Int32))), .unset, .unset, .unset] [])) _
          refine XS.iload X5.here hx rfl (hb hby at_137) rfl ?_
          show Steps p.tables e below (T5.setTop (mkF m 139 #[.val (.int pa), .val (.int pb), .val (.int pk), .val (.int ps), .val (.int lo), .val (.long rm), .second, .val (.int hi), .val (.ref b1), .val (.long uu), .second, .val (.int (1 : Int32)), .val (.int (ps &&& (3 : Int32))), .unset, .unset, .unset] [(.int (ps &&& (3 : Int32)))])) _
          refine XS.iconst X5.here hx rfl (hb hby at_139) ?_
          show Steps p.tables e below (T5.setTop (mkF m 140 #[.val (.int pa), .val (.int pb), .val (.int pk), .val (.int ps), .val (.int lo), .val (.long rm), .second, .val (.int hi), .val (.ref b1), .val (.long uu), .second, .val (.int (1 : Int32)), .val (.int (ps &&& (3 : Int32))), .unset, .unset, .unset] [(.int (1 : Int32)), (.int (ps &&& (3 : Int32)))])) _
          refine XS.icmpYes X5.here hx rfl (pc0 := 140) (pc' := 187) rfl (hb hby at_140) rfl (feq hs).2 (by decide) (by decide) ?_
          show Steps p.tables e below (T5.setTop (mkF m 187 #[.val (.int pa), .val (.int pb), .val (.int pk), .val (.int ps), .val (.int lo), .val (.long rm), .second, .val (.int hi), .val (.ref b1), .val (.long uu), .second, .val (.int (1 : Int32)), .val (.int (ps &&& (3 : Int32))), .unset, .unset, .unset] [])) _
          refine XS.iload X5.here hx rfl (hb hby at_187) rfl ?_
          show Steps p.tables e below (T5.setTop (mkF m 189 #[.val (.int pa), .val (.int pb), .val (.int pk), .val (.int ps), .val (.int lo), .val (.long rm), .second, .val (.int hi), .val (.ref b1), .val (.long uu), .second, .val (.int (1 : Int32)), .val (.int (ps &&& (3 : Int32))), .unset, .unset, .unset] [(.int (ps &&& (3 : Int32)))])) _
          refine XS.iconst X5.here hx rfl (hb hby at_189) ?_
          show Steps p.tables e below (T5.setTop (mkF m 190 #[.val (.int pa), .val (.int pb), .val (.int pk), .val (.int ps), .val (.int lo), .val (.long rm), .second, .val (.int hi), .val (.ref b1), .val (.long uu), .second, .val (.int (1 : Int32)), .val (.int (ps &&& (3 : Int32))), .unset, .unset, .unset] [(.int (2 : Int32)), (.int (ps &&& (3 : Int32)))])) _
          refine XS.icmpNo X5.here hx rfl (hb hby at_190) rfl (flt ht).1 ?_
          show Steps p.tables e below (T5.setTop (mkF m 193 #[.val (.int pa), .val (.int pb), .val (.int pk), .val (.int ps), .val (.int lo), .val (.long rm), .second, .val (.int hi), .val (.ref b1), .val (.long uu), .second, .val (.int (1 : Int32)), .val (.int (ps &&& (3 : Int32))), .unset, .unset, .unset] [])) _
          refine XS.iload X5.here hx rfl (hb hby at_193) rfl ?_
          show Steps p.tables e below (T5.setTop (mkF m 195 #[.val (.int pa), .val (.int pb), .val (.int pk), .val (.int ps), .val (.int lo), .val (.long rm), .second, .val (.int hi), .val (.ref b1), .val (.long uu), .second, .val (.int (1 : Int32)), .val (.int (ps &&& (3 : Int32))), .unset, .unset, .unset] [(.int hi)])) _
          refine X5.ldcInt hx hown (mvT hZ (hw _ (List.mem_of_getElem? (i := 0) rfl))) (g := (mkF m 195 #[.val (.int pa), .val (.int pb), .val (.int pk), .val (.int ps), .val (.int lo), .val (.long rm), .second, .val (.int hi), .val (.ref b1), .val (.long uu), .second, .val (.int (1 : Int32)), .val (.int (ps &&& (3 : Int32))), .unset, .unset, .unset] [(.int hi)])) rfl (hb hby at_195) _ ?_
          show Steps p.tables e below (T5.setTop (mkF m 197 #[.val (.int pa), .val (.int pb), .val (.int pk), .val (.int ps), .val (.int lo), .val (.long rm), .second, .val (.int hi), .val (.ref b1), .val (.long uu), .second, .val (.int (1 : Int32)), .val (.int (ps &&& (3 : Int32))), .unset, .unset, .unset] [(.int (2147483647 : Int32)), (.int hi)])) _
          refine XS.icmpYes X5.here hx rfl (pc0 := 197) (pc' := 244) rfl (hb hby at_197) rfl (flt hM).2.1 (by decide) (by decide) ?_
          show Steps p.tables e below (T5.setTop (mkF m 244 #[.val (.int pa), .val (.int pb), .val (.int pk), .val (.int ps), .val (.int lo), .val (.long rm), .second, .val (.int hi), .val (.ref b1), .val (.long uu), .second, .val (.int (1 : Int32)), .val (.int (ps &&& (3 : Int32))), .unset, .unset, .unset] [])) _
          refine XS.iload X5.here hx rfl (hb hby at_244) rfl ?_
          show Steps p.tables e below (T5.setTop (mkF m 246 #[.val (.int pa), .val (.int pb), .val (.int pk), .val (.int ps), .val (.int lo), .val (.long rm), .second, .val (.int hi), .val (.ref b1), .val (.long uu), .second, .val (.int (1 : Int32)), .val (.int (ps &&& (3 : Int32))), .unset, .unset, .unset] [(.int lo)])) _
          refine XS.i2l X5.here hx rfl (hb hby at_246) rfl ?_
          show Steps p.tables e below (T5.setTop (mkF m 247 #[.val (.int pa), .val (.int pb), .val (.int pk), .val (.int ps), .val (.int lo), .val (.long rm), .second, .val (.int hi), .val (.ref b1), .val (.long uu), .second, .val (.int (1 : Int32)), .val (.int (ps &&& (3 : Int32))), .unset, .unset, .unset] [(.long lo.toInt64)])) _
          refine XS.lload X5.here hx rfl (hb hby at_247) rfl ?_
          show Steps p.tables e below (T5.setTop (mkF m 249 #[.val (.int pa), .val (.int pb), .val (.int pk), .val (.int ps), .val (.int lo), .val (.long rm), .second, .val (.int hi), .val (.ref b1), .val (.long uu), .second, .val (.int (1 : Int32)), .val (.int (ps &&& (3 : Int32))), .unset, .unset, .unset] [(.long uu), (.long lo.toInt64)])) _
          refine XS.iload X5.here hx rfl (hb hby at_249) rfl ?_
          show Steps p.tables e below (T5.setTop (mkF m 251 #[.val (.int pa), .val (.int pb), .val (.int pk), .val (.int ps), .val (.int lo), .val (.long rm), .second, .val (.int hi), .val (.ref b1), .val (.long uu), .second, .val (.int (1 : Int32)), .val (.int (ps &&& (3 : Int32))), .unset, .unset, .unset] [(.int hi), (.long uu), (.long lo.toInt64)])) _
          refine XS.i2l X5.here hx rfl (hb hby at_251) rfl ?_
          show Steps p.tables e below (T5.setTop (mkF m 252 #[.val (.int pa), .val (.int pb), .val (.int pk), .val (.int ps), .val (.int lo), .val (.long rm), .second, .val (.int hi), .val (.ref b1), .val (.long uu), .second, .val (.int (1 : Int32)), .val (.int (ps &&& (3 : Int32))), .unset, .unset, .unset] [(.long hi.toInt64), (.long uu), (.long lo.toInt64)])) _
          refine XS.iload X5.here hx rfl (hb hby at_252) rfl ?_
          show Steps p.tables e below (T5.setTop (mkF m 254 #[.val (.int pa), .val (.int pb), .val (.int pk), .val (.int ps), .val (.int lo), .val (.long rm), .second, .val (.int hi), .val (.ref b1), .val (.long uu), .second, .val (.int (1 : Int32)), .val (.int (ps &&& (3 : Int32))), .unset, .unset, .unset] [(.int lo), (.long hi.toInt64), (.long uu), (.long lo.toInt64)])) _
          refine XS.i2l X5.here hx rfl (hb hby at_254) rfl ?_
          show Steps p.tables e below (T5.setTop (mkF m 255 #[.val (.int pa), .val (.int pb), .val (.int pk), .val (.int ps), .val (.int lo), .val (.long rm), .second, .val (.int hi), .val (.ref b1), .val (.long uu), .second, .val (.int (1 : Int32)), .val (.int (ps &&& (3 : Int32))), .unset, .unset, .unset] [(.long lo.toInt64), (.long hi.toInt64), (.long uu), (.long lo.toInt64)])) _
          refine XS.lsub X5.here hx rfl (hb hby at_255) rfl ?_
          show Steps p.tables e below (T5.setTop (mkF m 256 #[.val (.int pa), .val (.int pb), .val (.int pk), .val (.int ps), .val (.int lo), .val (.long rm), .second, .val (.int hi), .val (.ref b1), .val (.long uu), .second, .val (.int (1 : Int32)), .val (.int (ps &&& (3 : Int32))), .unset, .unset, .unset] [(.long (hi.toInt64 - lo.toInt64)), (.long uu), (.long lo.toInt64)])) _
          refine XS.lconst X5.here hx rfl (hb hby at_256) ?_
          show Steps p.tables e below (T5.setTop (mkF m 257 #[.val (.int pa), .val (.int pb), .val (.int pk), .val (.int ps), .val (.int lo), .val (.long rm), .second, .val (.int hi), .val (.ref b1), .val (.long uu), .second, .val (.int (1 : Int32)), .val (.int (ps &&& (3 : Int32))), .unset, .unset, .unset] [(.long (1 : Int64)), (.long (hi.toInt64 - lo.toInt64)), (.long uu), (.long lo.toInt64)])) _
          refine XS.ladd X5.here hx rfl (hb hby at_257) rfl ?_
          show Steps p.tables e below (T5.setTop (mkF m 258 #[.val (.int pa), .val (.int pb), .val (.int pk), .val (.int ps), .val (.int lo), .val (.long rm), .second, .val (.int hi), .val (.ref b1), .val (.long uu), .second, .val (.int (1 : Int32)), .val (.int (ps &&& (3 : Int32))), .unset, .unset, .unset] [(.long ((hi.toInt64 - lo.toInt64) + (1 : Int64))), (.long uu), (.long lo.toInt64)])) _
          rw [← hww]
          show Steps p.tables e below (T5.setTop (mkF m 258 #[.val (.int pa), .val (.int pb), .val (.int pk), .val (.int ps), .val (.int lo), .val (.long rm), .second, .val (.int hi), .val (.ref b1), .val (.long uu), .second, .val (.int (1 : Int32)), .val (.int (ps &&& (3 : Int32))), .unset, .unset, .unset] [(.long ww), (.long uu), (.long lo.toInt64)])) _
          refine XS.lrem X5.here hx rfl (hb hby at_258) rfl (own_nz (by omega)) ?_
          show Steps p.tables e below (T5.setTop (mkF m 259 #[.val (.int pa), .val (.int pb), .val (.int pk), .val (.int ps), .val (.int lo), .val (.long rm), .second, .val (.int hi), .val (.ref b1), .val (.long uu), .second, .val (.int (1 : Int32)), .val (.int (ps &&& (3 : Int32))), .unset, .unset, .unset] [(.long (uu - uu / ww * ww)), (.long lo.toInt64)])) _
          refine XS.ladd X5.here hx rfl (hb hby at_259) rfl ?_
          show Steps p.tables e below (T5.setTop (mkF m 260 #[.val (.int pa), .val (.int pb), .val (.int pk), .val (.int ps), .val (.int lo), .val (.long rm), .second, .val (.int hi), .val (.ref b1), .val (.long uu), .second, .val (.int (1 : Int32)), .val (.int (ps &&& (3 : Int32))), .unset, .unset, .unset] [(.long (lo.toInt64 + (uu - uu / ww * ww)))])) _
          refine XS.l2i X5.here hx rfl (hb hby at_260) rfl ?_
          show Steps p.tables e below (T5.setTop (mkF m 261 #[.val (.int pa), .val (.int pb), .val (.int pk), .val (.int ps), .val (.int lo), .val (.long rm), .second, .val (.int hi), .val (.ref b1), .val (.long uu), .second, .val (.int (1 : Int32)), .val (.int (ps &&& (3 : Int32))), .unset, .unset, .unset] [(.int ((lo.toInt64 + (uu - uu / ww * ww)).toInt32))])) _
          rw [← hcc]
          show Steps p.tables e below (T5.setTop (mkF m 261 #[.val (.int pa), .val (.int pb), .val (.int pk), .val (.int ps), .val (.int lo), .val (.long rm), .second, .val (.int hi), .val (.ref b1), .val (.long uu), .second, .val (.int (1 : Int32)), .val (.int (ps &&& (3 : Int32))), .unset, .unset, .unset] [(.int cc)])) _
          refine XS.istore X5.here hx rfl (hb hby at_261) rfl (l' := #[.val (.int pa), .val (.int pb), .val (.int pk), .val (.int ps), .val (.int lo), .val (.long rm), .second, .val (.int hi), .val (.ref b1), .val (.long uu), .second, .val (.int (1 : Int32)), .val (.int (ps &&& (3 : Int32))), .val (.int cc), .unset, .unset]) rfl ?_
          show Steps p.tables e below (T5.setTop (mkF m 263 #[.val (.int pa), .val (.int pb), .val (.int pk), .val (.int ps), .val (.int lo), .val (.long rm), .second, .val (.int hi), .val (.ref b1), .val (.long uu), .second, .val (.int (1 : Int32)), .val (.int (ps &&& (3 : Int32))), .val (.int cc), .unset, .unset] [])) _
          refine XS.iload X5.here hx rfl (hb hby at_263) rfl ?_
          show Steps p.tables e below (T5.setTop (mkF m 265 #[.val (.int pa), .val (.int pb), .val (.int pk), .val (.int ps), .val (.int lo), .val (.long rm), .second, .val (.int hi), .val (.ref b1), .val (.long uu), .second, .val (.int (1 : Int32)), .val (.int (ps &&& (3 : Int32))), .val (.int cc), .unset, .unset] [(.int (1 : Int32))])) _
          refine XS.ifNo X5.here hx rfl (hb hby at_265) rfl ((if0 _ _).trans (feq (by decide : ¬ ((1 : Int32) = (0 : Int32)))).1) ?_
          show Steps p.tables e below (T5.setTop (mkF m 268 #[.val (.int pa), .val (.int pb), .val (.int pk), .val (.int ps), .val (.int lo), .val (.long rm), .second, .val (.int hi), .val (.ref b1), .val (.long uu), .second, .val (.int (1 : Int32)), .val (.int (ps &&& (3 : Int32))), .val (.int cc), .unset, .unset] [])) _
          refine XS.aload X5.here hx rfl (hb hby at_268) rfl rfl ?_
          show Steps p.tables e below (T5.setTop (mkF m 270 #[.val (.int pa), .val (.int pb), .val (.int pk), .val (.int ps), .val (.int lo), .val (.long rm), .second, .val (.int hi), .val (.ref b1), .val (.long uu), .second, .val (.int (1 : Int32)), .val (.int (ps &&& (3 : Int32))), .val (.int cc), .unset, .unset] [(.ref b1)])) _
          refine XS.iload X5.here hx rfl (hb hby at_270) rfl ?_
          show Steps p.tables e below (T5.setTop (mkF m 272 #[.val (.int pa), .val (.int pb), .val (.int pk), .val (.int ps), .val (.int lo), .val (.long rm), .second, .val (.int hi), .val (.ref b1), .val (.long uu), .second, .val (.int (1 : Int32)), .val (.int (ps &&& (3 : Int32))), .val (.int cc), .unset, .unset] [(.int cc), (.ref b1)])) _
          refine st7.trans ?_
          show Steps p.tables e below (T7.setTop (mkF m 275 #[.val (.int pa), .val (.int pb), .val (.int pk), .val (.int ps), .val (.int lo), .val (.long rm), .second, .val (.int hi), .val (.ref b1), .val (.long uu), .second, .val (.int (1 : Int32)), .val (.int (ps &&& (3 : Int32))), .val (.int cc), .unset, .unset] [(.int (1 : Int32))])) _
          refine XS.ifNo X7.here hx rfl (hb hby at_275) rfl ((if0 _ _).trans (feq (by decide : ¬ ((1 : Int32) = (0 : Int32)))).1) ?_
          show Steps p.tables e below (T7.setTop (mkF m 278 #[.val (.int pa), .val (.int pb), .val (.int pk), .val (.int ps), .val (.int lo), .val (.long rm), .second, .val (.int hi), .val (.ref b1), .val (.long uu), .second, .val (.int (1 : Int32)), .val (.int (ps &&& (3 : Int32))), .val (.int cc), .unset, .unset] [])) _
          refine XS.iconst X7.here hx rfl (hb hby at_278) ?_
          show Steps p.tables e below (T7.setTop (mkF m 279 #[.val (.int pa), .val (.int pb), .val (.int pk), .val (.int ps), .val (.int lo), .val (.long rm), .second, .val (.int hi), .val (.ref b1), .val (.long uu), .second, .val (.int (1 : Int32)), .val (.int (ps &&& (3 : Int32))), .val (.int cc), .unset, .unset] [(.int (1 : Int32))])) _
          refine XS.goto X7.here hx rfl (pc0 := 279) (pc' := 283) rfl (hb hby at_279) (by decide) (by decide) ?_
          show Steps p.tables e below (T7.setTop (mkF m 283 #[.val (.int pa), .val (.int pb), .val (.int pk), .val (.int ps), .val (.int lo), .val (.long rm), .second, .val (.int hi), .val (.ref b1), .val (.long uu), .second, .val (.int (1 : Int32)), .val (.int (ps &&& (3 : Int32))), .val (.int cc), .unset, .unset] [(.int (1 : Int32))])) _
          exact retN X7 hx (t := .boolean) Bd.returns (by simp) (hb hby at_283) hr
        · show Q0 Z pa pb pk ps h0 n0 _ T7.heap _
          rw [e7]
          exact ⟨rfl, N7⟩
set_option maxRecDepth 65536 in
set_option maxHeartbeats 40000000 in
theorem comes_1 {Post : Tables → Env → Array Value → State → Outcome → State → Prop} (hpost : ∀ tb e args s v u, (limb_1_1.after args s (.returned v) u = true ∧ limb_1_2.after args s (.returned v) u = true ∧ True) → FrameEnd s (.returned v) u (Jvm.fieldLocs frame_1_writes args s ++ Jvm.arrayLocs frame_1_arrays args s ++ Jvm.staticLocs frame_1_statics s) 16 128 → Post tb e args s (.returned v) u) :
    ArmFor flags0 classFile x code maxLocals ret World_1 tables_1 room_1 Calls_1 rest_1 Pre_1 Post := by
  intro l hfl _ _ p e ha hc hk s m args below hf hA hF happ hP
  obtain ⟨hcalls, hrest, hpre⟩ := hP
  obtain ⟨-, -, -, hnamed, -, -, -, hat⟩ := (Spec.applies_iff hf).mp happ
  obtain ⟨hg, hn⟩ := and_e (Cond.before_iff.mp (show (Jvm.Cond.and given_1 narrow_1).before args s = true from hpre))
  obtain ⟨hc0, hk0⟩ := and_e hg
  obtain ⟨hv0, hk1⟩ := and_e hk0
  obtain ⟨hv1, hk2⟩ := and_e hk1
  obtain ⟨hv2, hk3⟩ := and_e hk2
  obtain ⟨w0, w1, w2, w3, rfl⟩ : ∃ w0 w1 w2 w3 : Value, args = #[w0, w1, w2, w3] := by
    have hs : args.size = 4 := by simpa [Cond.value, given_1] using hc0
    obtain ⟨L⟩ := args
    match L, hs with
    | [w0, w1, w2, w3], _ => exact ⟨w0, w1, w2, w3, rfl⟩
  have hw := fun d (hd : d ∈ tables_1) => atoms_spec (ws := Jvm.Cond.code x code maxLocals ret :: tables_1) hat d (List.mem_cons_of_mem _ hd)
  obtain ⟨i0, e0⟩ := is_v hv0
  obtain rfl : w0 = (.int i0) := Option.some.inj e0
  obtain ⟨i1, e1⟩ := is_v hv1
  obtain rfl : w1 = (.int i1) := Option.some.inj e1
  obtain ⟨i2, e2⟩ := is_v hv2
  obtain rfl : w2 = (.int i2) := Option.some.inj e2
  obtain ⟨i3, e3⟩ := is_v hk3
  obtain rfl : w3 = (.int i3) := Option.some.inj e3
  obtain ⟨n, o, h1, h2, h3, _, L, rfl, ⟨rfl, N⟩, hq⟩ := rm0 l s _ hw tables_1 i0 i1 i2 i3 s.heap s.heap.size (Nat.le_refl _)  p e ha hc hk s m _ below hf ((Spec.applies_iff_loose hf).mp happ).1 ⟨rfl, State.Warmed39.refl s, rfl⟩ trivial
  refine ⟨n, _, h1, h2, h3, hpost _ _ _ _ _ _ ⟨Cond.after_iff.mpr rfl, Cond.after_iff.mpr (eq_i res_at (Term.int_eval (1)) rfl), trivial⟩ ⟨hq.1, hq.2.1, (hq.2.2.sift fun y hy => Or.inr (N y hy)).mono (by decide) (by decide)⟩⟩
theorem main_1_1 : Claimed_1_1 := comes_1 fun _ _ _ _ _ _ h hF => ⟨h.1, hF⟩
theorem main_1_2 : Claimed_1_2 := comes_1 fun _ _ _ _ _ _ h hF => ⟨h.2.1, hF⟩
end Jvm.Pilot.@@N@@
namespace Jvm.Pilot.@@N@@
open Jvm Jvm.ClassFile Sem Op Lib Jvm.Free Jvm.Stand Jvm.Pilot.@@N@@.Jvm.D
/-! MADE BY PROGRAM (witnessworld.py) out of the Statement's table words and the real class files: 10 classes; the members and pool entries that the words name. The judged class is class 1, her method 1. -/
namespace start1
open Jvm.ClassFile
def u (s : String) : CpInfo := .utf8 (stringToUtf16 s)
/-- a pool by its gaps: so many unusable entries, then the entry; so many at the end -/
def gap : Nat → List CpInfo → List CpInfo
  | 0, r => r
  | n + 1, r => .unusable :: gap n r
def poolList (es : List (Nat × CpInfo)) (last : Nat) : List CpInfo := es.foldr (fun e r => gap e.1 (e.2 :: r)) (gap last [])
def pool (es : List (Nat × CpInfo)) (last : Nat) : Array CpInfo := ⟨poolList es last⟩
def fileOf (pool : Array CpInfo) (this : Nat) (attrs : Array Attribute := #[]) (ms : Array MethodInfo := #[]) (fl : Nat := 33) (sup : Nat := 0) (ifs : Array Nat := #[]) (fds : Array FieldInfo := #[]) : ClassFile where
  minorVersion := 0
  majorVersion := 65
  constantPool := pool
  accessFlags := fl
  thisClass := this
  superClass := sup
  interfaces := ifs
  fields := fds
  methods := ms
  attributes := attrs
def plain (name : String) (sup : Option ClassId) : Class where
  name := name
  kind := .ordinary
  loader := none
  accessFlags := 33
  super := sup
  interfaces := #[]
  cf := none
  fields := #[]
  methods := #[]
  instanceTypes := #[]
  staticTypes := #[]
  resolved := #[]
  callSites := []
  init := .initialized
  statics := none
  mirror := none

def pool0 : Array CpInfo := pool [(5, u "<init>"), (0, u "()V"), (1, .class_ 10), (1, u "java/lang/Object")] 113

def k0c0 : Code := { maxStack := 0, maxLocals := 1, code := object_method_1_code, exceptionTable := #[], attributes := #[] }
def k0m0 : Method := { name := "<init>", desc := "()V", sig := { parameters := [], returnType := none }, accessFlags := 1, code := some k0c0 }
/-- java/lang/Object -/
def k0 : Class := { plain "java/lang/Object" none with
  accessFlags := 33
  interfaces := #[]
  cf := some (fileOf pool0 8 #[] #[{ accessFlags := 1, nameIndex := 5, descriptorIndex := 6, attributes := #[] }] 33 0 #[] #[])
  fields := #[]
  methods := #[k0m0]
  instanceTypes := #[]
  staticTypes := #[]
  resolved := Array.replicate 124 none
  statics := none }

def pool1 : Array CpInfo := pool [(2, .class_ 4), (1, u "java/lang/Object"), (0, u "<init>"), (0, u "()V"), (0, .integer 2147483647), (2, .long 2147483647), (1, .long 4294967295), (1, .class_ 15), (0, u "com/example/deferral_ledger/deferralledger/plan/InstallmentYears"), (0, .methodref 14 17), (0, .nameAndType 5 18), (0, u "(II)V"), (0, .methodref 14 20), (0, .nameAndType 21 22), (0, u "allow"), (0, u "(I)Z"), (0, .long 18446744071562067968), (1, .class_ 26), (0, u "com/example/deferral_ledger/deferralledger/plan/InstallmentYearsAllowPinLaw"), (2, u "law"), (0, u "(IIII)Z")] 3

def k1m0 : Method := { name := "<init>", desc := "()V", sig := { parameters := [], returnType := none }, accessFlags := 1, code := none }
def k1c1 : Code := { maxStack := 8, maxLocals := 16, code := code, exceptionTable := #[], attributes := #[] }
def k1m1 : Method := { name := "law", desc := "(IIII)Z", sig := { parameters := [.int, .int, .int, .int], returnType := some .boolean }, accessFlags := 9, code := some k1c1 }
/-- com/example/deferral_ledger/deferralledger/plan/InstallmentYearsAllowPinLaw -/
def k1 : Class := { plain "com/example/deferral_ledger/deferralledger/plan/InstallmentYearsAllowPinLaw" (some 0) with
  accessFlags := 49
  interfaces := #[]
  cf := some (fileOf pool1 25 #[] #[{ accessFlags := 1, nameIndex := 5, descriptorIndex := 6, attributes := #[] }, { accessFlags := 9, nameIndex := 29, descriptorIndex := 30, attributes := #[] }] 49 2 #[] #[])
  fields := #[]
  methods := #[k1m0, k1m1]
  instanceTypes := #[]
  staticTypes := #[]
  resolved := Array.replicate 34 none
  statics := none }

def pool2 : Array CpInfo := pool [(1, .methodref 2 3), (0, .class_ 4), (0, .nameAndType 5 6), (0, u "java/lang/Object"), (0, u "<init>"), (0, u "()V"), (0, .class_ 8), (0, u "java/lang/Record")] 13

def k2c0 : Code := { maxStack := 1, maxLocals := 1, code := jdk_30_method_1_code, exceptionTable := #[], attributes := #[] }
def k2m0 : Method := { name := "<init>", desc := "()V", sig := { parameters := [], returnType := none }, accessFlags := 4, code := some k2c0 }
/-- java/lang/Record -/
def k2 : Class := { plain "java/lang/Record" (some 0) with
  accessFlags := 1057
  interfaces := #[]
  cf := some (fileOf pool2 7 #[] #[{ accessFlags := 4, nameIndex := 5, descriptorIndex := 6, attributes := #[] }] 1057 2 #[] #[])
  fields := #[]
  methods := #[k2m0]
  instanceTypes := #[]
  staticTypes := #[]
  resolved := Array.replicate 22 none
  statics := none }

def pool3 : Array CpInfo := pool [(1, .methodref 2 3), (0, .class_ 4), (0, .nameAndType 5 6), (0, u "java/lang/Record"), (0, u "<init>"), (0, u "()V"), (0, .fieldref 8 9), (0, .class_ 10), (0, .nameAndType 11 12), (0, u "com/example/deferral_ledger/deferralledger/plan/InstallmentYears"), (0, u "min"), (0, u "I"), (0, .fieldref 8 14), (0, .nameAndType 15 12), (0, u "max"), (12, u "(II)V"), (3, u "allow"), (0, u "(I)Z")] 25

def k3c0 : Code := { maxStack := 2, maxLocals := 3, code := prog_56_method_1_code, exceptionTable := #[], attributes := #[] }
def k3m0 : Method := { name := "<init>", desc := "(II)V", sig := { parameters := [.int, .int], returnType := none }, accessFlags := 1, code := some k3c0 }
def k3c1 : Code := { maxStack := 2, maxLocals := 2, code := prog_56_method_2_code, exceptionTable := #[], attributes := #[] }
def k3m1 : Method := { name := "allow", desc := "(I)Z", sig := { parameters := [.int], returnType := some .boolean }, accessFlags := 1, code := some k3c1 }
/-- com/example/deferral_ledger/deferralledger/plan/InstallmentYears -/
def k3 : Class := { plain "com/example/deferral_ledger/deferralledger/plan/InstallmentYears" (some 2) with
  accessFlags := 49
  interfaces := #[]
  cf := some (fileOf pool3 8 #[] #[{ accessFlags := 1, nameIndex := 5, descriptorIndex := 28, attributes := #[] }, { accessFlags := 1, nameIndex := 32, descriptorIndex := 33, attributes := #[] }] 49 2 #[] #[{ accessFlags := 18, nameIndex := 11, descriptorIndex := 12, attributes := #[] }, { accessFlags := 18, nameIndex := 15, descriptorIndex := 12, attributes := #[] }])
  fields := #[{ name := "min", type := .int, accessFlags := 18, slot := 0, constantValue := 0 }, { name := "max", type := .int, accessFlags := 18, slot := 1, constantValue := 0 }]
  methods := #[k3m0, k3m1]
  instanceTypes := #[.int, .int]
  staticTypes := #[]
  resolved := Array.replicate 59 none
  statics := none }

def pool4 : Array CpInfo := pool [(1, u "java/lang/Cloneable"), (0, .class_ 1), (0, u "java/lang/Object"), (0, .class_ 3)] 3

/-- java/lang/Cloneable -/
def k4 : Class := { plain "java/lang/Cloneable" (some 0) with
  accessFlags := 1537
  interfaces := #[]
  cf := some (fileOf pool4 2 #[] #[] 1537 4 #[] #[])
  fields := #[]
  methods := #[]
  instanceTypes := #[]
  staticTypes := #[]
  resolved := Array.replicate 8 none
  statics := none }

def pool5 : Array CpInfo := pool [(1, u "java/io/Serializable"), (0, .class_ 1), (0, u "java/lang/Object"), (0, .class_ 3)] 3

/-- java/io/Serializable -/
def k5 : Class := { plain "java/io/Serializable" (some 0) with
  accessFlags := 1537
  interfaces := #[]
  cf := some (fileOf pool5 2 #[] #[] 1537 4 #[] #[])
  fields := #[]
  methods := #[]
  instanceTypes := #[]
  staticTypes := #[]
  resolved := Array.replicate 8 none
  statics := none }

/-- the primitive byte -/
def k6 : Class := { plain "byte" none with kind := .primitive 'B', accessFlags := 0x411 }
/-- [B -/
def k7 : Class := { plain "[B" (some 0) with kind := .array 6 .byte, interfaces := #[4, 5], accessFlags := 1041 }

/-- the primitive int -/
def k8 : Class := { plain "int" none with kind := .primitive 'I', accessFlags := 0x411 }
/-- [I -/
def k9 : Class := { plain "[I" (some 0) with kind := .array 8 .int, interfaces := #[4, 5], accessFlags := 1041 }

def heap : Heap := #[]
def classes : Array Class := #[k0, k1, k2, k3, k4, k5, k6, k7, k8, k9]
def interned : List (Array UInt16 × Addr) := []
def slotsUsed : Nat := 0
def theMethod : MethodId := ⟨1, 1⟩
def args0 : Array Value := #[.int 5, .int 7, .int 6, .int 2]
def aboutOver (below : List Frame) : State where
  vm := { classes := classes, interned := interned.toArray }
  heap := heap
  slotsUsed := slotsUsed
  threads := #[{ frames := .invoking theMethod args0 :: below }]
def below0 : List Frame := [.native { method := ⟨0, 0⟩, args := #[] }]
def about1 : State := aboutOver below0
def p0 : Program := .bare "" "" ""
def e0 : Env := launch0.env 0 0 0
theorem w_frames : about1.frames = Frame.invoking theMethod args0 :: below0 := rfl
set_option maxRecDepth 65536 in
theorem w_args : argsFit about1.vm theMethod args0 = true := by decide +kernel
set_option maxRecDepth 65536 in
theorem w_heap : heapFits about1 = true := by decide +kernel
set_option maxRecDepth 65536 in
theorem w_runnable : about1.curStatus? = some .runnable := by decide +kernel
set_option maxRecDepth 65536 in
theorem w_alone : about1.alone = true := by decide +kernel
set_option maxRecDepth 65536 in
theorem w_named : about1.methodNamed? x = some theMethod := by decide +kernel
set_option maxRecDepth 65536 in
theorem w_hears : about1.hears theMethod below0 = true := by decide +kernel
set_option maxRecDepth 65536 in
theorem w_ripe : about1.ripe theMethod args0 below0 = true := by decide +kernel
theorem w_running : about1.status = .running := rfl
set_option maxRecDepth 65536 in
theorem w_room : about1.hasRoom e0.platform room_1 = true :=
  launch0.hasRoom_least _ room_1 (by decide +kernel) (by decide +kernel) (by decide +kernel) (by decide +kernel) (by decide +kernel) (by decide +kernel)
theorem allAtoms_all (ts : List Jvm.Cond) (a : Array Jvm.Value) (st : Jvm.State) : (allAtoms ts).before a st = ts.all (fun c => c.before a st) := by
  induction ts with
  | nil => rfl
  | cons c t ih =>
    show (Jvm.Cond.and c (allAtoms t)).before a st = _
    rw [Jvm.Cond.before_and, ih, List.all_cons]
def words1 : List Jvm.Cond := Jvm.Cond.code x code maxLocals ret :: tables_1
/-- a 'code' word, met by the world's own term for the bytes: nothing is compared byte by byte -/
theorem code_word {y : MethodName} {bytes : ByteArray} {mx : Nat} {rt : Option FieldType} {a : Array Value} {s : State} {m : MethodId} {meth : Method} {c : Code} (h1 : s.methodNamed? y = some m) (h2 : s.vm.method? m = some meth) (h3 : meth.code = some c) (h4 : c.code = bytes)
    (h5 : (c.maxLocals == mx && c.exceptionTable.isEmpty && decide (c.maxStack ≤ mostOperands) && decide (meth.sig.returnType = rt) && !meth.locks && decide (parseMethodDescriptor y.desc = some meth.sig)) = true) : (Jvm.Cond.code y bytes mx rt).before a s = true := by
  simp only [Bool.and_eq_true, beq_iff_eq, Bool.not_eq_true', decide_eq_true_eq] at h5
  obtain ⟨⟨⟨⟨⟨g1, g2⟩, g3⟩, g4⟩, g5⟩, g6⟩ := h5
  simp [Cond.before, Cond.holds, Cond.value, h1, h2, h3, h4, g1, g2, g3, g4, g5, g6]
def isCode : Jvm.Cond → Bool
  | .code _ _ _ _ => true
  | _ => false
theorem all_split {L : List Jvm.Cond} {P : Jvm.Cond → Bool} (h1 : L.all (fun c => isCode c || P c) = true) (h2 : ∀ c ∈ L.filter isCode, P c = true) : L.all P = true := by
  refine List.all_eq_true.mpr fun c hc => ?_
  have h := List.all_eq_true.mp h1 c hc
  rcases Bool.eq_false_or_eq_true (isCode c) with hi | hi
  · exact h2 c (List.mem_filter.mpr ⟨hc, hi⟩)
  · simpa [hi] using h
set_option maxRecDepth 65536 in
theorem w_c0 : (Jvm.Cond.code x code maxLocals ret).before args0 about1 = true := code_word (m := ⟨1, 1⟩) (meth := k1m1) (c := k1c1) (by decide +kernel) rfl rfl rfl (by decide +kernel)
set_option maxRecDepth 65536 in
theorem w_c1 : (Jvm.Cond.code ({ cls := "com/example/deferral_ledger/deferralledger/plan/InstallmentYears", name := "<init>", desc := "(II)V" } : Jvm.MethodName) prog_56_method_1_code (3 : Nat) (Option.none : Option Jvm.ClassFile.FieldType)).before args0 about1 = true := code_word (m := ⟨3, 0⟩) (meth := k3m0) (c := k3c0) (by decide +kernel) rfl rfl rfl (by decide +kernel)
set_option maxRecDepth 65536 in
theorem w_c2 : (Jvm.Cond.code ({ cls := "java/lang/Record", name := "<init>", desc := "()V" } : Jvm.MethodName) jdk_30_method_1_code (1 : Nat) (Option.none : Option Jvm.ClassFile.FieldType)).before args0 about1 = true := code_word (m := ⟨2, 0⟩) (meth := k2m0) (c := k2c0) (by decide +kernel) rfl rfl rfl (by decide +kernel)
set_option maxRecDepth 65536 in
theorem w_c3 : (Jvm.Cond.code ({ cls := "java/lang/Object", name := "<init>", desc := "()V" } : Jvm.MethodName) object_method_1_code (1 : Nat) (Option.none : Option Jvm.ClassFile.FieldType)).before args0 about1 = true := code_word (m := ⟨0, 0⟩) (meth := k0m0) (c := k0c0) (by decide +kernel) rfl rfl rfl (by decide +kernel)
set_option maxRecDepth 65536 in
theorem w_c4 : (Jvm.Cond.code ({ cls := "com/example/deferral_ledger/deferralledger/plan/InstallmentYears", name := "allow", desc := "(I)Z" } : Jvm.MethodName) prog_56_method_2_code (2 : Nat) (Option.some Jvm.ClassFile.FieldType.boolean)).before args0 about1 = true := code_word (m := ⟨3, 1⟩) (meth := k3m1) (c := k3c1) (by decide +kernel) rfl rfl rfl (by decide +kernel)
def codes1 : List Jvm.Cond := [Jvm.Cond.code x code maxLocals ret, Jvm.Cond.code ({ cls := "com/example/deferral_ledger/deferralledger/plan/InstallmentYears", name := "<init>", desc := "(II)V" } : Jvm.MethodName) prog_56_method_1_code (3 : Nat) (Option.none : Option Jvm.ClassFile.FieldType), Jvm.Cond.code ({ cls := "java/lang/Record", name := "<init>", desc := "()V" } : Jvm.MethodName) jdk_30_method_1_code (1 : Nat) (Option.none : Option Jvm.ClassFile.FieldType), Jvm.Cond.code ({ cls := "java/lang/Object", name := "<init>", desc := "()V" } : Jvm.MethodName) object_method_1_code (1 : Nat) (Option.none : Option Jvm.ClassFile.FieldType), Jvm.Cond.code ({ cls := "com/example/deferral_ledger/deferralledger/plan/InstallmentYears", name := "allow", desc := "(I)Z" } : Jvm.MethodName) prog_56_method_2_code (2 : Nat) (Option.some Jvm.ClassFile.FieldType.boolean)]
set_option maxRecDepth 65536 in
theorem codes_eq : words1.filter isCode = codes1 := rfl
theorem w_codes : ∀ c ∈ words1.filter isCode, c.before args0 about1 = true := by
  rw [codes_eq]
  intro c hc
  simp only [codes1, List.mem_cons, List.not_mem_nil, or_false] at hc
  rcases hc with rfl | rfl | rfl | rfl | rfl
  · exact w_c0
  · exact w_c1
  · exact w_c2
  · exact w_c3
  · exact w_c4
set_option maxRecDepth 65536 in
theorem w_t1 : (words1.take 24).all (fun c => isCode c || c.before args0 about1) = true := by decide +kernel
set_option maxRecDepth 65536 in
theorem w_t2 : (words1.drop 24).all (fun c => isCode c || c.before args0 about1) = true := by decide +kernel
theorem w_tables : (allAtoms (Jvm.Cond.code x code maxLocals ret :: tables_1)).before args0 about1 = true := by
  rw [allAtoms_all]
  show words1.all (fun c => c.before args0 about1) = true
  refine all_split ?_ w_codes
  rw [← List.take_append_drop 24 words1, List.all_append, w_t1, w_t2]
  rfl
set_option maxRecDepth 65536 in
theorem w_case : (Jvm.Cond.and given_1 narrow_1).before args0 about1 = true := by decide +kernel
theorem w_applies : (headSpec (Jvm.Cond.code x code maxLocals ret :: tables_1) room_1).applies x e0.platform about1 = true :=
  (Spec.applies_iff w_frames).mpr ⟨w_running, w_runnable, w_alone, w_named, w_hears, w_ripe, w_room, w_tables⟩
theorem atStart : AtStart classFile x code maxLocals ret World_1 tables_1 room_1 Calls_1 rest_1 Pre_1 launch0 p0 e0 about1 theMethod args0 below0 :=
  ⟨lists_1, trivial, launch0.admits_env _ _ _, launch0.least_env, fairChoices_fair.cas, fairChoices_fair.clock, w_frames, w_args, w_heap, w_applies, trivial, trivial, w_case⟩
end start1
theorem witness_1 : WitnessClaimed_1 := ⟨start1.p0, start1.e0, start1.about1, start1.theMethod, start1.args0, start1.below0, start1.atStart⟩
end Jvm.Pilot.@@N@@
