import JvmDerived
import JvmDerived.Pilot.@@N@@Statement
import JvmDerived.Pilot.@@N@@Code
set_option linter.unusedVariables false
set_option linter.unusedSimpArgs false
namespace Jvm.Pilot.@@N@@
open Jvm Jvm.ClassFile Sem Op Lib Jvm.Free Jvm.Stand Jvm.LawKit Jvm.RoadKit Bundle Jvm.Pilot.@@N@@.Jvm.D
theorem d2_0 : decode jdk_30_method_1_code 0 = .ok (.aload_n 0, 1) := by decide +kernel
theorem d2_1 : decode jdk_30_method_1_code 1 = .ok (.invokespecial 1, 3) := by decide +kernel
theorem d2_4 : decode jdk_30_method_1_code 4 = .ok (.return_, 1) := by decide +kernel
theorem pn_2 : plainName "java/lang/Record" = true := by first | (simp [plainName, overriddenIn]; done) | decide +kernel
theorem ef_2 (m : MethodId) (x0 : Addr) : entryFrame m #[(.ref x0)] 1 = mkF m 0 #[.val (.ref x0)] [] := by first | (simp [entryFrame, mkF, argsToLocals, Value.category]; done) | rfl
def Q2 (Z : State) (a1 : Addr) (h0 : Heap) (n0 : Nat) (v : Option Value) (h : Heap) (L : List Loc) : Prop := v = none ∧ Fr n0 L ∧ h = h0
set_option maxRecDepth 65536 in
set_option maxHeartbeats 40000000 in
theorem rm2 (l : Launch) (Z : State) (a0 : Array Value) (hw : ∀ d ∈ tables_1, d.before a0 Z = true) (ws : List Jvm.Cond) (a1 : Addr) (h0 : Heap) (n0 : Nat) (Z0 : n0 ≤ h0.size) :
    MetFree l (⟨"java/lang/Record", "<init>", "()V"⟩ : MethodName) (head1 (Jvm.Cond.code (⟨"java/lang/Record", "<init>", "()V"⟩ : MethodName) jdk_30_method_1_code 1 none :: ws) ({ frames := 1, cells := 0, slots := 0, locals := 12 } : Room)) (fun a U => a = #[(.ref a1)] ∧ Z.Warmed39 U.vm ∧ U.heap = h0) (fun _ _ _ _ _ => True) (fun _ U o U' => ∃ v L, o = .returned v ∧ Q2 Z a1 h0 n0 v U'.heap L ∧ FrameEnd U o U' L ({ frames := 1, cells := 0, slots := 0, locals := 12 } : Room).cells ({ frames := 1, cells := 0, slots := 0, locals := 12 } : Room).slots) := by
  refine MetFree.of_bodySF (plainFor_of_name pn_2) hisR ?_
  intro p e s m args below meth c s₁ Bd hml0 hP hK
  obtain ⟨rfl, hZ, hh⟩ := hP
  have hx := Bd.exec
  have hby := Bd.bytes
  have hml : c.maxLocals = 1 := hml0
  have hown : s.vm.findClass "java/lang/Record" = some m.cls := findClass_of_methodNamed Bd.named
  have hnm := (name_of_methodNamed Bd.named Bd.method).1
  have X0 : Stand p l e ({ frames := 1, cells := 0, slots := 0, locals := 12 } : Room) s m #[(.ref a1)] below meth c s₁ [] 0 0 := Stand.of_body Bd
  have e0 : s₁.heap = h0 := by rw [← hh, Bd.state]; rfl
  have N0 := Fr.nil n0
  have pre0 : ∀ t, Steps p.tables e below (s₁.setTop (mkF m 0 #[.val (.ref a1)] [])) t → Steps p.tables e below (s₁.setTop (entryFrame m #[(.ref a1)] 1)) t := fun t k => castTop (ef_2 m a1) k
  obtain ⟨T2, X2, e2, st2⟩ := initO X0 hx hZ hown (hw _ (List.mem_of_getElem? (i := 15) rfl)) (hw _ (List.mem_of_getElem? (i := 16) rfl)) (hw _ (List.mem_of_getElem? (i := 17) rfl)) e0 (g := (mkF m 1 #[.val (.ref a1)] [(.ref a1)])) rfl (by rw [hml]; rfl) rfl (hb hby d2_1) (by decide) (W := 0) (by show 2 * 0 + _ ≤ _; exact Nat.le_of_eq rfl) (by decide)
  obtain ⟨fs, hr, hrun, hended, hW, hsame⟩ := X2.leave (v := none) (fun _ => rfl)
  refine ⟨_, _, pre0 _ ?_, hrun, hended, _, _, rfl, ?_, ⟨_, rfl⟩, hW, hsame.mono (by decide) (by decide)⟩
  · show Steps p.tables e below (s₁.setTop (mkF m 0 #[.val (.ref a1)] [])) _
    refine XS.aloadN X0.here hx rfl (hb hby d2_0) rfl rfl ?_
    show Steps p.tables e below (s₁.setTop (mkF m 1 #[.val (.ref a1)] [(.ref a1)])) _
    refine st2 _ ?_
    show Steps p.tables e below (T2.setTop (mkF m 4 #[.val (.ref a1)] [])) _
    exact X2.returnOut hx Bd.returns (hb hby d2_4) hr
  · show Q2 Z a1 h0 n0 _ T2.heap _
    rw [e2]
    exact ⟨rfl, N0, rfl⟩
theorem d1_0 : decode prog_24_method_1_code 0 = .ok (.aload_n 0, 1) := by decide +kernel
theorem d1_1 : decode prog_24_method_1_code 1 = .ok (.invokespecial 1, 3) := by decide +kernel
theorem d1_4 : decode prog_24_method_1_code 4 = .ok (.aload_n 0, 1) := by decide +kernel
theorem d1_5 : decode prog_24_method_1_code 5 = .ok (.lload_n 1, 1) := by decide +kernel
theorem d1_6 : decode prog_24_method_1_code 6 = .ok (.putfield 7, 3) := by decide +kernel
theorem d1_9 : decode prog_24_method_1_code 9 = .ok (.aload_n 0, 1) := by decide +kernel
theorem d1_10 : decode prog_24_method_1_code 10 = .ok (.lload_n 3, 1) := by decide +kernel
theorem d1_11 : decode prog_24_method_1_code 11 = .ok (.putfield 13, 3) := by decide +kernel
theorem d1_14 : decode prog_24_method_1_code 14 = .ok (.aload_n 0, 1) := by decide +kernel
theorem d1_15 : decode prog_24_method_1_code 15 = .ok (.lload 5, 2) := by decide +kernel
theorem d1_17 : decode prog_24_method_1_code 17 = .ok (.putfield 16, 3) := by decide +kernel
theorem d1_20 : decode prog_24_method_1_code 20 = .ok (.return_, 1) := by decide +kernel
theorem pn_1 : plainName "com/example/rotifer/rotifer/Span" = true := by first | (simp [plainName, overriddenIn]; done) | decide +kernel
theorem pd_1_1 : parseMethodDescriptor "()V" = some ⟨[], none⟩ := by decide +kernel
theorem ef_1 (m : MethodId) (x0 : Addr) (x1 : Int64) (x2 : Int64) (x3 : Int64) : entryFrame m #[(.ref x0), (.long x1), (.long x2), (.long x3)] 7 = mkF m 0 #[.val (.ref x0), .val (.long x1), .second, .val (.long x2), .second, .val (.long x3), .second] [] := by first | (simp [entryFrame, mkF, argsToLocals, Value.category]; done) | rfl
def Q1 (Z : State) (a1 : Addr) (q2 : Int64) (q3 : Int64) (q4 : Int64) (u_nanos_a1 : Value) (u_part_a1 : Value) (u_parts_a1 : Value) (h0 : Heap) (n0 : Nat) (v : Option Value) (h : Heap) (L : List Loc) : Prop := v = none ∧ Fr n0 L ∧ Keep h0 h [a1] ∧ Fld Z h a1 "com/example/rotifer/rotifer/Span" "part" "J" (.long q3) ∧ Fld Z h a1 "com/example/rotifer/rotifer/Span" "parts" "J" (.long q4)
set_option maxRecDepth 65536 in
set_option maxHeartbeats 40000000 in
theorem rm1 (l : Launch) (Z : State) (a0 : Array Value) (hw : ∀ d ∈ tables_1, d.before a0 Z = true) (ws : List Jvm.Cond) (a1 : Addr) (q2 : Int64) (q3 : Int64) (q4 : Int64) (u_nanos_a1 : Value) (u_part_a1 : Value) (u_parts_a1 : Value) (h0 : Heap) (n0 : Nat) (Z0 : n0 ≤ h0.size) (E_a1 : Exa Z h0 a1 "com/example/rotifer/rotifer/Span") (F_nanos_a1 : Fld Z h0 a1 "com/example/rotifer/rotifer/Span" "nanos" "J" u_nanos_a1) (g_a1 : n0 ≤ a1) (F_part_a1 : Fld Z h0 a1 "com/example/rotifer/rotifer/Span" "part" "J" u_part_a1) (F_parts_a1 : Fld Z h0 a1 "com/example/rotifer/rotifer/Span" "parts" "J" u_parts_a1) :
    MetFree l (⟨"com/example/rotifer/rotifer/Span", "<init>", "(JJJ)V"⟩ : MethodName) (head1 (Jvm.Cond.code (⟨"com/example/rotifer/rotifer/Span", "<init>", "(JJJ)V"⟩ : MethodName) prog_24_method_1_code 7 none :: ws) ({ frames := 2, cells := 0, slots := 0, locals := 24 } : Room)) (fun a U => a = #[(.ref a1), (.long q2), (.long q3), (.long q4)] ∧ Z.Warmed39 U.vm ∧ U.heap = h0) (fun _ _ _ _ _ => True) (fun _ U o U' => ∃ v L, o = .returned v ∧ Q1 Z a1 q2 q3 q4 u_nanos_a1 u_part_a1 u_parts_a1 h0 n0 v U'.heap L ∧ FrameEnd U o U' L ({ frames := 2, cells := 0, slots := 0, locals := 24 } : Room).cells ({ frames := 2, cells := 0, slots := 0, locals := 24 } : Room).slots) := by
  refine MetFree.of_bodySF (plainFor_of_name pn_1) hisR ?_
  intro p e s m args below meth c s₁ Bd hml0 hP hK
  obtain ⟨rfl, hZ, hh⟩ := hP
  have hx := Bd.exec
  have hby := Bd.bytes
  have hml : c.maxLocals = 7 := hml0
  have hown : s.vm.findClass "com/example/rotifer/rotifer/Span" = some m.cls := findClass_of_methodNamed Bd.named
  have hnm := (name_of_methodNamed Bd.named Bd.method).1
  have X0 : Stand p l e ({ frames := 2, cells := 0, slots := 0, locals := 24 } : Room) s m #[(.ref a1), (.long q2), (.long q3), (.long q4)] below meth c s₁ [] 0 0 := Stand.of_body Bd
  have e0 : s₁.heap = h0 := by rw [← hh, Bd.state]; rfl
  have N0 := Fr.nil n0
  have pre0 : ∀ t, Steps p.tables e below (s₁.setTop (mkF m 0 #[.val (.ref a1), .val (.long q2), .second, .val (.long q3), .second, .val (.long q4), .second] [])) t → Steps p.tables e below (s₁.setTop (entryFrame m #[(.ref a1), (.long q2), (.long q3), (.long q4)] 7)) t := fun t k => castTop (ef_1 m a1 q2 q3 q4) k
  obtain ⟨_, _, ⟨T5, L5, k5, n5⟩, -, X5, ⟨Lc5, hQ5, l5, y5, z5⟩, st5⟩ := X0.specialBack hx (y := (⟨"java/lang/Record", "<init>", "()V"⟩ : MethodName)) rfl hown (mvT hZ (hw _ (List.mem_of_getElem? (i := 10) rfl))) (mvT hZ (hw _ (List.mem_of_getElem? (i := 11) rfl))) (mvT hZ (hw _ (List.mem_of_getElem? (i := 14) rfl))) (by decide) (backOf (W := 0) (rm2 l Z a0 hw [] a1 h0 n0 Z0) hZ (hw _ (List.mem_of_getElem? (i := 14) rfl)) (hw _ (List.mem_of_getElem? (i := 13) rfl)) (by decide) (by decide)) (g := (mkF m 1 #[.val (.ref a1), .val (.long q2), .second, .val (.long q3), .second, .val (.long q4), .second] [(.ref a1)])) rfl (by rw [hml]; rfl) (Steps.refl _) (a := a1) (argsL := []) (rest := []) (lenOf pd_1_1 rfl) rfl (by show 2 * 0 + _ ≤ _; exact Nat.le_of_eq rfl) (hb hby d1_1) (fun _ _ => ⟨rfl, e0, (by decide : 0 + 0 ≤ _), (by decide : 0 + 0 ≤ _)⟩)
  dsimp only [Pt.U, Pt.locs, Pt.cells, Pt.slots] at X5 l5 y5 z5 st5 hQ5
  subst l5 y5 z5
  obtain ⟨rfl, N5q, e5⟩ := hQ5
  have N5 := Fr.app N0 N5q
  obtain ⟨T6, h6, X6, e6, W6, st6⟩ := putF X5 hx hZ hown (host := "") (Or.inl (hw _ (List.mem_of_getElem? (i := 18) rfl))) Via.refl e5 F_nanos_a1 E_a1 (Or.inr ⟨(hw _ (List.mem_of_getElem? (i := 19) rfl)), rfl, hnm⟩) (hw _ (List.mem_of_getElem? (i := 5) rfl)) (ty := .long) (by decide) rfl rfl (g := (mkF m 6 #[.val (.ref a1), .val (.long q2), .second, .val (.long q3), .second, .val (.long q4), .second] [(.long q2), (.ref a1)])) rfl rfl (hb hby d1_6)
  have Fw6 := F_nanos_a1.same W6
  have K6 : Keep h0 h6 [a1] := (Keep.refl h0 [a1]).wr W6 (Or.inl (List.mem_of_getElem? (i := 0) rfl))
  have N6 := Fr.snoc X6 N5 g_a1
  obtain ⟨T7, h7, X7, e7, W7, st7⟩ := putF X6 hx hZ hown (host := "") (Or.inl (hw _ (List.mem_of_getElem? (i := 20) rfl))) Via.refl e6 (F_part_a1.other W6 (Or.inr (slot_ne (Or.inr (hw _ (List.mem_of_getElem? (i := 21) rfl))) (Or.inr (hw _ (List.mem_of_getElem? (i := 19) rfl))) (by decide) (t := .long) (t' := .long) (by decide) (by decide)))) (E_a1.wr W6) (Or.inr ⟨(hw _ (List.mem_of_getElem? (i := 21) rfl)), rfl, hnm⟩) (hw _ (List.mem_of_getElem? (i := 5) rfl)) (ty := .long) (by decide) rfl rfl (g := (mkF m 11 #[.val (.ref a1), .val (.long q2), .second, .val (.long q3), .second, .val (.long q4), .second] [(.long q3), (.ref a1)])) rfl rfl (hb hby d1_11)
  have Fw7 := (F_part_a1.other W6 (Or.inr (slot_ne (Or.inr (hw _ (List.mem_of_getElem? (i := 21) rfl))) (Or.inr (hw _ (List.mem_of_getElem? (i := 19) rfl))) (by decide) (t := .long) (t' := .long) (by decide) (by decide)))).same W7
  have K7 : Keep h0 h7 [a1] := K6.wr W7 (Or.inl (List.mem_of_getElem? (i := 0) rfl))
  have N7 := Fr.snoc X7 N6 g_a1
  obtain ⟨T8, h8, X8, e8, W8, st8⟩ := putF X7 hx hZ hown (host := "") (Or.inl (hw _ (List.mem_of_getElem? (i := 22) rfl))) Via.refl e7 ((F_parts_a1.other W6 (Or.inr (slot_ne (Or.inr (hw _ (List.mem_of_getElem? (i := 23) rfl))) (Or.inr (hw _ (List.mem_of_getElem? (i := 19) rfl))) (by decide) (t := .long) (t' := .long) (by decide) (by decide)))).other W7 (Or.inr (slot_ne (Or.inr (hw _ (List.mem_of_getElem? (i := 23) rfl))) (Or.inr (hw _ (List.mem_of_getElem? (i := 21) rfl))) (by decide) (t := .long) (t' := .long) (by decide) (by decide)))) ((E_a1.wr W6).wr W7) (Or.inr ⟨(hw _ (List.mem_of_getElem? (i := 23) rfl)), rfl, hnm⟩) (hw _ (List.mem_of_getElem? (i := 5) rfl)) (ty := .long) (by decide) rfl rfl (g := (mkF m 17 #[.val (.ref a1), .val (.long q2), .second, .val (.long q3), .second, .val (.long q4), .second] [(.long q4), (.ref a1)])) rfl rfl (hb hby d1_17)
  have Fw8 := ((F_parts_a1.other W6 (Or.inr (slot_ne (Or.inr (hw _ (List.mem_of_getElem? (i := 23) rfl))) (Or.inr (hw _ (List.mem_of_getElem? (i := 19) rfl))) (by decide) (t := .long) (t' := .long) (by decide) (by decide)))).other W7 (Or.inr (slot_ne (Or.inr (hw _ (List.mem_of_getElem? (i := 23) rfl))) (Or.inr (hw _ (List.mem_of_getElem? (i := 21) rfl))) (by decide) (t := .long) (t' := .long) (by decide) (by decide)))).same W8
  have K8 : Keep h0 h8 [a1] := K7.wr W8 (Or.inl (List.mem_of_getElem? (i := 0) rfl))
  have N8 := Fr.snoc X8 N7 g_a1
  obtain ⟨fs, hr, hrun, hended, hW, hsame⟩ := X8.leave (v := none) (fun _ => rfl)
  refine ⟨_, _, pre0 _ ?_, hrun, hended, _, _, rfl, ?_, ⟨_, rfl⟩, hW, hsame.mono (by decide) (by decide)⟩
  · show Steps p.tables e below (s₁.setTop (mkF m 0 #[.val (.ref a1), .val (.long q2), .second, .val (.long q3), .second, .val (.long q4), .second] [])) _
    refine XS.aloadN X0.here hx rfl (hb hby d1_0) rfl rfl ?_
    show Steps p.tables e below (s₁.setTop (mkF m 1 #[.val (.ref a1), .val (.long q2), .second, .val (.long q3), .second, .val (.long q4), .second] [(.ref a1)])) _
    refine st5.trans ?_
    show Steps p.tables e below (T5.setTop (mkF m 4 #[.val (.ref a1), .val (.long q2), .second, .val (.long q3), .second, .val (.long q4), .second] [])) _
    refine XS.aloadN X5.here hx rfl (hb hby d1_4) rfl rfl ?_
    show Steps p.tables e below (T5.setTop (mkF m 5 #[.val (.ref a1), .val (.long q2), .second, .val (.long q3), .second, .val (.long q4), .second] [(.ref a1)])) _
    refine XS.lloadN X5.here hx rfl (hb hby d1_5) rfl ?_
    show Steps p.tables e below (T5.setTop (mkF m 6 #[.val (.ref a1), .val (.long q2), .second, .val (.long q3), .second, .val (.long q4), .second] [(.long q2), (.ref a1)])) _
    refine st6 _ ?_
    show Steps p.tables e below (T6.setTop (mkF m 9 #[.val (.ref a1), .val (.long q2), .second, .val (.long q3), .second, .val (.long q4), .second] [])) _
    refine XS.aloadN X6.here hx rfl (hb hby d1_9) rfl rfl ?_
    show Steps p.tables e below (T6.setTop (mkF m 10 #[.val (.ref a1), .val (.long q2), .second, .val (.long q3), .second, .val (.long q4), .second] [(.ref a1)])) _
    refine XS.lloadN X6.here hx rfl (hb hby d1_10) rfl ?_
    show Steps p.tables e below (T6.setTop (mkF m 11 #[.val (.ref a1), .val (.long q2), .second, .val (.long q3), .second, .val (.long q4), .second] [(.long q3), (.ref a1)])) _
    refine st7 _ ?_
    show Steps p.tables e below (T7.setTop (mkF m 14 #[.val (.ref a1), .val (.long q2), .second, .val (.long q3), .second, .val (.long q4), .second] [])) _
    refine XS.aloadN X7.here hx rfl (hb hby d1_14) rfl rfl ?_
    show Steps p.tables e below (T7.setTop (mkF m 15 #[.val (.ref a1), .val (.long q2), .second, .val (.long q3), .second, .val (.long q4), .second] [(.ref a1)])) _
    refine XS.lload X7.here hx rfl (hb hby d1_15) rfl ?_
    show Steps p.tables e below (T7.setTop (mkF m 17 #[.val (.ref a1), .val (.long q2), .second, .val (.long q3), .second, .val (.long q4), .second] [(.long q4), (.ref a1)])) _
    refine st8 _ ?_
    show Steps p.tables e below (T8.setTop (mkF m 20 #[.val (.ref a1), .val (.long q2), .second, .val (.long q3), .second, .val (.long q4), .second] [])) _
    exact X8.returnOut hx Bd.returns (hb hby d1_20) hr
  · show Q1 Z a1 q2 q3 q4 u_nanos_a1 u_part_a1 u_parts_a1 h0 n0 _ T8.heap _
    rw [e8]
    exact ⟨rfl, N8, K8, Fw7.other W8 (Or.inr (slot_ne (Or.inr (hw _ (List.mem_of_getElem? (i := 21) rfl))) (Or.inr (hw _ (List.mem_of_getElem? (i := 23) rfl))) (by decide) (t := .long) (t' := .long) (by decide) (by decide))), Fw8⟩
theorem pd_1 : parseMethodDescriptor "(JJJ)V" = some ⟨[.long, .long, .long], none⟩ := by decide +kernel
theorem d4_0 : decode prog_24_method_2_code 0 = .ok (.aload_n 0, 1) := by decide +kernel
theorem d4_1 : decode prog_24_method_2_code 1 = .ok (.getfield 13, 3) := by decide +kernel
theorem d4_4 : decode prog_24_method_2_code 4 = .ok (.lload_n 1, 1) := by decide +kernel
theorem d4_5 : decode prog_24_method_2_code 5 = .ok (.lmul, 1) := by decide +kernel
theorem d4_6 : decode prog_24_method_2_code 6 = .ok (.aload_n 0, 1) := by decide +kernel
theorem d4_7 : decode prog_24_method_2_code 7 = .ok (.getfield 16, 3) := by decide +kernel
theorem d4_10 : decode prog_24_method_2_code 10 = .ok (.ldiv, 1) := by decide +kernel
theorem d4_11 : decode prog_24_method_2_code 11 = .ok (.lreturn, 1) := by decide +kernel
theorem pn_4 : plainName "com/example/rotifer/rotifer/Span" = true := by first | (simp [plainName, overriddenIn]; done) | decide +kernel
theorem ef_4 (m : MethodId) (x0 : Addr) (x1 : Int64) : entryFrame m #[(.ref x0), (.long x1)] 3 = mkF m 0 #[.val (.ref x0), .val (.long x1), .second] [] := by first | (simp [entryFrame, mkF, argsToLocals, Value.category]; done) | rfl
def Q4 (Z : State) (a1 : Addr) (q2 : Int64) (w3 : Int64) (w5 : Int64) (h0 : Heap) (n0 : Nat) (v : Option Value) (h : Heap) (L : List Loc) : Prop := v = some (.long ((w3 * q2) / w5)) ∧ Fr n0 L ∧ h = h0
set_option maxRecDepth 65536 in
set_option maxHeartbeats 40000000 in
theorem rm4 (l : Launch) (Z : State) (a0 : Array Value) (hw : ∀ d ∈ tables_1, d.before a0 Z = true) (ws : List Jvm.Cond) (a1 : Addr) (q2 : Int64) (w3 : Int64) (w5 : Int64) (h0 : Heap) (n0 : Nat) (Z0 : n0 ≤ h0.size) (F_part_a1 : Fld Z h0 a1 "com/example/rotifer/rotifer/Span" "part" "J" (.long w3)) (F_parts_a1 : Fld Z h0 a1 "com/example/rotifer/rotifer/Span" "parts" "J" (.long w5)) (hnz10 : ¬ (w5 = (0 : Int64))) :
    MetFree l (⟨"com/example/rotifer/rotifer/Span", "partIn", "(J)J"⟩ : MethodName) (head1 (Jvm.Cond.code (⟨"com/example/rotifer/rotifer/Span", "partIn", "(J)J"⟩ : MethodName) prog_24_method_2_code 3 (some .long) :: ws) ({ frames := 0, cells := 0, slots := 0, locals := 0 } : Room)) (fun a U => a = #[(.ref a1), (.long q2)] ∧ Z.Warmed39 U.vm ∧ U.heap = h0) (fun _ _ _ _ _ => True) (fun _ U o U' => ∃ v L, o = .returned v ∧ Q4 Z a1 q2 w3 w5 h0 n0 v U'.heap L ∧ FrameEnd U o U' L ({ frames := 0, cells := 0, slots := 0, locals := 0 } : Room).cells ({ frames := 0, cells := 0, slots := 0, locals := 0 } : Room).slots) := by
  refine MetFree.of_bodySF (plainFor_of_name pn_4) hisR ?_
  intro p e s m args below meth c s₁ Bd hml0 hP hK
  obtain ⟨rfl, hZ, hh⟩ := hP
  have hx := Bd.exec
  have hby := Bd.bytes
  have hml : c.maxLocals = 3 := hml0
  have hown : s.vm.findClass "com/example/rotifer/rotifer/Span" = some m.cls := findClass_of_methodNamed Bd.named
  have hnm := (name_of_methodNamed Bd.named Bd.method).1
  have X0 : Stand p l e ({ frames := 0, cells := 0, slots := 0, locals := 0 } : Room) s m #[(.ref a1), (.long q2)] below meth c s₁ [] 0 0 := Stand.of_body Bd
  have e0 : s₁.heap = h0 := by rw [← hh, Bd.state]; rfl
  have N0 := Fr.nil n0
  have pre0 : ∀ t, Steps p.tables e below (s₁.setTop (mkF m 0 #[.val (.ref a1), .val (.long q2), .second] [])) t → Steps p.tables e below (s₁.setTop (entryFrame m #[(.ref a1), (.long q2)] 3)) t := fun t k => castTop (ef_4 m a1 q2) k
  obtain ⟨T4, X4, e4, st4⟩ := getF X0 hx hZ hown (host := "") (Or.inl (hw _ (List.mem_of_getElem? (i := 20) rfl))) Via.refl e0 F_part_a1 (g := (mkF m 1 #[.val (.ref a1), .val (.long q2), .second] [(.ref a1)])) rfl rfl (hb hby d4_1)
  obtain ⟨T6, X6, e6, st6⟩ := getF X4 hx hZ hown (host := "") (Or.inl (hw _ (List.mem_of_getElem? (i := 22) rfl))) Via.refl e4 F_parts_a1 (g := (mkF m 7 #[.val (.ref a1), .val (.long q2), .second] [(.ref a1), (.long (w3 * q2))])) rfl rfl (hb hby d4_7)
  obtain ⟨fs, hr, hrun, hended, hW, hsame⟩ := X6.leave (v := some (.long ((w3 * q2) / w5))) (fun h => by rw [Bd.returns] at h; cases h)
  refine ⟨_, _, pre0 _ ?_, hrun, hended, _, _, rfl, ?_, ⟨_, rfl⟩, hW, hsame.mono (by decide) (by decide)⟩
  · show Steps p.tables e below (s₁.setTop (mkF m 0 #[.val (.ref a1), .val (.long q2), .second] [])) _
    refine XS.aloadN X0.here hx rfl (hb hby d4_0) rfl rfl ?_
    show Steps p.tables e below (s₁.setTop (mkF m 1 #[.val (.ref a1), .val (.long q2), .second] [(.ref a1)])) _
    refine st4 _ ?_
    show Steps p.tables e below (T4.setTop (mkF m 4 #[.val (.ref a1), .val (.long q2), .second] [(.long w3)])) _
    refine XS.lloadN X4.here hx rfl (hb hby d4_4) rfl ?_
    show Steps p.tables e below (T4.setTop (mkF m 5 #[.val (.ref a1), .val (.long q2), .second] [(.long q2), (.long w3)])) _
    refine XS.lmul X4.here hx rfl (hb hby d4_5) rfl ?_
    show Steps p.tables e below (T4.setTop (mkF m 6 #[.val (.ref a1), .val (.long q2), .second] [(.long (w3 * q2))])) _
    refine XS.aloadN X4.here hx rfl (hb hby d4_6) rfl rfl ?_
    show Steps p.tables e below (T4.setTop (mkF m 7 #[.val (.ref a1), .val (.long q2), .second] [(.ref a1), (.long (w3 * q2))])) _
    refine st6 _ ?_
    show Steps p.tables e below (T6.setTop (mkF m 10 #[.val (.ref a1), .val (.long q2), .second] [(.long w5), (.long (w3 * q2))])) _
    refine XS.ldiv X6.here hx rfl (hb hby d4_10) rfl hnz10 ?_
    show Steps p.tables e below (T6.setTop (mkF m 11 #[.val (.ref a1), .val (.long q2), .second] [(.long ((w3 * q2) / w5))])) _
    jvm_step X6.here [X6.here.top, hx, (hb hby d4_11), X6.method', Bd.returns, narrow]
    first | (intro acts; rw [hr _ acts rfl rfl rfl]) | rw [hr _ _ rfl rfl rfl]
    exact Steps.refl _
  · show Q4 Z a1 q2 w3 w5 h0 n0 _ T6.heap _
    rw [e6]
    exact ⟨rfl, N0, rfl⟩
theorem pd_4 : parseMethodDescriptor "(J)J" = some ⟨[.long], (some .long)⟩ := by decide +kernel
theorem own_parts (x : Int64) : 1 ≤ ((x &&& (4294967295 : Int64)) - (x &&& (4294967295 : Int64)) / (2147483648 : Int64) * (2147483648 : Int64) + (1 : Int64)).toInt ∧ ((x &&& (4294967295 : Int64)) - (x &&& (4294967295 : Int64)) / (2147483648 : Int64) * (2147483648 : Int64) + (1 : Int64)).toInt ≤ 2147483648 := by
  have a1 := c_maskL x 4294967295 32 (by decide) (by decide)
  have a2 := (c_lrem (x &&& 4294967295) 2147483648 2147483648 (by decide)).1
  have a3 := c_ladd ((x &&& (4294967295 : Int64)) - (x &&& (4294967295 : Int64)) / (2147483648 : Int64) * (2147483648 : Int64)) 1
  have a4 := rng64 ((x &&& (4294967295 : Int64)) - (x &&& (4294967295 : Int64)) / (2147483648 : Int64) * (2147483648 : Int64) + (1 : Int64))
  have a5 : (1 : Int64).toInt = 1 := by decide
  have a6 := a2 (by omega)
  rw [a5, a6] at a3
  omega
theorem own_other (x : Int64) : 0 ≤ ((x &&& (4294967295 : Int64)) - (x &&& (4294967295 : Int64)) / (2147483649 : Int64) * (2147483649 : Int64)).toInt ∧ ((x &&& (4294967295 : Int64)) - (x &&& (4294967295 : Int64)) / (2147483649 : Int64) * (2147483649 : Int64)).toInt ≤ 2147483648 := by
  have a1 := c_maskL x 4294967295 32 (by decide) (by decide)
  have a2 := (c_lrem (x &&& 4294967295) 2147483649 2147483649 (by decide)).1
  have a6 := a2 (by omega)
  omega
theorem own_part (x d : Int64) (h : 1 ≤ d.toInt) : 0 ≤ ((x &&& (9223372036854775807 : Int64)) - (x &&& (9223372036854775807 : Int64)) / d * d).toInt ∧ ((x &&& (9223372036854775807 : Int64)) - (x &&& (9223372036854775807 : Int64)) / d * d).toInt < d.toInt := by
  have a1 := c_maskL x 9223372036854775807 63 (by decide) (by decide)
  have a2 := (c_lrem (x &&& 9223372036854775807) d d.toInt rfl).1
  have a0 : 0 ≤ (x &&& (9223372036854775807 : Int64)).toInt := by rw [a1]; exact Int.emod_nonneg _ (by decide)
  rw [a2 a0]
  exact ⟨Int.emod_nonneg _ (by omega), Int.emod_lt_of_pos _ (by omega)⟩
theorem own_nz {d : Int64} (h : 1 ≤ d.toInt) : ¬ d = 0 := by
  rintro rfl
  revert h; decide
/-- the four answers of the law's last rows -/
theorem own_laws (a d o : Int64) (h1 : 1 ≤ d.toInt) (h2 : d.toInt ≤ 2147483648) (h3 : 0 ≤ a.toInt) (h4 : a.toInt < d.toInt) (h5 : 0 ≤ o.toInt) (h6 : o.toInt ≤ 2147483648) :
    ¬ a * o / d < 0 ∧ ¬ o < a * o / d ∧ ¬ a * o < a * o / d * d ∧ a * o < (a * o / d + 1) * d := by
  have m0 : 0 ≤ a.toInt * o.toInt := Int.mul_nonneg h3 h5
  have m1 : a.toInt * o.toInt ≤ 2147483648 * 2147483648 := Int.mul_le_mul (by omega) h6 h5 (by decide)
  have m2 : a.toInt * o.toInt ≤ d.toInt * o.toInt := Int.mul_le_mul_of_nonneg_right (by omega) h5
  have c1 := c_lmul a o
  have r1 := rng64 (a * o)
  have P : (a * o).toInt = a.toInt * o.toInt := by omega
  have hne : d ≠ -1 := by rintro rfl; revert h1; decide
  have R : (a * o / d).toInt = a.toInt * o.toInt / d.toInt := by rw [(c_ldiv (a * o) d d.toInt rfl hne).1 (by omega), P]
  generalize hT : a.toInt * o.toInt = t at *
  have q1 : t / d.toInt * d.toInt ≤ t := Int.ediv_mul_le _ (by omega)
  have q2 : t < (t / d.toInt + 1) * d.toInt := Int.lt_ediv_add_one_mul_self _ (by omega)
  have q3 : 0 ≤ t / d.toInt := Int.ediv_nonneg m0 (by omega)
  have q4 : t / d.toInt ≤ o.toInt := Int.ediv_le_of_le_mul (by omega) (by rw [Int.mul_comm]; exact m2)
  have q5 : 0 ≤ t / d.toInt * d.toInt := Int.mul_nonneg q3 (by omega)
  have q6 : (t / d.toInt + 1) * d.toInt = t / d.toInt * d.toInt + d.toInt := by rw [Int.add_mul, Int.one_mul]
  have c2 := c_lmul (a * o / d) d
  have r2 := rng64 (a * o / d * d)
  rw [R] at c2
  have M : (a * o / d * d).toInt = t / d.toInt * d.toInt := by omega
  have c3 := c_ladd (a * o / d) 1
  have r3 := rng64 (a * o / d + 1)
  have k1 : (1 : Int64).toInt = 1 := by decide
  rw [R, k1] at c3
  have A : (a * o / d + 1).toInt = t / d.toInt + 1 := by omega
  have c4 := c_lmul (a * o / d + 1) d
  have r4 := rng64 ((a * o / d + 1) * d)
  rw [A] at c4
  have B : ((a * o / d + 1) * d).toInt = (t / d.toInt + 1) * d.toInt := by omega
  have k0 : (0 : Int64).toInt = 0 := by decide
  refine ⟨?_, ?_, ?_, ?_⟩
  · rw [Int64.lt_iff_toInt_lt, R, k0]; omega
  · rw [Int64.lt_iff_toInt_lt, R]; omega
  · rw [Int64.lt_iff_toInt_lt, M, P]; omega
  · rw [Int64.lt_iff_toInt_lt, B, P]; omega
theorem pn_0 : plainName "com/example/rotifer/rotifer/SpanPartInPinLaw" = true := by first | (simp [plainName, overriddenIn]; done) | decide +kernel
theorem ef_0 (m : MethodId) (na : Int64) (qa : Int64) (pa : Int64) (oa : Int64) : entryFrame m #[(.long na), (.long qa), (.long pa), (.long oa)] maxLocals = mkF m 0 #[.val (.long na), .second, .val (.long qa), .second, .val (.long pa), .second, .val (.long oa), .second, .unset, .unset, .unset, .unset, .unset, .unset, .unset, .unset, .unset, .unset, .unset] [] := by first | (simp [entryFrame, mkF, argsToLocals, Value.category, maxLocals]; done) | rfl
def Q0 (Z : State) (na : Int64) (qa : Int64) (pa : Int64) (oa : Int64) (h0 : Heap) (n0 : Nat) (v : Option Value) (h : Heap) (L : List Loc) : Prop := v = some (.int 1) ∧ Fr n0 L
set_option maxRecDepth 65536 in
set_option maxHeartbeats 40000000 in
theorem rm0 (l : Launch) (Z : State) (a0 : Array Value) (hw : ∀ d ∈ tables_1, d.before a0 Z = true) (ws : List Jvm.Cond) (na : Int64) (qa : Int64) (pa : Int64) (oa : Int64)  (h0 : Heap) (n0 : Nat) (Z0 : n0 ≤ h0.size)  :
    MetFree l x (head1 (Jvm.Cond.code x code maxLocals ret :: ws) room_1) (fun a U => a = #[(.long na), (.long qa), (.long pa), (.long oa)] ∧ Z.Warmed39 U.vm ∧ U.heap = h0) (fun _ _ _ _ _ => True) (fun _ U o U' => ∃ v L, o = .returned v ∧ Q0 Z na qa pa oa  h0 n0 v U'.heap L ∧ FrameEnd U o U' L room_1.cells room_1.slots) := by
  refine MetFree.of_bodySF (plainFor_of_name pn_0) hisR ?_
  intro p e s m args below meth c s₁ Bd hml0 hP hK
  obtain ⟨rfl, hZ, hh⟩ := hP
  have hx := Bd.exec
  have hby := Bd.bytes
  have hml : c.maxLocals = 19 := hml0
  have hown : s.vm.findClass "com/example/rotifer/rotifer/SpanPartInPinLaw" = some m.cls := findClass_of_methodNamed Bd.named
  have hnm := (name_of_methodNamed Bd.named Bd.method).1
  have X0 : Stand p l e room_1 s m #[(.long na), (.long qa), (.long pa), (.long oa)] below meth c s₁ [] 0 0 := Stand.of_body Bd
  have e0 : s₁.heap = h0 := by rw [← hh, Bd.state]; rfl
  have N0 := Fr.nil n0
  have pre0 : ∀ t, Steps p.tables e below (s₁.setTop (mkF m 0 #[.val (.long na), .second, .val (.long qa), .second, .val (.long pa), .second, .val (.long oa), .second, .unset, .unset, .unset, .unset, .unset, .unset, .unset, .unset, .unset, .unset, .unset] [])) t → Steps p.tables e below (s₁.setTop (entryFrame m #[(.long na), (.long qa), (.long pa), (.long oa)] maxLocals)) t := fun t k => castTop (ef_0 m na qa pa oa) k
  obtain ⟨pt, hpt⟩ : ∃ z, z = (((pa &&& (4294967295 : Int64)) - (pa &&& (4294967295 : Int64)) / (2147483648 : Int64) * (2147483648 : Int64)) + (1 : Int64)) := ⟨_, rfl⟩
  obtain ⟨pr, hpr⟩ : ∃ z, z = ((qa &&& (9223372036854775807 : Int64)) - (qa &&& (9223372036854775807 : Int64)) / pt * pt) := ⟨_, rfl⟩
  obtain ⟨ot, hot⟩ : ∃ z, z = ((oa &&& (4294967295 : Int64)) - (oa &&& (4294967295 : Int64)) / (2147483649 : Int64) * (2147483649 : Int64)) := ⟨_, rfl⟩
  have hb1 := own_parts pa
  rw [← hpt] at hb1
  have hb2 := own_part qa pt hb1.1
  rw [← hpr] at hb2
  have hb3 := own_other oa
  rw [← hot] at hb3
  have hlaw := own_laws pr pt ot hb1.1 hb1.2 hb2.1 hb2.2 hb3.1 hb3.2
  obtain ⟨T1, h1, X1, e1, E1, A1, D1, -, st1⟩ := newO X0 hx hZ hown (hw _ (List.mem_of_getElem? (i := 4) rfl)) (hw _ (List.mem_of_getElem? (i := 5) rfl)) (hw _ (List.mem_of_getElem? (i := 6) rfl)) e0 (g := (mkF m 36 #[.val (.long na), .second, .val (.long qa), .second, .val (.long pa), .second, .val (.long oa), .second, .val (.long pt), .second, .val (.long pr), .second, .val (.long ot), .second, .unset, .unset, .unset, .unset, .unset] [])) rfl (hb hby at_36) (by decide) (by decide)
  obtain ⟨b1, g1⟩ : ∃ z, z = h0.size := ⟨_, rfl⟩
  rw [← g1] at A1 D1 st1
  have F_nanos_b1 : Fld Z h1 b1 "com/example/rotifer/rotifer/Span" "nanos" "J" (.long (0 : Int64)) := D1 (Or.inr (hw _ (List.mem_of_getElem? (i := 19) rfl))) (ty := .long) (by decide)
  have F_part_b1 : Fld Z h1 b1 "com/example/rotifer/rotifer/Span" "part" "J" (.long (0 : Int64)) := D1 (Or.inr (hw _ (List.mem_of_getElem? (i := 21) rfl))) (ty := .long) (by decide)
  have F_parts_b1 : Fld Z h1 b1 "com/example/rotifer/rotifer/Span" "parts" "J" (.long (0 : Int64)) := D1 (Or.inr (hw _ (List.mem_of_getElem? (i := 23) rfl))) (ty := .long) (by decide)
  have Z1 : n0 ≤ h1.size := Nat.le_trans Z0 E1.1
  obtain ⟨_, _, ⟨T2, L2, k2, n2⟩, -, X2, ⟨Lc2, hQ2, l2, y2, z2⟩, st2⟩ := X1.specialBack hx (y := (⟨"com/example/rotifer/rotifer/Span", "<init>", "(JJJ)V"⟩ : MethodName)) rfl hown (mvT hZ (hw _ (List.mem_of_getElem? (i := 7) rfl))) (mvT hZ (hw _ (List.mem_of_getElem? (i := 8) rfl))) (mvT hZ (hw _ (List.mem_of_getElem? (i := 9) rfl))) (by decide) (backOf (W := 1) (rm1 l Z a0 hw [] b1 na pr pt (.long 0) (.long 0) (.long 0) h1 n0 Z1 A1 F_nanos_b1 (Nat.le_trans Z0 (Nat.le_of_eq g1.symm)) F_part_b1 F_parts_b1) hZ (hw _ (List.mem_of_getElem? (i := 9) rfl)) (hw _ (List.mem_of_getElem? (i := 6) rfl)) (by decide) (by decide)) (g := (mkF m 45 #[.val (.long na), .second, .val (.long qa), .second, .val (.long pa), .second, .val (.long oa), .second, .val (.long pt), .second, .val (.long pr), .second, .val (.long ot), .second, .unset, .unset, .unset, .unset, .unset] [(.long pt), (.long pr), (.long na), (.ref b1), (.ref b1)])) rfl (by rw [hml]; rfl) (Steps.refl _) (a := b1) (argsL := [(.long na), (.long pr), (.long pt)]) (rest := [(.ref b1)]) (lenOf pd_1 rfl) rfl (by show 2 * 0 + _ ≤ _; exact Nat.le_of_eq rfl) (hb hby at_45) (fun _ _ => ⟨rfl, e1, (by decide : 1 + 0 ≤ _), (by decide : 3 + 0 ≤ _)⟩)
  dsimp only [Pt.U, Pt.locs, Pt.cells, Pt.slots] at X2 l2 y2 z2 st2 hQ2
  subst l2 y2 z2
  obtain ⟨rfl, Nq2, K2, Fp2, Fs2⟩ := hQ2
  have N2 := Fr.app N0 Nq2
  have Z2 : n0 ≤ T2.heap.size := Nat.le_trans Z1 K2.1
  have Ex2 := A1.keep K2
  obtain ⟨cq3, kq3, qa3, qb3, qc3⟩ := isOf hZ rfl Ex2
  obtain ⟨_, _, ⟨T3, L3, k3, n3⟩, -, X3, ⟨Lc3, hQ3, l3, y3, z3⟩, st3⟩ := X2.virtualBack hx (y := (⟨"com/example/rotifer/rotifer/Span", "partIn", "(J)J"⟩ : MethodName)) (z := (⟨"com/example/rotifer/rotifer/Span", "partIn", "(J)J"⟩ : MethodName)) hown (mvT hZ (hw _ (List.mem_of_getElem? (i := 24) rfl))) (mvT hZ (hw _ (List.mem_of_getElem? (i := 25) rfl))) (notFace_of_selects (args := #[]) (mvT hZ (hw _ (List.mem_of_getElem? (i := 27) rfl)))) (mvT hZ (hw _ (List.mem_of_getElem? (i := 27) rfl))) (mvT hZ (hw _ (List.mem_of_getElem? (i := 26) rfl))) (by decide) (backOf (W := 0) (rm4 l Z a0 hw [] b1 ot pr pt T2.heap n0 Z2 Fp2 Fs2 (own_nz hb1.1)) hZ (hw _ (List.mem_of_getElem? (i := 28) rfl)) (hw _ (List.mem_of_getElem? (i := 6) rfl)) (by decide) (by decide)) qa3 qc3 (g := (mkF m 54 #[.val (.long na), .second, .val (.long qa), .second, .val (.long pa), .second, .val (.long oa), .second, .val (.long pt), .second, .val (.long pr), .second, .val (.long ot), .second, .val (.ref b1), .unset, .unset, .unset, .unset] [(.long ot), (.ref b1)])) rfl (by rw [hml]; rfl) (Steps.refl _) (argsL := [(.long ot)]) (rest := []) (lenOf pd_4 rfl) rfl (by show 2 * 0 + _ ≤ _; exact Nat.le_of_eq rfl) (hb hby at_54) (fun _ _ => ⟨rfl, rfl, (by decide : 1 + 0 ≤ _), (by decide : 3 + 0 ≤ _)⟩)
  dsimp only [Pt.U, Pt.locs, Pt.cells, Pt.slots] at X3 l3 y3 z3 st3 hQ3
  subst l3 y3 z3
  obtain ⟨rfl, Nq3, e3⟩ := hQ3
  have N3 := Fr.app N2 Nq3
  obtain ⟨rr, hrr⟩ : ∃ z, z = ((pr * ot) / pt) := ⟨_, rfl⟩
  rw [← hrr] at hlaw
  obtain ⟨fs, hr, hrun, hended, hW, hsame⟩ := X3.leave (v := some (.int (1 : Int32))) (fun h => by rw [Bd.returns] at h; cases h)
  refine ⟨_, _, pre0 _ ?_, hrun, hended, _, _, rfl, ?_, ⟨_, rfl⟩, hW, hsame.mono (by decide) (by decide)⟩
  · show Steps p.tables e below (s₁.setTop (mkF m 0 #[.val (.long na), .second, .val (.long qa), .second, .val (.long pa), .second, .val (.long oa), .second, .unset, .unset, .unset, .unset, .unset, .unset, .unset, .unset, .unset, .unset, .unset] [])) _
    refine XS.lload X0.here hx rfl (hb hby at_0) rfl ?_
    show Steps p.tables e below (s₁.setTop (mkF m 2 #[.val (.long na), .second, .val (.long qa), .second, .val (.long pa), .second, .val (.long oa), .second, .unset, .unset, .unset, .unset, .unset, .unset, .unset, .unset, .unset, .unset, .unset] [(.long pa)])) _
    refine X0.ldc2Long hx hown (mvT hZ (hw _ (List.mem_of_getElem? (i := 0) rfl))) (g := (mkF m 2 #[.val (.long na), .second, .val (.long qa), .second, .val (.long pa), .second, .val (.long oa), .second, .unset, .unset, .unset, .unset, .unset, .unset, .unset, .unset, .unset, .unset, .unset] [(.long pa)])) rfl (hb hby at_2) _ ?_
    show Steps p.tables e below (s₁.setTop (mkF m 5 #[.val (.long na), .second, .val (.long qa), .second, .val (.long pa), .second, .val (.long oa), .second, .unset, .unset, .unset, .unset, .unset, .unset, .unset, .unset, .unset, .unset, .unset] [(.long (4294967295 : Int64)), (.long pa)])) _
    refine XS.land X0.here hx rfl (hb hby at_5) rfl ?_
    show Steps p.tables e below (s₁.setTop (mkF m 6 #[.val (.long na), .second, .val (.long qa), .second, .val (.long pa), .second, .val (.long oa), .second, .unset, .unset, .unset, .unset, .unset, .unset, .unset, .unset, .unset, .unset, .unset] [(.long (pa &&& (4294967295 : Int64)))])) _
    refine X0.ldc2Long hx hown (mvT hZ (hw _ (List.mem_of_getElem? (i := 1) rfl))) (g := (mkF m 6 #[.val (.long na), .second, .val (.long qa), .second, .val (.long pa), .second, .val (.long oa), .second, .unset, .unset, .unset, .unset, .unset, .unset, .unset, .unset, .unset, .unset, .unset] [(.long (pa &&& (4294967295 : Int64)))])) rfl (hb hby at_6) _ ?_
    show Steps p.tables e below (s₁.setTop (mkF m 9 #[.val (.long na), .second, .val (.long qa), .second, .val (.long pa), .second, .val (.long oa), .second, .unset, .unset, .unset, .unset, .unset, .unset, .unset, .unset, .unset, .unset, .unset] [(.long (2147483648 : Int64)), (.long (pa &&& (4294967295 : Int64)))])) _
    refine XS.lrem X0.here hx rfl (hb hby at_9) rfl (by decide) ?_
    show Steps p.tables e below (s₁.setTop (mkF m 10 #[.val (.long na), .second, .val (.long qa), .second, .val (.long pa), .second, .val (.long oa), .second, .unset, .unset, .unset, .unset, .unset, .unset, .unset, .unset, .unset, .unset, .unset] [(.long ((pa &&& (4294967295 : Int64)) - (pa &&& (4294967295 : Int64)) / (2147483648 : Int64) * (2147483648 : Int64)))])) _
    refine XS.lconst X0.here hx rfl (hb hby at_10) ?_
    show Steps p.tables e below (s₁.setTop (mkF m 11 #[.val (.long na), .second, .val (.long qa), .second, .val (.long pa), .second, .val (.long oa), .second, .unset, .unset, .unset, .unset, .unset, .unset, .unset, .unset, .unset, .unset, .unset] [(.long (1 : Int64)), (.long ((pa &&& (4294967295 : Int64)) - (pa &&& (4294967295 : Int64)) / (2147483648 : Int64) * (2147483648 : Int64)))])) _
    refine XS.ladd X0.here hx rfl (hb hby at_11) rfl ?_
    show Steps p.tables e below (s₁.setTop (mkF m 12 #[.val (.long na), .second, .val (.long qa), .second, .val (.long pa), .second, .val (.long oa), .second, .unset, .unset, .unset, .unset, .unset, .unset, .unset, .unset, .unset, .unset, .unset] [(.long (((pa &&& (4294967295 : Int64)) - (pa &&& (4294967295 : Int64)) / (2147483648 : Int64) * (2147483648 : Int64)) + (1 : Int64)))])) _
    rw [← hpt]
    show Steps p.tables e below (s₁.setTop (mkF m 12 #[.val (.long na), .second, .val (.long qa), .second, .val (.long pa), .second, .val (.long oa), .second, .unset, .unset, .unset, .unset, .unset, .unset, .unset, .unset, .unset, .unset, .unset] [(.long pt)])) _
    refine XS.lstore X0.here hx rfl (hb hby at_12) rfl (l' := #[.val (.long na), .second, .val (.long qa), .second, .val (.long pa), .second, .val (.long oa), .second, .val (.long pt), .second, .unset, .unset, .unset, .unset, .unset, .unset, .unset, .unset, .unset]) rfl ?_
    show Steps p.tables e below (s₁.setTop (mkF m 14 #[.val (.long na), .second, .val (.long qa), .second, .val (.long pa), .second, .val (.long oa), .second, .val (.long pt), .second, .unset, .unset, .unset, .unset, .unset, .unset, .unset, .unset, .unset] [])) _
    refine XS.lloadN X0.here hx rfl (hb hby at_14) rfl ?_
    show Steps p.tables e below (s₁.setTop (mkF m 15 #[.val (.long na), .second, .val (.long qa), .second, .val (.long pa), .second, .val (.long oa), .second, .val (.long pt), .second, .unset, .unset, .unset, .unset, .unset, .unset, .unset, .unset, .unset] [(.long qa)])) _
    refine X0.ldc2Long hx hown (mvT hZ (hw _ (List.mem_of_getElem? (i := 2) rfl))) (g := (mkF m 15 #[.val (.long na), .second, .val (.long qa), .second, .val (.long pa), .second, .val (.long oa), .second, .val (.long pt), .second, .unset, .unset, .unset, .unset, .unset, .unset, .unset, .unset, .unset] [(.long qa)])) rfl (hb hby at_15) _ ?_
    show Steps p.tables e below (s₁.setTop (mkF m 18 #[.val (.long na), .second, .val (.long qa), .second, .val (.long pa), .second, .val (.long oa), .second, .val (.long pt), .second, .unset, .unset, .unset, .unset, .unset, .unset, .unset, .unset, .unset] [(.long (9223372036854775807 : Int64)), (.long qa)])) _
    refine XS.land X0.here hx rfl (hb hby at_18) rfl ?_
    show Steps p.tables e below (s₁.setTop (mkF m 19 #[.val (.long na), .second, .val (.long qa), .second, .val (.long pa), .second, .val (.long oa), .second, .val (.long pt), .second, .unset, .unset, .unset, .unset, .unset, .unset, .unset, .unset, .unset] [(.long (qa &&& (9223372036854775807 : Int64)))])) _
    refine XS.lload X0.here hx rfl (hb hby at_19) rfl ?_
    show Steps p.tables e below (s₁.setTop (mkF m 21 #[.val (.long na), .second, .val (.long qa), .second, .val (.long pa), .second, .val (.long oa), .second, .val (.long pt), .second, .unset, .unset, .unset, .unset, .unset, .unset, .unset, .unset, .unset] [(.long pt), (.long (qa &&& (9223372036854775807 : Int64)))])) _
    refine XS.lrem X0.here hx rfl (hb hby at_21) rfl (own_nz hb1.1) ?_
    show Steps p.tables e below (s₁.setTop (mkF m 22 #[.val (.long na), .second, .val (.long qa), .second, .val (.long pa), .second, .val (.long oa), .second, .val (.long pt), .second, .unset, .unset, .unset, .unset, .unset, .unset, .unset, .unset, .unset] [(.long ((qa &&& (9223372036854775807 : Int64)) - (qa &&& (9223372036854775807 : Int64)) / pt * pt))])) _
    rw [← hpr]
    show Steps p.tables e below (s₁.setTop (mkF m 22 #[.val (.long na), .second, .val (.long qa), .second, .val (.long pa), .second, .val (.long oa), .second, .val (.long pt), .second, .unset, .unset, .unset, .unset, .unset, .unset, .unset, .unset, .unset] [(.long pr)])) _
    refine XS.lstore X0.here hx rfl (hb hby at_22) rfl (l' := #[.val (.long na), .second, .val (.long qa), .second, .val (.long pa), .second, .val (.long oa), .second, .val (.long pt), .second, .val (.long pr), .second, .unset, .unset, .unset, .unset, .unset, .unset, .unset]) rfl ?_
    show Steps p.tables e below (s₁.setTop (mkF m 24 #[.val (.long na), .second, .val (.long qa), .second, .val (.long pa), .second, .val (.long oa), .second, .val (.long pt), .second, .val (.long pr), .second, .unset, .unset, .unset, .unset, .unset, .unset, .unset] [])) _
    refine XS.lload X0.here hx rfl (hb hby at_24) rfl ?_
    show Steps p.tables e below (s₁.setTop (mkF m 26 #[.val (.long na), .second, .val (.long qa), .second, .val (.long pa), .second, .val (.long oa), .second, .val (.long pt), .second, .val (.long pr), .second, .unset, .unset, .unset, .unset, .unset, .unset, .unset] [(.long oa)])) _
    refine X0.ldc2Long hx hown (mvT hZ (hw _ (List.mem_of_getElem? (i := 0) rfl))) (g := (mkF m 26 #[.val (.long na), .second, .val (.long qa), .second, .val (.long pa), .second, .val (.long oa), .second, .val (.long pt), .second, .val (.long pr), .second, .unset, .unset, .unset, .unset, .unset, .unset, .unset] [(.long oa)])) rfl (hb hby at_26) _ ?_
    show Steps p.tables e below (s₁.setTop (mkF m 29 #[.val (.long na), .second, .val (.long qa), .second, .val (.long pa), .second, .val (.long oa), .second, .val (.long pt), .second, .val (.long pr), .second, .unset, .unset, .unset, .unset, .unset, .unset, .unset] [(.long (4294967295 : Int64)), (.long oa)])) _
    refine XS.land X0.here hx rfl (hb hby at_29) rfl ?_
    show Steps p.tables e below (s₁.setTop (mkF m 30 #[.val (.long na), .second, .val (.long qa), .second, .val (.long pa), .second, .val (.long oa), .second, .val (.long pt), .second, .val (.long pr), .second, .unset, .unset, .unset, .unset, .unset, .unset, .unset] [(.long (oa &&& (4294967295 : Int64)))])) _
    refine X0.ldc2Long hx hown (mvT hZ (hw _ (List.mem_of_getElem? (i := 3) rfl))) (g := (mkF m 30 #[.val (.long na), .second, .val (.long qa), .second, .val (.long pa), .second, .val (.long oa), .second, .val (.long pt), .second, .val (.long pr), .second, .unset, .unset, .unset, .unset, .unset, .unset, .unset] [(.long (oa &&& (4294967295 : Int64)))])) rfl (hb hby at_30) _ ?_
    show Steps p.tables e below (s₁.setTop (mkF m 33 #[.val (.long na), .second, .val (.long qa), .second, .val (.long pa), .second, .val (.long oa), .second, .val (.long pt), .second, .val (.long pr), .second, .unset, .unset, .unset, .unset, .unset, .unset, .unset] [(.long (2147483649 : Int64)), (.long (oa &&& (4294967295 : Int64)))])) _
    refine XS.lrem X0.here hx rfl (hb hby at_33) rfl (by decide) ?_
    show Steps p.tables e below (s₁.setTop (mkF m 34 #[.val (.long na), .second, .val (.long qa), .second, .val (.long pa), .second, .val (.long oa), .second, .val (.long pt), .second, .val (.long pr), .second, .unset, .unset, .unset, .unset, .unset, .unset, .unset] [(.long ((oa &&& (4294967295 : Int64)) - (oa &&& (4294967295 : Int64)) / (2147483649 : Int64) * (2147483649 : Int64)))])) _
    rw [← hot]
    show Steps p.tables e below (s₁.setTop (mkF m 34 #[.val (.long na), .second, .val (.long qa), .second, .val (.long pa), .second, .val (.long oa), .second, .val (.long pt), .second, .val (.long pr), .second, .unset, .unset, .unset, .unset, .unset, .unset, .unset] [(.long ot)])) _
    refine XS.lstore X0.here hx rfl (hb hby at_34) rfl (l' := #[.val (.long na), .second, .val (.long qa), .second, .val (.long pa), .second, .val (.long oa), .second, .val (.long pt), .second, .val (.long pr), .second, .val (.long ot), .second, .unset, .unset, .unset, .unset, .unset]) rfl ?_
    show Steps p.tables e below (s₁.setTop (mkF m 36 #[.val (.long na), .second, .val (.long qa), .second, .val (.long pa), .second, .val (.long oa), .second, .val (.long pt), .second, .val (.long pr), .second, .val (.long ot), .second, .unset, .unset, .unset, .unset, .unset] [])) _
    refine st1 _ ?_
    show Steps p.tables e below (T1.setTop (mkF m 39 #[.val (.long na), .second, .val (.long qa), .second, .val (.long pa), .second, .val (.long oa), .second, .val (.long pt), .second, .val (.long pr), .second, .val (.long ot), .second, .unset, .unset, .unset, .unset, .unset] [(.ref b1)])) _
    refine XS.dup X1.here hx rfl (hb hby at_39) rfl rfl ?_
    show Steps p.tables e below (T1.setTop (mkF m 40 #[.val (.long na), .second, .val (.long qa), .second, .val (.long pa), .second, .val (.long oa), .second, .val (.long pt), .second, .val (.long pr), .second, .val (.long ot), .second, .unset, .unset, .unset, .unset, .unset] [(.ref b1), (.ref b1)])) _
    refine XS.lloadN X1.here hx rfl (hb hby at_40) rfl ?_
    show Steps p.tables e below (T1.setTop (mkF m 41 #[.val (.long na), .second, .val (.long qa), .second, .val (.long pa), .second, .val (.long oa), .second, .val (.long pt), .second, .val (.long pr), .second, .val (.long ot), .second, .unset, .unset, .unset, .unset, .unset] [(.long na), (.ref b1), (.ref b1)])) _
    refine XS.lload X1.here hx rfl (hb hby at_41) rfl ?_
    show Steps p.tables e below (T1.setTop (mkF m 43 #[.val (.long na), .second, .val (.long qa), .second, .val (.long pa), .second, .val (.long oa), .second, .val (.long pt), .second, .val (.long pr), .second, .val (.long ot), .second, .unset, .unset, .unset, .unset, .unset] [(.long pr), (.long na), (.ref b1), (.ref b1)])) _
    refine XS.lload X1.here hx rfl (hb hby at_43) rfl ?_
    show Steps p.tables e below (T1.setTop (mkF m 45 #[.val (.long na), .second, .val (.long qa), .second, .val (.long pa), .second, .val (.long oa), .second, .val (.long pt), .second, .val (.long pr), .second, .val (.long ot), .second, .unset, .unset, .unset, .unset, .unset] [(.long pt), (.long pr), (.long na), (.ref b1), (.ref b1)])) _
    refine st2.trans ?_
    show Steps p.tables e below (T2.setTop (mkF m 48 #[.val (.long na), .second, .val (.long qa), .second, .val (.long pa), .second, .val (.long oa), .second, .val (.long pt), .second, .val (.long pr), .second, .val (.long ot), .second, .unset, .unset, .unset, .unset, .unset] [(.ref b1)])) _
    refine XS.astore X2.here hx rfl (hb hby at_48) rfl rfl (l' := #[.val (.long na), .second, .val (.long qa), .second, .val (.long pa), .second, .val (.long oa), .second, .val (.long pt), .second, .val (.long pr), .second, .val (.long ot), .second, .val (.ref b1), .unset, .unset, .unset, .unset]) rfl ?_
    show Steps p.tables e below (T2.setTop (mkF m 50 #[.val (.long na), .second, .val (.long qa), .second, .val (.long pa), .second, .val (.long oa), .second, .val (.long pt), .second, .val (.long pr), .second, .val (.long ot), .second, .val (.ref b1), .unset, .unset, .unset, .unset] [])) _
    refine XS.aload X2.here hx rfl (hb hby at_50) rfl rfl ?_
    show Steps p.tables e below (T2.setTop (mkF m 52 #[.val (.long na), .second, .val (.long qa), .second, .val (.long pa), .second, .val (.long oa), .second, .val (.long pt), .second, .val (.long pr), .second, .val (.long ot), .second, .val (.ref b1), .unset, .unset, .unset, .unset] [(.ref b1)])) _
    refine XS.lload X2.here hx rfl (hb hby at_52) rfl ?_
    show Steps p.tables e below (T2.setTop (mkF m 54 #[.val (.long na), .second, .val (.long qa), .second, .val (.long pa), .second, .val (.long oa), .second, .val (.long pt), .second, .val (.long pr), .second, .val (.long ot), .second, .val (.ref b1), .unset, .unset, .unset, .unset] [(.long ot), (.ref b1)])) _
    refine st3.trans ?_
    show Steps p.tables e below (T3.setTop (mkF m 57 #[.val (.long na), .second, .val (.long qa), .second, .val (.long pa), .second, .val (.long oa), .second, .val (.long pt), .second, .val (.long pr), .second, .val (.long ot), .second, .val (.ref b1), .unset, .unset, .unset, .unset] [(.long ((pr * ot) / pt))])) _
    rw [← hrr]
    show Steps p.tables e below (T3.setTop (mkF m 57 #[.val (.long na), .second, .val (.long qa), .second, .val (.long pa), .second, .val (.long oa), .second, .val (.long pt), .second, .val (.long pr), .second, .val (.long ot), .second, .val (.ref b1), .unset, .unset, .unset, .unset] [(.long rr)])) _
    refine XS.lstore X3.here hx rfl (hb hby at_57) rfl (l' := #[.val (.long na), .second, .val (.long qa), .second, .val (.long pa), .second, .val (.long oa), .second, .val (.long pt), .second, .val (.long pr), .second, .val (.long ot), .second, .val (.ref b1), .val (.long rr), .second, .unset, .unset]) rfl ?_
    show Steps p.tables e below (T3.setTop (mkF m 59 #[.val (.long na), .second, .val (.long qa), .second, .val (.long pa), .second, .val (.long oa), .second, .val (.long pt), .second, .val (.long pr), .second, .val (.long ot), .second, .val (.ref b1), .val (.long rr), .second, .unset, .unset] [])) _
    refine XS.lload X3.here hx rfl (hb hby at_59) rfl ?_
    show Steps p.tables e below (T3.setTop (mkF m 61 #[.val (.long na), .second, .val (.long qa), .second, .val (.long pa), .second, .val (.long oa), .second, .val (.long pt), .second, .val (.long pr), .second, .val (.long ot), .second, .val (.ref b1), .val (.long rr), .second, .unset, .unset] [(.long rr)])) _
    refine XS.lconst X3.here hx rfl (hb hby at_61) ?_
    show Steps p.tables e below (T3.setTop (mkF m 62 #[.val (.long na), .second, .val (.long qa), .second, .val (.long pa), .second, .val (.long oa), .second, .val (.long pt), .second, .val (.long pr), .second, .val (.long ot), .second, .val (.ref b1), .val (.long rr), .second, .unset, .unset] [(.long (0 : Int64)), (.long rr)])) _
    refine XS.lcmp X3.here hx rfl (hb hby at_62) rfl ?_
    show Steps p.tables e below (T3.setTop (mkF m 63 #[.val (.long na), .second, .val (.long qa), .second, .val (.long pa), .second, .val (.long oa), .second, .val (.long pt), .second, .val (.long pr), .second, .val (.long ot), .second, .val (.ref b1), .val (.long rr), .second, .unset, .unset] [(.int (lcmpW rr (0 : Int64)))])) _
    refine XS.ifNo X3.here hx rfl (hb hby at_63) rfl ((if0 _ _).trans (flt (fun q => hlaw.1 ((lw_lt _ _).mp q))).1) ?_
    show Steps p.tables e below (T3.setTop (mkF m 66 #[.val (.long na), .second, .val (.long qa), .second, .val (.long pa), .second, .val (.long oa), .second, .val (.long pt), .second, .val (.long pr), .second, .val (.long ot), .second, .val (.ref b1), .val (.long rr), .second, .unset, .unset] [])) _
    refine XS.lload X3.here hx rfl (hb hby at_66) rfl ?_
    show Steps p.tables e below (T3.setTop (mkF m 68 #[.val (.long na), .second, .val (.long qa), .second, .val (.long pa), .second, .val (.long oa), .second, .val (.long pt), .second, .val (.long pr), .second, .val (.long ot), .second, .val (.ref b1), .val (.long rr), .second, .unset, .unset] [(.long rr)])) _
    refine XS.lload X3.here hx rfl (hb hby at_68) rfl ?_
    show Steps p.tables e below (T3.setTop (mkF m 70 #[.val (.long na), .second, .val (.long qa), .second, .val (.long pa), .second, .val (.long oa), .second, .val (.long pt), .second, .val (.long pr), .second, .val (.long ot), .second, .val (.ref b1), .val (.long rr), .second, .unset, .unset] [(.long ot), (.long rr)])) _
    refine XS.lcmp X3.here hx rfl (hb hby at_70) rfl ?_
    show Steps p.tables e below (T3.setTop (mkF m 71 #[.val (.long na), .second, .val (.long qa), .second, .val (.long pa), .second, .val (.long oa), .second, .val (.long pt), .second, .val (.long pr), .second, .val (.long ot), .second, .val (.ref b1), .val (.long rr), .second, .unset, .unset] [(.int (lcmpW rr ot))])) _
    refine XS.ifYes X3.here hx rfl (pc0 := 71) (pc' := 76) rfl (hb hby at_71) rfl ((if0 _ _).trans (flt (fun q => hlaw.2.1 ((lw_gt _ _).mp q))).2.2.2) (by decide) (by decide) ?_
    show Steps p.tables e below (T3.setTop (mkF m 76 #[.val (.long na), .second, .val (.long qa), .second, .val (.long pa), .second, .val (.long oa), .second, .val (.long pt), .second, .val (.long pr), .second, .val (.long ot), .second, .val (.ref b1), .val (.long rr), .second, .unset, .unset] [])) _
    refine XS.lload X3.here hx rfl (hb hby at_76) rfl ?_
    show Steps p.tables e below (T3.setTop (mkF m 78 #[.val (.long na), .second, .val (.long qa), .second, .val (.long pa), .second, .val (.long oa), .second, .val (.long pt), .second, .val (.long pr), .second, .val (.long ot), .second, .val (.ref b1), .val (.long rr), .second, .unset, .unset] [(.long pr)])) _
    refine XS.lload X3.here hx rfl (hb hby at_78) rfl ?_
    show Steps p.tables e below (T3.setTop (mkF m 80 #[.val (.long na), .second, .val (.long qa), .second, .val (.long pa), .second, .val (.long oa), .second, .val (.long pt), .second, .val (.long pr), .second, .val (.long ot), .second, .val (.ref b1), .val (.long rr), .second, .unset, .unset] [(.long ot), (.long pr)])) _
    refine XS.lmul X3.here hx rfl (hb hby at_80) rfl ?_
    show Steps p.tables e below (T3.setTop (mkF m 81 #[.val (.long na), .second, .val (.long qa), .second, .val (.long pa), .second, .val (.long oa), .second, .val (.long pt), .second, .val (.long pr), .second, .val (.long ot), .second, .val (.ref b1), .val (.long rr), .second, .unset, .unset] [(.long (pr * ot))])) _
    refine XS.lstore X3.here hx rfl (hb hby at_81) rfl (l' := #[.val (.long na), .second, .val (.long qa), .second, .val (.long pa), .second, .val (.long oa), .second, .val (.long pt), .second, .val (.long pr), .second, .val (.long ot), .second, .val (.ref b1), .val (.long rr), .second, .val (.long (pr * ot)), .second]) rfl ?_
    show Steps p.tables e below (T3.setTop (mkF m 83 #[.val (.long na), .second, .val (.long qa), .second, .val (.long pa), .second, .val (.long oa), .second, .val (.long pt), .second, .val (.long pr), .second, .val (.long ot), .second, .val (.ref b1), .val (.long rr), .second, .val (.long (pr * ot)), .second] [])) _
    refine XS.lload X3.here hx rfl (hb hby at_83) rfl ?_
    show Steps p.tables e below (T3.setTop (mkF m 85 #[.val (.long na), .second, .val (.long qa), .second, .val (.long pa), .second, .val (.long oa), .second, .val (.long pt), .second, .val (.long pr), .second, .val (.long ot), .second, .val (.ref b1), .val (.long rr), .second, .val (.long (pr * ot)), .second] [(.long rr)])) _
    refine XS.lload X3.here hx rfl (hb hby at_85) rfl ?_
    show Steps p.tables e below (T3.setTop (mkF m 87 #[.val (.long na), .second, .val (.long qa), .second, .val (.long pa), .second, .val (.long oa), .second, .val (.long pt), .second, .val (.long pr), .second, .val (.long ot), .second, .val (.ref b1), .val (.long rr), .second, .val (.long (pr * ot)), .second] [(.long pt), (.long rr)])) _
    refine XS.lmul X3.here hx rfl (hb hby at_87) rfl ?_
    show Steps p.tables e below (T3.setTop (mkF m 88 #[.val (.long na), .second, .val (.long qa), .second, .val (.long pa), .second, .val (.long oa), .second, .val (.long pt), .second, .val (.long pr), .second, .val (.long ot), .second, .val (.ref b1), .val (.long rr), .second, .val (.long (pr * ot)), .second] [(.long (rr * pt))])) _
    refine XS.lload X3.here hx rfl (hb hby at_88) rfl ?_
    show Steps p.tables e below (T3.setTop (mkF m 90 #[.val (.long na), .second, .val (.long qa), .second, .val (.long pa), .second, .val (.long oa), .second, .val (.long pt), .second, .val (.long pr), .second, .val (.long ot), .second, .val (.ref b1), .val (.long rr), .second, .val (.long (pr * ot)), .second] [(.long (pr * ot)), (.long (rr * pt))])) _
    refine XS.lcmp X3.here hx rfl (hb hby at_90) rfl ?_
    show Steps p.tables e below (T3.setTop (mkF m 91 #[.val (.long na), .second, .val (.long qa), .second, .val (.long pa), .second, .val (.long oa), .second, .val (.long pt), .second, .val (.long pr), .second, .val (.long ot), .second, .val (.ref b1), .val (.long rr), .second, .val (.long (pr * ot)), .second] [(.int (lcmpW (rr * pt) (pr * ot)))])) _
    refine XS.ifNo X3.here hx rfl (hb hby at_91) rfl ((if0 _ _).trans (flt (fun q => hlaw.2.2.1 ((lw_gt _ _).mp q))).2.2.1) ?_
    show Steps p.tables e below (T3.setTop (mkF m 94 #[.val (.long na), .second, .val (.long qa), .second, .val (.long pa), .second, .val (.long oa), .second, .val (.long pt), .second, .val (.long pr), .second, .val (.long ot), .second, .val (.ref b1), .val (.long rr), .second, .val (.long (pr * ot)), .second] [])) _
    refine XS.lload X3.here hx rfl (hb hby at_94) rfl ?_
    show Steps p.tables e below (T3.setTop (mkF m 96 #[.val (.long na), .second, .val (.long qa), .second, .val (.long pa), .second, .val (.long oa), .second, .val (.long pt), .second, .val (.long pr), .second, .val (.long ot), .second, .val (.ref b1), .val (.long rr), .second, .val (.long (pr * ot)), .second] [(.long (pr * ot))])) _
    refine XS.lload X3.here hx rfl (hb hby at_96) rfl ?_
    show Steps p.tables e below (T3.setTop (mkF m 98 #[.val (.long na), .second, .val (.long qa), .second, .val (.long pa), .second, .val (.long oa), .second, .val (.long pt), .second, .val (.long pr), .second, .val (.long ot), .second, .val (.ref b1), .val (.long rr), .second, .val (.long (pr * ot)), .second] [(.long rr), (.long (pr * ot))])) _
    refine XS.lconst X3.here hx rfl (hb hby at_98) ?_
    show Steps p.tables e below (T3.setTop (mkF m 99 #[.val (.long na), .second, .val (.long qa), .second, .val (.long pa), .second, .val (.long oa), .second, .val (.long pt), .second, .val (.long pr), .second, .val (.long ot), .second, .val (.ref b1), .val (.long rr), .second, .val (.long (pr * ot)), .second] [(.long (1 : Int64)), (.long rr), (.long (pr * ot))])) _
    refine XS.ladd X3.here hx rfl (hb hby at_99) rfl ?_
    show Steps p.tables e below (T3.setTop (mkF m 100 #[.val (.long na), .second, .val (.long qa), .second, .val (.long pa), .second, .val (.long oa), .second, .val (.long pt), .second, .val (.long pr), .second, .val (.long ot), .second, .val (.ref b1), .val (.long rr), .second, .val (.long (pr * ot)), .second] [(.long (rr + (1 : Int64))), (.long (pr * ot))])) _
    refine XS.lload X3.here hx rfl (hb hby at_100) rfl ?_
    show Steps p.tables e below (T3.setTop (mkF m 102 #[.val (.long na), .second, .val (.long qa), .second, .val (.long pa), .second, .val (.long oa), .second, .val (.long pt), .second, .val (.long pr), .second, .val (.long ot), .second, .val (.ref b1), .val (.long rr), .second, .val (.long (pr * ot)), .second] [(.long pt), (.long (rr + (1 : Int64))), (.long (pr * ot))])) _
    refine XS.lmul X3.here hx rfl (hb hby at_102) rfl ?_
    show Steps p.tables e below (T3.setTop (mkF m 103 #[.val (.long na), .second, .val (.long qa), .second, .val (.long pa), .second, .val (.long oa), .second, .val (.long pt), .second, .val (.long pr), .second, .val (.long ot), .second, .val (.ref b1), .val (.long rr), .second, .val (.long (pr * ot)), .second] [(.long ((rr + (1 : Int64)) * pt)), (.long (pr * ot))])) _
    refine XS.lcmp X3.here hx rfl (hb hby at_103) rfl ?_
    show Steps p.tables e below (T3.setTop (mkF m 104 #[.val (.long na), .second, .val (.long qa), .second, .val (.long pa), .second, .val (.long oa), .second, .val (.long pt), .second, .val (.long pr), .second, .val (.long ot), .second, .val (.ref b1), .val (.long rr), .second, .val (.long (pr * ot)), .second] [(.int (lcmpW (pr * ot) ((rr + (1 : Int64)) * pt)))])) _
    refine XS.ifNo X3.here hx rfl (hb hby at_104) rfl ((if0 _ _).trans (tlt ((lw_lt _ _).mpr hlaw.2.2.2)).2.1) ?_
    show Steps p.tables e below (T3.setTop (mkF m 107 #[.val (.long na), .second, .val (.long qa), .second, .val (.long pa), .second, .val (.long oa), .second, .val (.long pt), .second, .val (.long pr), .second, .val (.long ot), .second, .val (.ref b1), .val (.long rr), .second, .val (.long (pr * ot)), .second] [])) _
    refine XS.iconst X3.here hx rfl (hb hby at_107) ?_
    show Steps p.tables e below (T3.setTop (mkF m 108 #[.val (.long na), .second, .val (.long qa), .second, .val (.long pa), .second, .val (.long oa), .second, .val (.long pt), .second, .val (.long pr), .second, .val (.long ot), .second, .val (.ref b1), .val (.long rr), .second, .val (.long (pr * ot)), .second] [(.int (1 : Int32))])) _
    refine XS.goto X3.here hx rfl (pc0 := 108) (pc' := 112) rfl (hb hby at_108) (by decide) (by decide) ?_
    show Steps p.tables e below (T3.setTop (mkF m 112 #[.val (.long na), .second, .val (.long qa), .second, .val (.long pa), .second, .val (.long oa), .second, .val (.long pt), .second, .val (.long pr), .second, .val (.long ot), .second, .val (.ref b1), .val (.long rr), .second, .val (.long (pr * ot)), .second] [(.int (1 : Int32))])) _
    exact retN X3 hx (t := .boolean) Bd.returns (by simp) (hb hby at_112) hr
  · show Q0 Z na qa pa oa h0 n0 _ T3.heap _
    rw [e3]
    exact ⟨rfl, N3⟩
set_option maxRecDepth 65536 in
set_option maxHeartbeats 40000000 in
theorem comes_1 {Post : Tables → Env → Array Value → State → Outcome → State → Prop} (hpost : ∀ tb e args s v u, (limb_1_1.after args s (.returned v) u = true ∧ limb_1_2.after args s (.returned v) u = true ∧ True) → FrameEnd s (.returned v) u (Jvm.fieldLocs frame_1_writes args s ++ Jvm.arrayLocs frame_1_arrays args s ++ Jvm.staticLocs frame_1_statics s) 16 128 → Post tb e args s (.returned v) u) :
    ArmFor flags0 classFile x code maxLocals ret World_1 tables_1 room_1 Calls_1 rest_1 Pre_1 Post := by
  intro l hfl _ _ p e ha hc hk s m args below hf hA hF happ hP
  obtain ⟨hcalls, hrest, hpre⟩ := hP
  obtain ⟨-, -, -, hnamed, -, -, -, hat⟩ := (Spec.applies_iff hf).mp happ
  obtain ⟨hg, hn⟩ := and_e (Cond.before_iff.mp (show (Jvm.Cond.and given_1 narrow_1).before args s = true from hpre))
  obtain ⟨hc0, hk0⟩ := and_e hg
  obtain ⟨hv0, hk1⟩ := and_e hk0
  obtain ⟨hv1, hk2⟩ := and_e hk1
  obtain ⟨hv2, hk3⟩ := and_e hk2
  obtain ⟨w0, w1, w2, w3, rfl⟩ : ∃ w0 w1 w2 w3 : Value, args = #[w0, w1, w2, w3] := by
    have hs : args.size = 4 := by simpa [Cond.value, given_1] using hc0
    obtain ⟨L⟩ := args
    match L, hs with
    | [w0, w1, w2, w3], _ => exact ⟨w0, w1, w2, w3, rfl⟩
  have hw := fun d (hd : d ∈ tables_1) => atoms_spec (ws := Jvm.Cond.code x code maxLocals ret :: tables_1) hat d (List.mem_cons_of_mem _ hd)
  obtain ⟨i0, e0⟩ := isL_v hv0
  obtain rfl : w0 = (.long i0) := Option.some.inj e0
  obtain ⟨i1, e1⟩ := isL_v hv1
  obtain rfl : w1 = (.long i1) := Option.some.inj e1
  obtain ⟨i2, e2⟩ := isL_v hv2
  obtain rfl : w2 = (.long i2) := Option.some.inj e2
  obtain ⟨i3, e3⟩ := isL_v hk3
  obtain rfl : w3 = (.long i3) := Option.some.inj e3
  obtain ⟨n, o, h1, h2, h3, _, L, rfl, ⟨rfl, N⟩, hq⟩ := rm0 l s _ hw tables_1 i0 i1 i2 i3 s.heap s.heap.size (Nat.le_refl _)  p e ha hc hk s m _ below hf ((Spec.applies_iff_loose hf).mp happ).1 ⟨rfl, State.Warmed39.refl s, rfl⟩ trivial
  refine ⟨n, _, h1, h2, h3, hpost _ _ _ _ _ _ ⟨Cond.after_iff.mpr rfl, Cond.after_iff.mpr (eq_i res_at (Term.int_eval (1)) rfl), trivial⟩ ⟨hq.1, hq.2.1, (hq.2.2.sift fun y hy => Or.inr (N y hy)).mono (by decide) (by decide)⟩⟩
theorem main_1_1 : Claimed_1_1 := comes_1 fun _ _ _ _ _ _ h hF => ⟨h.1, hF⟩
theorem main_1_2 : Claimed_1_2 := comes_1 fun _ _ _ _ _ _ h hF => ⟨h.2.1, hF⟩
end Jvm.Pilot.@@N@@
namespace Jvm.Pilot.@@N@@
open Jvm Jvm.ClassFile Sem Op Lib Jvm.Free Jvm.Stand Jvm.Pilot.@@N@@.Jvm.D
/-! MADE BY PROGRAM (witnessworld.py) out of the Statement's table words and the real class files: 10 classes; the members and pool entries that the words name. The judged class is class 1, her method 1. -/
namespace start1
open Jvm.ClassFile
def u (s : String) : CpInfo := .utf8 (stringToUtf16 s)
/-- a pool by its gaps: so many unusable entries, then the entry; so many at the end -/
def gap : Nat → List CpInfo → List CpInfo
  | 0, r => r
  | n + 1, r => .unusable :: gap n r
def poolList (es : List (Nat × CpInfo)) (last : Nat) : List CpInfo := es.foldr (fun e r => gap e.1 (e.2 :: r)) (gap last [])
def pool (es : List (Nat × CpInfo)) (last : Nat) : Array CpInfo := ⟨poolList es last⟩
def fileOf (pool : Array CpInfo) (this : Nat) (attrs : Array Attribute := #[]) (ms : Array MethodInfo := #[]) (fl : Nat := 33) (sup : Nat := 0) (ifs : Array Nat := #[]) (fds : Array FieldInfo := #[]) : ClassFile where
  minorVersion := 0
  majorVersion := 65
  constantPool := pool
  accessFlags := fl
  thisClass := this
  superClass := sup
  interfaces := ifs
  fields := fds
  methods := ms
  attributes := attrs
def plain (name : String) (sup : Option ClassId) : Class where
  name := name
  kind := .ordinary
  loader := none
  accessFlags := 33
  super := sup
  interfaces := #[]
  cf := none
  fields := #[]
  methods := #[]
  instanceTypes := #[]
  staticTypes := #[]
  resolved := #[]
  callSites := []
  init := .initialized
  statics := none
  mirror := none

def pool0 : Array CpInfo := pool [(5, u "<init>"), (0, u "()V"), (1, .class_ 10), (1, u "java/lang/Object")] 113

def k0c0 : Code := { maxStack := 0, maxLocals := 1, code := object_method_1_code, exceptionTable := #[], attributes := #[] }
def k0m0 : Method := { name := "<init>", desc := "()V", sig := { parameters := [], returnType := none }, accessFlags := 1, code := some k0c0 }
/-- java/lang/Object -/
def k0 : Class := { plain "java/lang/Object" none with
  accessFlags := 33
  interfaces := #[]
  cf := some (fileOf pool0 8 #[] #[{ accessFlags := 1, nameIndex := 5, descriptorIndex := 6, attributes := #[] }] 33 0 #[] #[])
  fields := #[]
  methods := #[k0m0]
  instanceTypes := #[]
  staticTypes := #[]
  resolved := Array.replicate 124 none
  statics := none }

def pool1 : Array CpInfo := pool [(2, .class_ 4), (1, u "java/lang/Object"), (0, u "<init>"), (0, u "()V"), (0, .long 4294967295), (1, .long 2147483648), (3, .long 9223372036854775807), (1, .long 2147483649), (1, .class_ 18), (0, u "com/example/rotifer/rotifer/Span"), (0, .methodref 17 20), (0, .nameAndType 5 21), (0, u "(JJJ)V"), (0, .methodref 17 23), (0, .nameAndType 24 25), (0, u "partIn"), (0, u "(J)J"), (0, .class_ 27), (0, u "com/example/rotifer/rotifer/SpanPartInPinLaw"), (2, u "law"), (0, u "(JJJJ)Z")] 3

def k1m0 : Method := { name := "<init>", desc := "()V", sig := { parameters := [], returnType := none }, accessFlags := 1, code := none }
def k1c1 : Code := { maxStack := 8, maxLocals := 19, code := code, exceptionTable := #[], attributes := #[] }
def k1m1 : Method := { name := "law", desc := "(JJJJ)Z", sig := { parameters := [.long, .long, .long, .long], returnType := some .boolean }, accessFlags := 9, code := some k1c1 }
/-- com/example/rotifer/rotifer/SpanPartInPinLaw -/
def k1 : Class := { plain "com/example/rotifer/rotifer/SpanPartInPinLaw" (some 0) with
  accessFlags := 49
  interfaces := #[]
  cf := some (fileOf pool1 26 #[] #[{ accessFlags := 1, nameIndex := 5, descriptorIndex := 6, attributes := #[] }, { accessFlags := 9, nameIndex := 30, descriptorIndex := 31, attributes := #[] }] 49 2 #[] #[])
  fields := #[]
  methods := #[k1m0, k1m1]
  instanceTypes := #[]
  staticTypes := #[]
  resolved := Array.replicate 35 none
  statics := none }

def pool2 : Array CpInfo := pool [(1, .methodref 2 3), (0, .class_ 4), (0, .nameAndType 5 6), (0, u "java/lang/Object"), (0, u "<init>"), (0, u "()V"), (0, .class_ 8), (0, u "java/lang/Record")] 13

def k2c0 : Code := { maxStack := 1, maxLocals := 1, code := jdk_30_method_1_code, exceptionTable := #[], attributes := #[] }
def k2m0 : Method := { name := "<init>", desc := "()V", sig := { parameters := [], returnType := none }, accessFlags := 4, code := some k2c0 }
/-- java/lang/Record -/
def k2 : Class := { plain "java/lang/Record" (some 0) with
  accessFlags := 1057
  interfaces := #[]
  cf := some (fileOf pool2 7 #[] #[{ accessFlags := 4, nameIndex := 5, descriptorIndex := 6, attributes := #[] }] 1057 2 #[] #[])
  fields := #[]
  methods := #[k2m0]
  instanceTypes := #[]
  staticTypes := #[]
  resolved := Array.replicate 22 none
  statics := none }

def pool3 : Array CpInfo := pool [(1, .methodref 2 3), (0, .class_ 4), (0, .nameAndType 5 6), (0, u "java/lang/Record"), (0, u "<init>"), (0, u "()V"), (0, .fieldref 8 9), (0, .class_ 10), (0, .nameAndType 11 12), (0, u "com/example/rotifer/rotifer/Span"), (0, u "nanos"), (0, u "J"), (0, .fieldref 8 14), (0, .nameAndType 15 12), (0, u "part"), (0, .fieldref 8 17), (0, .nameAndType 18 12), (0, u "parts"), (16, u "(JJJ)V"), (2, u "ONE_SECOND"), (0, u "Lcom/example/rotifer/rotifer/Span;"), (3, u "partIn"), (0, u "(J)J")] 27

def k3c0 : Code := { maxStack := 3, maxLocals := 7, code := prog_24_method_1_code, exceptionTable := #[], attributes := #[] }
def k3m0 : Method := { name := "<init>", desc := "(JJJ)V", sig := { parameters := [.long, .long, .long], returnType := none }, accessFlags := 0, code := some k3c0 }
def k3c1 : Code := { maxStack := 4, maxLocals := 3, code := prog_24_method_2_code, exceptionTable := #[], attributes := #[] }
def k3m1 : Method := { name := "partIn", desc := "(J)J", sig := { parameters := [.long], returnType := some .long }, accessFlags := 0, code := some k3c1 }
/-- com/example/rotifer/rotifer/Span -/
def k3 : Class := { plain "com/example/rotifer/rotifer/Span" (some 2) with
  accessFlags := 48
  interfaces := #[]
  cf := some (fileOf pool3 8 #[] #[{ accessFlags := 0, nameIndex := 5, descriptorIndex := 35, attributes := #[] }, { accessFlags := 0, nameIndex := 43, descriptorIndex := 44, attributes := #[] }] 48 2 #[] #[{ accessFlags := 18, nameIndex := 11, descriptorIndex := 12, attributes := #[] }, { accessFlags := 18, nameIndex := 15, descriptorIndex := 12, attributes := #[] }, { accessFlags := 18, nameIndex := 18, descriptorIndex := 12, attributes := #[] }, { accessFlags := 24, nameIndex := 38, descriptorIndex := 39, attributes := #[] }])
  fields := #[{ name := "nanos", type := .long, accessFlags := 18, slot := 0, constantValue := 0 }, { name := "part", type := .long, accessFlags := 18, slot := 1, constantValue := 0 }, { name := "parts", type := .long, accessFlags := 18, slot := 2, constantValue := 0 }, { name := "ONE_SECOND", type := (.object "com/example/rotifer/rotifer/Span"), accessFlags := 24, slot := 0, constantValue := 0 }]
  methods := #[k3m0, k3m1]
  instanceTypes := #[.long, .long, .long]
  staticTypes := #[(.object "com/example/rotifer/rotifer/Span")]
  resolved := Array.replicate 72 none
  statics := none }

def pool4 : Array CpInfo := pool [(1, u "java/lang/Cloneable"), (0, .class_ 1), (0, u "java/lang/Object"), (0, .class_ 3)] 3

/-- java/lang/Cloneable -/
def k4 : Class := { plain "java/lang/Cloneable" (some 0) with
  accessFlags := 1537
  interfaces := #[]
  cf := some (fileOf pool4 2 #[] #[] 1537 4 #[] #[])
  fields := #[]
  methods := #[]
  instanceTypes := #[]
  staticTypes := #[]
  resolved := Array.replicate 8 none
  statics := none }

def pool5 : Array CpInfo := pool [(1, u "java/io/Serializable"), (0, .class_ 1), (0, u "java/lang/Object"), (0, .class_ 3)] 3

/-- java/io/Serializable -/
def k5 : Class := { plain "java/io/Serializable" (some 0) with
  accessFlags := 1537
  interfaces := #[]
  cf := some (fileOf pool5 2 #[] #[] 1537 4 #[] #[])
  fields := #[]
  methods := #[]
  instanceTypes := #[]
  staticTypes := #[]
  resolved := Array.replicate 8 none
  statics := none }

/-- the primitive byte -/
def k6 : Class := { plain "byte" none with kind := .primitive 'B', accessFlags := 0x411 }
/-- [B -/
def k7 : Class := { plain "[B" (some 0) with kind := .array 6 .byte, interfaces := #[4, 5], accessFlags := 1041 }

/-- the primitive int -/
def k8 : Class := { plain "int" none with kind := .primitive 'I', accessFlags := 0x411 }
/-- [I -/
def k9 : Class := { plain "[I" (some 0) with kind := .array 8 .int, interfaces := #[4, 5], accessFlags := 1041 }

def heap : Heap := #[]
def classes : Array Class := #[k0, k1, k2, k3, k4, k5, k6, k7, k8, k9]
def interned : List (Array UInt16 × Addr) := []
def slotsUsed : Nat := 0
def theMethod : MethodId := ⟨1, 1⟩
def args0 : Array Value := #[.long 5, .long 7, .long 6, .long 8]
def aboutOver (below : List Frame) : State where
  vm := { classes := classes, interned := interned.toArray }
  heap := heap
  slotsUsed := slotsUsed
  threads := #[{ frames := .invoking theMethod args0 :: below }]
def below0 : List Frame := [.native { method := ⟨0, 0⟩, args := #[] }]
def about1 : State := aboutOver below0
def p0 : Program := .bare "" "" ""
def e0 : Env := launch0.env 0 0 0
theorem w_frames : about1.frames = Frame.invoking theMethod args0 :: below0 := rfl
set_option maxRecDepth 65536 in
theorem w_args : argsFit about1.vm theMethod args0 = true := by decide +kernel
set_option maxRecDepth 65536 in
theorem w_heap : heapFits about1 = true := by decide +kernel
set_option maxRecDepth 65536 in
theorem w_runnable : about1.curStatus? = some .runnable := by decide +kernel
set_option maxRecDepth 65536 in
theorem w_alone : about1.alone = true := by decide +kernel
set_option maxRecDepth 65536 in
theorem w_named : about1.methodNamed? x = some theMethod := by decide +kernel
set_option maxRecDepth 65536 in
theorem w_hears : about1.hears theMethod below0 = true := by decide +kernel
set_option maxRecDepth 65536 in
theorem w_ripe : about1.ripe theMethod args0 below0 = true := by decide +kernel
theorem w_running : about1.status = .running := rfl
set_option maxRecDepth 65536 in
theorem w_room : about1.hasRoom e0.platform room_1 = true :=
  launch0.hasRoom_least _ room_1 (by decide +kernel) (by decide +kernel) (by decide +kernel) (by decide +kernel) (by decide +kernel) (by decide +kernel)
theorem allAtoms_all (ts : List Jvm.Cond) (a : Array Jvm.Value) (st : Jvm.State) : (allAtoms ts).before a st = ts.all (fun c => c.before a st) := by
  induction ts with
  | nil => rfl
  | cons c t ih =>
    show (Jvm.Cond.and c (allAtoms t)).before a st = _
    rw [Jvm.Cond.before_and, ih, List.all_cons]
def words1 : List Jvm.Cond := Jvm.Cond.code x code maxLocals ret :: tables_1
/-- a 'code' word, met by the world's own term for the bytes: nothing is compared byte by byte -/
theorem code_word {y : MethodName} {bytes : ByteArray} {mx : Nat} {rt : Option FieldType} {a : Array Value} {s : State} {m : MethodId} {meth : Method} {c : Code} (h1 : s.methodNamed? y = some m) (h2 : s.vm.method? m = some meth) (h3 : meth.code = some c) (h4 : c.code = bytes)
    (h5 : (c.maxLocals == mx && c.exceptionTable.isEmpty && decide (c.maxStack ≤ mostOperands) && decide (meth.sig.returnType = rt) && !meth.locks && decide (parseMethodDescriptor y.desc = some meth.sig)) = true) : (Jvm.Cond.code y bytes mx rt).before a s = true := by
  simp only [Bool.and_eq_true, beq_iff_eq, Bool.not_eq_true', decide_eq_true_eq] at h5
  obtain ⟨⟨⟨⟨⟨g1, g2⟩, g3⟩, g4⟩, g5⟩, g6⟩ := h5
  simp [Cond.before, Cond.holds, Cond.value, h1, h2, h3, h4, g1, g2, g3, g4, g5, g6]
def isCode : Jvm.Cond → Bool
  | .code _ _ _ _ => true
  | _ => false
theorem all_split {L : List Jvm.Cond} {P : Jvm.Cond → Bool} (h1 : L.all (fun c => isCode c || P c) = true) (h2 : ∀ c ∈ L.filter isCode, P c = true) : L.all P = true := by
  refine List.all_eq_true.mpr fun c hc => ?_
  have h := List.all_eq_true.mp h1 c hc
  rcases Bool.eq_false_or_eq_true (isCode c) with hi | hi
  · exact h2 c (List.mem_filter.mpr ⟨hc, hi⟩)
  · simpa [hi] using h
set_option maxRecDepth 65536 in
theorem w_c0 : (Jvm.Cond.code x code maxLocals ret).before args0 about1 = true := code_word (m := ⟨1, 1⟩) (meth := k1m1) (c := k1c1) (by decide +kernel) rfl rfl rfl (by decide +kernel)
set_option maxRecDepth 65536 in
theorem w_c1 : (Jvm.Cond.code ({ cls := "com/example/rotifer/rotifer/Span", name := "<init>", desc := "(JJJ)V" } : Jvm.MethodName) prog_24_method_1_code (7 : Nat) (Option.none : Option Jvm.ClassFile.FieldType)).before args0 about1 = true := code_word (m := ⟨3, 0⟩) (meth := k3m0) (c := k3c0) (by decide +kernel) rfl rfl rfl (by decide +kernel)
set_option maxRecDepth 65536 in
theorem w_c2 : (Jvm.Cond.code ({ cls := "java/lang/Record", name := "<init>", desc := "()V" } : Jvm.MethodName) jdk_30_method_1_code (1 : Nat) (Option.none : Option Jvm.ClassFile.FieldType)).before args0 about1 = true := code_word (m := ⟨2, 0⟩) (meth := k2m0) (c := k2c0) (by decide +kernel) rfl rfl rfl (by decide +kernel)
set_option maxRecDepth 65536 in
theorem w_c3 : (Jvm.Cond.code ({ cls := "java/lang/Object", name := "<init>", desc := "()V" } : Jvm.MethodName) object_method_1_code (1 : Nat) (Option.none : Option Jvm.ClassFile.FieldType)).before args0 about1 = true := code_word (m := ⟨0, 0⟩) (meth := k0m0) (c := k0c0) (by decide +kernel) rfl rfl rfl (by decide +kernel)
set_option maxRecDepth 65536 in
theorem w_c4 : (Jvm.Cond.code ({ cls := "com/example/rotifer/rotifer/Span", name := "partIn", desc := "(J)J" } : Jvm.MethodName) prog_24_method_2_code (3 : Nat) (Option.some Jvm.ClassFile.FieldType.long)).before args0 about1 = true := code_word (m := ⟨3, 1⟩) (meth := k3m1) (c := k3c1) (by decide +kernel) rfl rfl rfl (by decide +kernel)
def codes1 : List Jvm.Cond := [Jvm.Cond.code x code maxLocals ret, Jvm.Cond.code ({ cls := "com/example/rotifer/rotifer/Span", name := "<init>", desc := "(JJJ)V" } : Jvm.MethodName) prog_24_method_1_code (7 : Nat) (Option.none : Option Jvm.ClassFile.FieldType), Jvm.Cond.code ({ cls := "java/lang/Record", name := "<init>", desc := "()V" } : Jvm.MethodName) jdk_30_method_1_code (1 : Nat) (Option.none : Option Jvm.ClassFile.FieldType), Jvm.Cond.code ({ cls := "java/lang/Object", name := "<init>", desc := "()V" } : Jvm.MethodName) object_method_1_code (1 : Nat) (Option.none : Option Jvm.ClassFile.FieldType), Jvm.Cond.code ({ cls := "com/example/rotifer/rotifer/Span", name := "partIn", desc := "(J)J" } : Jvm.MethodName) prog_24_method_2_code (3 : Nat) (Option.some Jvm.ClassFile.FieldType.long)]
set_option maxRecDepth 65536 in
theorem codes_eq : words1.filter isCode = codes1 := rfl
theorem w_codes : ∀ c ∈ words1.filter isCode, c.before args0 about1 = true := by
  rw [codes_eq]
  intro c hc
  simp only [codes1, List.mem_cons, List.not_mem_nil, or_false] at hc
  rcases hc with rfl | rfl | rfl | rfl | rfl
  · exact w_c0
  · exact w_c1
  · exact w_c2
  · exact w_c3
  · exact w_c4
set_option maxRecDepth 65536 in
theorem w_t1 : (words1.take 24).all (fun c => isCode c || c.before args0 about1) = true := by decide +kernel
set_option maxRecDepth 65536 in
theorem w_t2 : (words1.drop 24).all (fun c => isCode c || c.before args0 about1) = true := by decide +kernel
theorem w_tables : (allAtoms (Jvm.Cond.code x code maxLocals ret :: tables_1)).before args0 about1 = true := by
  rw [allAtoms_all]
  show words1.all (fun c => c.before args0 about1) = true
  refine all_split ?_ w_codes
  rw [← List.take_append_drop 24 words1, List.all_append, w_t1, w_t2]
  rfl
set_option maxRecDepth 65536 in
theorem w_case : (Jvm.Cond.and given_1 narrow_1).before args0 about1 = true := by decide +kernel
theorem w_applies : (headSpec (Jvm.Cond.code x code maxLocals ret :: tables_1) room_1).applies x e0.platform about1 = true :=
  (Spec.applies_iff w_frames).mpr ⟨w_running, w_runnable, w_alone, w_named, w_hears, w_ripe, w_room, w_tables⟩
theorem atStart : AtStart classFile x code maxLocals ret World_1 tables_1 room_1 Calls_1 rest_1 Pre_1 launch0 p0 e0 about1 theMethod args0 below0 :=
  ⟨lists_1, trivial, launch0.admits_env _ _ _, launch0.least_env, fairChoices_fair.cas, fairChoices_fair.clock, w_frames, w_args, w_heap, w_applies, trivial, trivial, w_case⟩
end start1
theorem witness_1 : WitnessClaimed_1 := ⟨start1.p0, start1.e0, start1.about1, start1.theMethod, start1.args0, start1.below0, start1.atStart⟩
end Jvm.Pilot.@@N@@
