import JvmDerived
import JvmDerived.Pilot.@@N@@Statement
import JvmDerived.Pilot.@@N@@Code
set_option linter.unusedVariables false
set_option linter.unusedSimpArgs false
namespace Jvm.Pilot.@@N@@
open Jvm Jvm.ClassFile Sem Op Lib Jvm.Free Jvm.Stand Jvm.LawKit Jvm.RoadKit Bundle Jvm.Pilot.@@N@@.Jvm.D
theorem d1_0 : decode method_2_code 0 = .ok (.lload_n 3, 1) := by decide +kernel
theorem d1_1 : decode method_2_code 1 = .ok (.lstore 5, 2) := by decide +kernel
theorem d1_3 : decode method_2_code 3 = .ok (.iload_n 0, 1) := by decide +kernel
theorem d1_4 : decode method_2_code 4 = .ok (.iconst 1, 1) := by decide +kernel
theorem d1_5 : decode method_2_code 5 = .ok (.if_icmp .ne 9, 3) := by decide +kernel
theorem d1_8 : decode method_2_code 8 = .ok (.lload_n 1, 1) := by decide +kernel
theorem d1_9 : decode method_2_code 9 = .ok (.lstore 5, 2) := by decide +kernel
theorem d1_11 : decode method_2_code 11 = .ok (.goto 26, 3) := by decide +kernel
theorem d1_14 : decode method_2_code 14 = .ok (.iload_n 0, 1) := by decide +kernel
theorem d1_15 : decode method_2_code 15 = .ok (.iconst 2, 1) := by decide +kernel
theorem d1_16 : decode method_2_code 16 = .ok (.if_icmp .ne 11, 3) := by decide +kernel
theorem d1_19 : decode method_2_code 19 = .ok (.lload_n 1, 1) := by decide +kernel
theorem d1_20 : decode method_2_code 20 = .ok (.lconst 1, 1) := by decide +kernel
theorem d1_21 : decode method_2_code 21 = .ok (.ladd, 1) := by decide +kernel
theorem d1_22 : decode method_2_code 22 = .ok (.lstore 5, 2) := by decide +kernel
theorem d1_24 : decode method_2_code 24 = .ok (.goto 13, 3) := by decide +kernel
theorem d1_27 : decode method_2_code 27 = .ok (.iload_n 0, 1) := by decide +kernel
theorem d1_28 : decode method_2_code 28 = .ok (.iconst 3, 1) := by decide +kernel
theorem d1_29 : decode method_2_code 29 = .ok (.if_icmp .ne 8, 3) := by decide +kernel
theorem d1_32 : decode method_2_code 32 = .ok (.lload_n 1, 1) := by decide +kernel
theorem d1_33 : decode method_2_code 33 = .ok (.lconst 1, 1) := by decide +kernel
theorem d1_34 : decode method_2_code 34 = .ok (.lsub, 1) := by decide +kernel
theorem d1_35 : decode method_2_code 35 = .ok (.lstore 5, 2) := by decide +kernel
theorem d1_37 : decode method_2_code 37 = .ok (.lload 5, 2) := by decide +kernel
theorem d1_39 : decode method_2_code 39 = .ok (.lreturn, 1) := by decide +kernel
theorem pn_1 : plainName "com/example/mailloop/mailloop/OrderedMessagesPrecedesPinLaw" = true := by first | (simp [plainName, overriddenIn]; done) | decide +kernel
theorem pd_1 : parseMethodDescriptor "(IJJ)J" = some ⟨[.int, .long, .long], (some .long)⟩ := by decide +kernel
theorem ef_1 (m : MethodId) (k1 : Int32) (q2 : Int64) (q3 : Int64) : entryFrame m #[(.int k1), (.long q2), (.long q3)] 7 = mkF m 0 #[.val (.int k1), .val (.long q2), .second, .val (.long q3), .second, .unset, .unset] [] := by first | (simp [entryFrame, mkF, argsToLocals, Value.category]; done) | rfl
def own_pick (k1 : Int32) (q2 : Int64) (q3 : Int64) : Int64 := (if k1 = (1 : Int32) then q2 else (if k1 = (2 : Int32) then (q2 + (1 : Int64)) else (if k1 = (3 : Int32) then (q2 - (1 : Int64)) else q3)))
def Q1 (Z : State) (k1 : Int32) (q2 : Int64) (q3 : Int64) (h0 : Heap) (n0 : Nat) (v : Option Value) (h : Heap) (L : List Loc) : Prop := v = some (.long (own_pick k1 q2 q3)) ∧ Fr n0 L ∧ h = h0
set_option maxRecDepth 65536 in
set_option maxHeartbeats 40000000 in
theorem rm1 (l : Launch) (Z : State) (a0 : Array Value) (hw : ∀ d ∈ tables_1, d.before a0 Z = true) (ws : List Jvm.Cond) (k1 : Int32) (q2 : Int64) (q3 : Int64)  (h0 : Heap) (n0 : Nat) (Z0 : n0 ≤ h0.size)  :
    MetFree l (⟨"com/example/mailloop/mailloop/OrderedMessagesPrecedesPinLaw", "pick", "(IJJ)J"⟩ : MethodName) (head1 (Jvm.Cond.code (⟨"com/example/mailloop/mailloop/OrderedMessagesPrecedesPinLaw", "pick", "(IJJ)J"⟩ : MethodName) method_2_code 7 (some .long) :: ws) ({ frames := 0, cells := 0, slots := 0, locals := 0 } : Room)) (fun a U => a = #[(.int k1), (.long q2), (.long q3)] ∧ Z.Warmed39 U.vm ∧ U.heap = h0) (fun _ _ _ _ _ => True) (fun _ U o U' => ∃ v L, o = .returned v ∧ Q1 Z k1 q2 q3  h0 n0 v U'.heap L ∧ FrameEnd U o U' L ({ frames := 0, cells := 0, slots := 0, locals := 0 } : Room).cells ({ frames := 0, cells := 0, slots := 0, locals := 0 } : Room).slots) := by
  refine MetFree.of_bodySF (plainFor_of_name pn_1) hisR ?_
  intro p e s m args below meth c s₁ Bd hml0 hP hK
  obtain ⟨rfl, hZ, hh⟩ := hP
  have hx := Bd.exec
  have hby := Bd.bytes
  have hml : c.maxLocals = 7 := hml0
  have hown : s.vm.findClass "com/example/mailloop/mailloop/OrderedMessagesPrecedesPinLaw" = some m.cls := findClass_of_methodNamed Bd.named
  have hnm := (name_of_methodNamed Bd.named Bd.method).1
  have X0 : Stand p l e ({ frames := 0, cells := 0, slots := 0, locals := 0 } : Room) s m #[(.int k1), (.long q2), (.long q3)] below meth c s₁ [] 0 0 := Stand.of_body Bd
  have e0 : s₁.heap = h0 := by rw [← hh, Bd.state]; rfl
  have N0 := Fr.nil n0
  have pre0 : ∀ t, Steps p.tables e below (s₁.setTop (mkF m 0 #[.val (.int k1), .val (.long q2), .second, .val (.long q3), .second, .unset, .unset] [])) t → Steps p.tables e below (s₁.setTop (entryFrame m #[(.int k1), (.long q2), (.long q3)] 7)) t := fun t k => castTop (ef_1 m k1 q2 q3) k
  obtain ⟨fs, hr, hrun, hended, hW, hsame⟩ := X0.leave (v := some (.long (own_pick k1 q2 q3))) (fun h => by rw [Bd.returns] at h; cases h)
  refine ⟨_, _, pre0 _ ?_, hrun, hended, _, _, rfl, ?_, ⟨_, rfl⟩, hW, hsame.mono (by decide) (by decide)⟩
  · show Steps p.tables e below (s₁.setTop (mkF m 0 #[.val (.int k1), .val (.long q2), .second, .val (.long q3), .second, .unset, .unset] [])) _
    refine XS.lloadN X0.here hx rfl (hb hby d1_0) rfl ?_
    show Steps p.tables e below (s₁.setTop (mkF m 1 #[.val (.int k1), .val (.long q2), .second, .val (.long q3), .second, .unset, .unset] [(.long q3)])) _
    refine XS.lstore X0.here hx rfl (hb hby d1_1) rfl (l' := #[.val (.int k1), .val (.long q2), .second, .val (.long q3), .second, .val (.long q3), .second]) rfl ?_
    show Steps p.tables e below (s₁.setTop (mkF m 3 #[.val (.int k1), .val (.long q2), .second, .val (.long q3), .second, .val (.long q3), .second] [])) _
    refine XS.iloadN X0.here hx rfl (hb hby d1_3) rfl ?_
    show Steps p.tables e below (s₁.setTop (mkF m 4 #[.val (.int k1), .val (.long q2), .second, .val (.long q3), .second, .val (.long q3), .second] [(.int k1)])) _
    refine XS.iconst X0.here hx rfl (hb hby d1_4) ?_
    show Steps p.tables e below (s₁.setTop (mkF m 5 #[.val (.int k1), .val (.long q2), .second, .val (.long q3), .second, .val (.long q3), .second] [(.int (1 : Int32)), (.int k1)])) _
    by_cases h5 : k1 = (1 : Int32)
    · refine XS.icmpNo X0.here hx rfl (hb hby d1_5) rfl (teq h5).2 ?_
      show Steps p.tables e below (s₁.setTop (mkF m 8 #[.val (.int k1), .val (.long q2), .second, .val (.long q3), .second, .val (.long q3), .second] [])) _
      refine XS.lloadN X0.here hx rfl (hb hby d1_8) rfl ?_
      show Steps p.tables e below (s₁.setTop (mkF m 9 #[.val (.int k1), .val (.long q2), .second, .val (.long q3), .second, .val (.long q3), .second] [(.long q2)])) _
      refine XS.lstore X0.here hx rfl (hb hby d1_9) rfl (l' := #[.val (.int k1), .val (.long q2), .second, .val (.long q3), .second, .val (.long q2), .second]) rfl ?_
      show Steps p.tables e below (s₁.setTop (mkF m 11 #[.val (.int k1), .val (.long q2), .second, .val (.long q3), .second, .val (.long q2), .second] [])) _
      refine XS.goto X0.here hx rfl (pc0 := 11) (pc' := 37) rfl (hb hby d1_11) (by decide) (by decide) ?_
      show Steps p.tables e below (s₁.setTop (mkF m 37 #[.val (.int k1), .val (.long q2), .second, .val (.long q3), .second, .val (.long q2), .second] [])) _
      refine XS.lload X0.here hx rfl (hb hby d1_37) rfl ?_
      show Steps p.tables e below (s₁.setTop (mkF m 39 #[.val (.int k1), .val (.long q2), .second, .val (.long q3), .second, .val (.long q2), .second] [(.long q2)])) _
      unfold own_pick at hr
      rw [if_pos h5] at hr
      exact X0.lreturnOut hx Bd.returns (hb hby d1_39) hr
    · refine XS.icmpYes X0.here hx rfl (pc0 := 5) (pc' := 14) rfl (hb hby d1_5) rfl (feq h5).2 (by decide) (by decide) ?_
      show Steps p.tables e below (s₁.setTop (mkF m 14 #[.val (.int k1), .val (.long q2), .second, .val (.long q3), .second, .val (.long q3), .second] [])) _
      refine XS.iloadN X0.here hx rfl (hb hby d1_14) rfl ?_
      show Steps p.tables e below (s₁.setTop (mkF m 15 #[.val (.int k1), .val (.long q2), .second, .val (.long q3), .second, .val (.long q3), .second] [(.int k1)])) _
      refine XS.iconst X0.here hx rfl (hb hby d1_15) ?_
      show Steps p.tables e below (s₁.setTop (mkF m 16 #[.val (.int k1), .val (.long q2), .second, .val (.long q3), .second, .val (.long q3), .second] [(.int (2 : Int32)), (.int k1)])) _
      by_cases h16 : k1 = (2 : Int32)
      · refine XS.icmpNo X0.here hx rfl (hb hby d1_16) rfl (teq h16).2 ?_
        show Steps p.tables e below (s₁.setTop (mkF m 19 #[.val (.int k1), .val (.long q2), .second, .val (.long q3), .second, .val (.long q3), .second] [])) _
        refine XS.lloadN X0.here hx rfl (hb hby d1_19) rfl ?_
        show Steps p.tables e below (s₁.setTop (mkF m 20 #[.val (.int k1), .val (.long q2), .second, .val (.long q3), .second, .val (.long q3), .second] [(.long q2)])) _
        refine XS.lconst X0.here hx rfl (hb hby d1_20) ?_
        show Steps p.tables e below (s₁.setTop (mkF m 21 #[.val (.int k1), .val (.long q2), .second, .val (.long q3), .second, .val (.long q3), .second] [(.long (1 : Int64)), (.long q2)])) _
        refine XS.ladd X0.here hx rfl (hb hby d1_21) rfl ?_
        show Steps p.tables e below (s₁.setTop (mkF m 22 #[.val (.int k1), .val (.long q2), .second, .val (.long q3), .second, .val (.long q3), .second] [(.long (q2 + (1 : Int64)))])) _
        refine XS.lstore X0.here hx rfl (hb hby d1_22) rfl (l' := #[.val (.int k1), .val (.long q2), .second, .val (.long q3), .second, .val (.long (q2 + (1 : Int64))), .second]) rfl ?_
        show Steps p.tables e below (s₁.setTop (mkF m 24 #[.val (.int k1), .val (.long q2), .second, .val (.long q3), .second, .val (.long (q2 + (1 : Int64))), .second] [])) _
        refine XS.goto X0.here hx rfl (pc0 := 24) (pc' := 37) rfl (hb hby d1_24) (by decide) (by decide) ?_
        show Steps p.tables e below (s₁.setTop (mkF m 37 #[.val (.int k1), .val (.long q2), .second, .val (.long q3), .second, .val (.long (q2 + (1 : Int64))), .second] [])) _
        refine XS.lload X0.here hx rfl (hb hby d1_37) rfl ?_
        show Steps p.tables e below (s₁.setTop (mkF m 39 #[.val (.int k1), .val (.long q2), .second, .val (.long q3), .second, .val (.long (q2 + (1 : Int64))), .second] [(.long (q2 + (1 : Int64)))])) _
        unfold own_pick at hr
        rw [if_neg h5, if_pos h16] at hr
        exact X0.lreturnOut hx Bd.returns (hb hby d1_39) hr
      · refine XS.icmpYes X0.here hx rfl (pc0 := 16) (pc' := 27) rfl (hb hby d1_16) rfl (feq h16).2 (by decide) (by decide) ?_
        show Steps p.tables e below (s₁.setTop (mkF m 27 #[.val (.int k1), .val (.long q2), .second, .val (.long q3), .second, .val (.long q3), .second] [])) _
        refine XS.iloadN X0.here hx rfl (hb hby d1_27) rfl ?_
        show Steps p.tables e below (s₁.setTop (mkF m 28 #[.val (.int k1), .val (.long q2), .second, .val (.long q3), .second, .val (.long q3), .second] [(.int k1)])) _
        refine XS.iconst X0.here hx rfl (hb hby d1_28) ?_
        show Steps p.tables e below (s₁.setTop (mkF m 29 #[.val (.int k1), .val (.long q2), .second, .val (.long q3), .second, .val (.long q3), .second] [(.int (3 : Int32)), (.int k1)])) _
        by_cases h29 : k1 = (3 : Int32)
        · refine XS.icmpNo X0.here hx rfl (hb hby d1_29) rfl (teq h29).2 ?_
          show Steps p.tables e below (s₁.setTop (mkF m 32 #[.val (.int k1), .val (.long q2), .second, .val (.long q3), .second, .val (.long q3), .second] [])) _
          refine XS.lloadN X0.here hx rfl (hb hby d1_32) rfl ?_
          show Steps p.tables e below (s₁.setTop (mkF m 33 #[.val (.int k1), .val (.long q2), .second, .val (.long q3), .second, .val (.long q3), .second] [(.long q2)])) _
          refine XS.lconst X0.here hx rfl (hb hby d1_33) ?_
          show Steps p.tables e below (s₁.setTop (mkF m 34 #[.val (.int k1), .val (.long q2), .second, .val (.long q3), .second, .val (.long q3), .second] [(.long (1 : Int64)), (.long q2)])) _
          refine XS.lsub X0.here hx rfl (hb hby d1_34) rfl ?_
          show Steps p.tables e below (s₁.setTop (mkF m 35 #[.val (.int k1), .val (.long q2), .second, .val (.long q3), .second, .val (.long q3), .second] [(.long (q2 - (1 : Int64)))])) _
          refine XS.lstore X0.here hx rfl (hb hby d1_35) rfl (l' := #[.val (.int k1), .val (.long q2), .second, .val (.long q3), .second, .val (.long (q2 - (1 : Int64))), .second]) rfl ?_
          show Steps p.tables e below (s₁.setTop (mkF m 37 #[.val (.int k1), .val (.long q2), .second, .val (.long q3), .second, .val (.long (q2 - (1 : Int64))), .second] [])) _
          refine XS.lload X0.here hx rfl (hb hby d1_37) rfl ?_
          show Steps p.tables e below (s₁.setTop (mkF m 39 #[.val (.int k1), .val (.long q2), .second, .val (.long q3), .second, .val (.long (q2 - (1 : Int64))), .second] [(.long (q2 - (1 : Int64)))])) _
          unfold own_pick at hr
          rw [if_neg h5, if_neg h16, if_pos h29] at hr
          exact X0.lreturnOut hx Bd.returns (hb hby d1_39) hr
        · refine XS.icmpYes X0.here hx rfl (pc0 := 29) (pc' := 37) rfl (hb hby d1_29) rfl (feq h29).2 (by decide) (by decide) ?_
          show Steps p.tables e below (s₁.setTop (mkF m 37 #[.val (.int k1), .val (.long q2), .second, .val (.long q3), .second, .val (.long q3), .second] [])) _
          refine XS.lload X0.here hx rfl (hb hby d1_37) rfl ?_
          show Steps p.tables e below (s₁.setTop (mkF m 39 #[.val (.int k1), .val (.long q2), .second, .val (.long q3), .second, .val (.long q3), .second] [(.long q3)])) _
          unfold own_pick at hr
          rw [if_neg h5, if_neg h16, if_neg h29] at hr
          exact X0.lreturnOut hx Bd.returns (hb hby d1_39) hr
  · show Q1 Z k1 q2 q3 h0 n0 _ s₁.heap _
    rw [e0]
    exact ⟨rfl, N0, rfl⟩
theorem d2_0 : decode prog_31_method_4_code 0 = .ok (.lload_n 0, 1) := by decide +kernel
theorem d2_1 : decode prog_31_method_4_code 1 = .ok (.lload 4, 2) := by decide +kernel
theorem d2_3 : decode prog_31_method_4_code 3 = .ok (.lcmp, 1) := by decide +kernel
theorem d2_4 : decode prog_31_method_4_code 4 = .ok (.ifCond .lt 17, 3) := by decide +kernel
theorem d2_7 : decode prog_31_method_4_code 7 = .ok (.lload_n 0, 1) := by decide +kernel
theorem d2_8 : decode prog_31_method_4_code 8 = .ok (.lload 4, 2) := by decide +kernel
theorem d2_10 : decode prog_31_method_4_code 10 = .ok (.lcmp, 1) := by decide +kernel
theorem d2_11 : decode prog_31_method_4_code 11 = .ok (.ifCond .ne 14, 3) := by decide +kernel
theorem d2_14 : decode prog_31_method_4_code 14 = .ok (.lload_n 2, 1) := by decide +kernel
theorem d2_15 : decode prog_31_method_4_code 15 = .ok (.lload 6, 2) := by decide +kernel
theorem d2_17 : decode prog_31_method_4_code 17 = .ok (.lcmp, 1) := by decide +kernel
theorem d2_18 : decode prog_31_method_4_code 18 = .ok (.ifCond .ge 7, 3) := by decide +kernel
theorem d2_21 : decode prog_31_method_4_code 21 = .ok (.iconst 1, 1) := by decide +kernel
theorem d2_22 : decode prog_31_method_4_code 22 = .ok (.goto 4, 3) := by decide +kernel
theorem d2_25 : decode prog_31_method_4_code 25 = .ok (.iconst 0, 1) := by decide +kernel
theorem d2_26 : decode prog_31_method_4_code 26 = .ok (.ireturn, 1) := by decide +kernel
theorem pn_2 : plainName "com/example/mailloop/mailloop/OrderedMessages" = true := by first | (simp [plainName, overriddenIn]; done) | decide +kernel
theorem pd_2 : parseMethodDescriptor "(JJJJ)Z" = some ⟨[.long, .long, .long, .long], (some .boolean)⟩ := by decide +kernel
theorem ef_2 (m : MethodId) (q1 : Int64) (q2 : Int64) (q3 : Int64) (q4 : Int64) : entryFrame m #[(.long q1), (.long q2), (.long q3), (.long q4)] 8 = mkF m 0 #[.val (.long q1), .second, .val (.long q2), .second, .val (.long q3), .second, .val (.long q4), .second] [] := by first | (simp [entryFrame, mkF, argsToLocals, Value.category]; done) | rfl
def own_pr (q1 : Int64) (q2 : Int64) (q3 : Int64) (q4 : Int64) : Int32 := (if q1 < q3 then (1 : Int32) else (if q1 = q3 then (if q2 < q4 then (1 : Int32) else (0 : Int32)) else (0 : Int32)))
def Q2 (Z : State) (q1 : Int64) (q2 : Int64) (q3 : Int64) (q4 : Int64) (h0 : Heap) (n0 : Nat) (v : Option Value) (h : Heap) (L : List Loc) : Prop := v = some (.int (nar .boolean (own_pr q1 q2 q3 q4))) ∧ Fr n0 L ∧ h = h0
set_option maxRecDepth 65536 in
set_option maxHeartbeats 40000000 in
theorem rm2 (l : Launch) (Z : State) (a0 : Array Value) (hw : ∀ d ∈ tables_1, d.before a0 Z = true) (ws : List Jvm.Cond) (q1 : Int64) (q2 : Int64) (q3 : Int64) (q4 : Int64)  (h0 : Heap) (n0 : Nat) (Z0 : n0 ≤ h0.size)  :
    MetFree l (⟨"com/example/mailloop/mailloop/OrderedMessages", "precedes", "(JJJJ)Z"⟩ : MethodName) (head1 (Jvm.Cond.code (⟨"com/example/mailloop/mailloop/OrderedMessages", "precedes", "(JJJJ)Z"⟩ : MethodName) prog_31_method_4_code 8 (some .boolean) :: ws) ({ frames := 0, cells := 0, slots := 0, locals := 0 } : Room)) (fun a U => a = #[(.long q1), (.long q2), (.long q3), (.long q4)] ∧ Z.Warmed39 U.vm ∧ U.heap = h0) (fun _ _ _ _ _ => True) (fun _ U o U' => ∃ v L, o = .returned v ∧ Q2 Z q1 q2 q3 q4  h0 n0 v U'.heap L ∧ FrameEnd U o U' L ({ frames := 0, cells := 0, slots := 0, locals := 0 } : Room).cells ({ frames := 0, cells := 0, slots := 0, locals := 0 } : Room).slots) := by
  refine MetFree.of_bodySF (plainFor_of_name pn_2) hisR ?_
  intro p e s m args below meth c s₁ Bd hml0 hP hK
  obtain ⟨rfl, hZ, hh⟩ := hP
  have hx := Bd.exec
  have hby := Bd.bytes
  have hml : c.maxLocals = 8 := hml0
  have hown : s.vm.findClass "com/example/mailloop/mailloop/OrderedMessages" = some m.cls := findClass_of_methodNamed Bd.named
  have hnm := (name_of_methodNamed Bd.named Bd.method).1
  have X0 : Stand p l e ({ frames := 0, cells := 0, slots := 0, locals := 0 } : Room) s m #[(.long q1), (.long q2), (.long q3), (.long q4)] below meth c s₁ [] 0 0 := Stand.of_body Bd
  have e0 : s₁.heap = h0 := by rw [← hh, Bd.state]; rfl
  have N0 := Fr.nil n0
  have pre0 : ∀ t, Steps p.tables e below (s₁.setTop (mkF m 0 #[.val (.long q1), .second, .val (.long q2), .second, .val (.long q3), .second, .val (.long q4), .second] [])) t → Steps p.tables e below (s₁.setTop (entryFrame m #[(.long q1), (.long q2), (.long q3), (.long q4)] 8)) t := fun t k => castTop (ef_2 m q1 q2 q3 q4) k
  have s0 : ∀ t, Steps p.tables e below (s₁.setTop (mkF m 26 #[.val (.long q1), .second, .val (.long q2), .second, .val (.long q3), .second, .val (.long q4), .second] [(.int (own_pr q1 q2 q3 q4))])) t → Steps p.tables e below (s₁.setTop (mkF m 0 #[.val (.long q1), .second, .val (.long q2), .second, .val (.long q3), .second, .val (.long q4), .second] [])) t := by
    intro t k
    refine XS.lloadN X0.here hx rfl (hb hby d2_0) rfl ?_
    show Steps p.tables e below (s₁.setTop (mkF m 1 #[.val (.long q1), .second, .val (.long q2), .second, .val (.long q3), .second, .val (.long q4), .second] [(.long q1)])) _
    refine XS.lload X0.here hx rfl (hb hby d2_1) rfl ?_
    show Steps p.tables e below (s₁.setTop (mkF m 3 #[.val (.long q1), .second, .val (.long q2), .second, .val (.long q3), .second, .val (.long q4), .second] [(.long q3), (.long q1)])) _
    refine XS.lcmp X0.here hx rfl (hb hby d2_3) rfl ?_
    show Steps p.tables e below (s₁.setTop (mkF m 4 #[.val (.long q1), .second, .val (.long q2), .second, .val (.long q3), .second, .val (.long q4), .second] [(.int (lcmpW q1 q3))])) _
    by_cases h4 : q1 < q3
    · refine XS.ifYes X0.here hx rfl (pc0 := 4) (pc' := 21) rfl (hb hby d2_4) rfl ((if0 _ _).trans (tlt ((lw_lt _ _).mpr h4)).1) (by decide) (by decide) ?_
      show Steps p.tables e below (s₁.setTop (mkF m 21 #[.val (.long q1), .second, .val (.long q2), .second, .val (.long q3), .second, .val (.long q4), .second] [])) _
      refine XS.iconst X0.here hx rfl (hb hby d2_21) ?_
      show Steps p.tables e below (s₁.setTop (mkF m 22 #[.val (.long q1), .second, .val (.long q2), .second, .val (.long q3), .second, .val (.long q4), .second] [(.int (1 : Int32))])) _
      refine XS.goto X0.here hx rfl (pc0 := 22) (pc' := 26) rfl (hb hby d2_22) (by decide) (by decide) ?_
      show Steps p.tables e below (s₁.setTop (mkF m 26 #[.val (.long q1), .second, .val (.long q2), .second, .val (.long q3), .second, .val (.long q4), .second] [(.int (1 : Int32))])) _
      unfold own_pr at k
      rw [if_pos h4] at k
      exact k
    · refine XS.ifNo X0.here hx rfl (hb hby d2_4) rfl ((if0 _ _).trans (flt (fun q => h4 ((lw_lt _ _).mp q))).1) ?_
      show Steps p.tables e below (s₁.setTop (mkF m 7 #[.val (.long q1), .second, .val (.long q2), .second, .val (.long q3), .second, .val (.long q4), .second] [])) _
      refine XS.lloadN X0.here hx rfl (hb hby d2_7) rfl ?_
      show Steps p.tables e below (s₁.setTop (mkF m 8 #[.val (.long q1), .second, .val (.long q2), .second, .val (.long q3), .second, .val (.long q4), .second] [(.long q1)])) _
      refine XS.lload X0.here hx rfl (hb hby d2_8) rfl ?_
      show Steps p.tables e below (s₁.setTop (mkF m 10 #[.val (.long q1), .second, .val (.long q2), .second, .val (.long q3), .second, .val (.long q4), .second] [(.long q3), (.long q1)])) _
      refine XS.lcmp X0.here hx rfl (hb hby d2_10) rfl ?_
      show Steps p.tables e below (s₁.setTop (mkF m 11 #[.val (.long q1), .second, .val (.long q2), .second, .val (.long q3), .second, .val (.long q4), .second] [(.int (lcmpW q1 q3))])) _
      by_cases h11 : q1 = q3
      · refine XS.ifNo X0.here hx rfl (hb hby d2_11) rfl ((if0 _ _).trans (teq ((lw_eq _ _).mpr h11)).2) ?_
        show Steps p.tables e below (s₁.setTop (mkF m 14 #[.val (.long q1), .second, .val (.long q2), .second, .val (.long q3), .second, .val (.long q4), .second] [])) _
        refine XS.lloadN X0.here hx rfl (hb hby d2_14) rfl ?_
        show Steps p.tables e below (s₁.setTop (mkF m 15 #[.val (.long q1), .second, .val (.long q2), .second, .val (.long q3), .second, .val (.long q4), .second] [(.long q2)])) _
        refine XS.lload X0.here hx rfl (hb hby d2_15) rfl ?_
        show Steps p.tables e below (s₁.setTop (mkF m 17 #[.val (.long q1), .second, .val (.long q2), .second, .val (.long q3), .second, .val (.long q4), .second] [(.long q4), (.long q2)])) _
        refine XS.lcmp X0.here hx rfl (hb hby d2_17) rfl ?_
        show Steps p.tables e below (s₁.setTop (mkF m 18 #[.val (.long q1), .second, .val (.long q2), .second, .val (.long q3), .second, .val (.long q4), .second] [(.int (lcmpW q2 q4))])) _
        by_cases h18 : q2 < q4
        · refine XS.ifNo X0.here hx rfl (hb hby d2_18) rfl ((if0 _ _).trans (tlt ((lw_lt _ _).mpr h18)).2.1) ?_
          show Steps p.tables e below (s₁.setTop (mkF m 21 #[.val (.long q1), .second, .val (.long q2), .second, .val (.long q3), .second, .val (.long q4), .second] [])) _
          refine XS.iconst X0.here hx rfl (hb hby d2_21) ?_
          show Steps p.tables e below (s₁.setTop (mkF m 22 #[.val (.long q1), .second, .val (.long q2), .second, .val (.long q3), .second, .val (.long q4), .second] [(.int (1 : Int32))])) _
          refine XS.goto X0.here hx rfl (pc0 := 22) (pc' := 26) rfl (hb hby d2_22) (by decide) (by decide) ?_
          show Steps p.tables e below (s₁.setTop (mkF m 26 #[.val (.long q1), .second, .val (.long q2), .second, .val (.long q3), .second, .val (.long q4), .second] [(.int (1 : Int32))])) _
          unfold own_pr at k
          rw [if_neg h4, if_pos h11, if_pos h18] at k
          exact k
        · refine XS.ifYes X0.here hx rfl (pc0 := 18) (pc' := 25) rfl (hb hby d2_18) rfl ((if0 _ _).trans (flt (fun q => h18 ((lw_lt _ _).mp q))).2.1) (by decide) (by decide) ?_
          show Steps p.tables e below (s₁.setTop (mkF m 25 #[.val (.long q1), .second, .val (.long q2), .second, .val (.long q3), .second, .val (.long q4), .second] [])) _
          refine XS.iconst X0.here hx rfl (hb hby d2_25) ?_
          show Steps p.tables e below (s₁.setTop (mkF m 26 #[.val (.long q1), .second, .val (.long q2), .second, .val (.long q3), .second, .val (.long q4), .second] [(.int (0 : Int32))])) _
          unfold own_pr at k
          rw [if_neg h4, if_pos h11, if_neg h18] at k
          exact k
      · refine XS.ifYes X0.here hx rfl (pc0 := 11) (pc' := 25) rfl (hb hby d2_11) rfl ((if0 _ _).trans (feq (fun q => h11 ((lw_eq _ _).mp q))).2) (by decide) (by decide) ?_
        show Steps p.tables e below (s₁.setTop (mkF m 25 #[.val (.long q1), .second, .val (.long q2), .second, .val (.long q3), .second, .val (.long q4), .second] [])) _
        refine XS.iconst X0.here hx rfl (hb hby d2_25) ?_
        show Steps p.tables e below (s₁.setTop (mkF m 26 #[.val (.long q1), .second, .val (.long q2), .second, .val (.long q3), .second, .val (.long q4), .second] [(.int (0 : Int32))])) _
        unfold own_pr at k
        rw [if_neg h4, if_neg h11] at k
        exact k
  obtain ⟨fs, hr, hrun, hended, hW, hsame⟩ := X0.leave (v := some (.int (nar .boolean (own_pr q1 q2 q3 q4)))) (fun h => by rw [Bd.returns] at h; cases h)
  refine ⟨_, _, pre0 _ ?_, hrun, hended, _, _, rfl, ?_, ⟨_, rfl⟩, hW, hsame.mono (by decide) (by decide)⟩
  · show Steps p.tables e below (s₁.setTop (mkF m 0 #[.val (.long q1), .second, .val (.long q2), .second, .val (.long q3), .second, .val (.long q4), .second] [])) _
    refine s0 _ ?_
    show Steps p.tables e below (s₁.setTop (mkF m 26 #[.val (.long q1), .second, .val (.long q2), .second, .val (.long q3), .second, .val (.long q4), .second] [(.int (own_pr q1 q2 q3 q4))])) _
    exact retN X0 hx (t := .boolean) Bd.returns (by simp) (hb hby d2_26) hr
  · show Q2 Z q1 q2 q3 q4 h0 n0 _ s₁.heap _
    rw [e0]
    exact ⟨rfl, N0, rfl⟩
theorem own_eq1 {a b : Int64} (h : a = b) : ¬ a < b := by subst h; rw [Int64.lt_iff_toInt_lt]; omega
theorem own_eq2 {a b : Int64} (h : a = b) : ¬ b < a := own_eq1 h.symm
theorem own_as {a b : Int64} (h : a < b) : ¬ b < a := by rw [Int64.lt_iff_toInt_lt] at h ⊢; omega
theorem own_gt {a b : Int64} (h1 : ¬ a < b) (h2 : ¬ a = b) : b < a := by
  rw [Int64.lt_iff_toInt_lt] at h1 ⊢
  rw [← Int64.toInt_inj] at h2
  omega
theorem own_yes {a b c d : Int64} (h : a < c ∨ (a = c ∧ b < d)) : nar .boolean (own_pr a b c d) = (1 : Int32) := by
  unfold own_pr
  rcases h with h | ⟨rfl, h⟩
  · rw [if_pos h]; rfl
  · rw [if_neg (own_eq1 rfl), if_pos rfl, if_pos h]; rfl
theorem own_no {a b c d : Int64} (h1 : ¬ a < c) (h2 : a = c → ¬ b < d) : nar .boolean (own_pr a b c d) = (0 : Int32) := by
  unfold own_pr
  rw [if_neg h1]
  by_cases h : a = c
  · rw [if_pos h, if_neg (h2 h)]; rfl
  · rw [if_neg h]; rfl
theorem pn_0 : plainName "com/example/mailloop/mailloop/OrderedMessagesPrecedesPinLaw" = true := by first | (simp [plainName, overriddenIn]; done) | decide +kernel
theorem ef_0 (m : MethodId) (ad : Int64) (aq : Int64) (bdr : Int64) (bsr : Int64) (sel : Int32) : entryFrame m #[(.long ad), (.long aq), (.long bdr), (.long bsr), (.int sel)] maxLocals = mkF m 0 #[.val (.long ad), .second, .val (.long aq), .second, .val (.long bdr), .second, .val (.long bsr), .second, .val (.int sel), .unset, .unset, .unset, .unset, .unset, .unset, .unset, .unset, .unset] [] := by first | (simp [entryFrame, mkF, argsToLocals, Value.category, maxLocals]; done) | rfl
def Q0 (Z : State) (ad : Int64) (aq : Int64) (bdr : Int64) (bsr : Int64) (sel : Int32) (h0 : Heap) (n0 : Nat) (v : Option Value) (h : Heap) (L : List Loc) : Prop := v = some (.int 1) ∧ Fr n0 L
set_option maxRecDepth 65536 in
set_option maxHeartbeats 40000000 in
theorem rm0 (l : Launch) (Z : State) (a0 : Array Value) (hw : ∀ d ∈ tables_1, d.before a0 Z = true) (ws : List Jvm.Cond) (ad : Int64) (aq : Int64) (bdr : Int64) (bsr : Int64) (sel : Int32)  (h0 : Heap) (n0 : Nat) (Z0 : n0 ≤ h0.size)  :
    MetFree l x (head1 (Jvm.Cond.code x code maxLocals ret :: ws) room_1) (fun a U => a = #[(.long ad), (.long aq), (.long bdr), (.long bsr), (.int sel)] ∧ Z.Warmed39 U.vm ∧ U.heap = h0) (fun _ _ _ _ _ => True) (fun _ U o U' => ∃ v L, o = .returned v ∧ Q0 Z ad aq bdr bsr sel  h0 n0 v U'.heap L ∧ FrameEnd U o U' L room_1.cells room_1.slots) := by
  refine MetFree.of_bodySF (plainFor_of_name pn_0) hisR ?_
  intro p e s m args below meth c s₁ Bd hml0 hP hK
  obtain ⟨rfl, hZ, hh⟩ := hP
  have hx := Bd.exec
  have hby := Bd.bytes
  have hml : c.maxLocals = 18 := hml0
  have hown : s.vm.findClass "com/example/mailloop/mailloop/OrderedMessagesPrecedesPinLaw" = some m.cls := findClass_of_methodNamed Bd.named
  have hnm := (name_of_methodNamed Bd.named Bd.method).1
  have X0 : Stand p l e room_1 s m #[(.long ad), (.long aq), (.long bdr), (.long bsr), (.int sel)] below meth c s₁ [] 0 0 := Stand.of_body Bd
  have e0 : s₁.heap = h0 := by rw [← hh, Bd.state]; rfl
  have N0 := Fr.nil n0
  have pre0 : ∀ t, Steps p.tables e below (s₁.setTop (mkF m 0 #[.val (.long ad), .second, .val (.long aq), .second, .val (.long bdr), .second, .val (.long bsr), .second, .val (.int sel), .unset, .unset, .unset, .unset, .unset, .unset, .unset, .unset, .unset] [])) t → Steps p.tables e below (s₁.setTop (entryFrame m #[(.long ad), (.long aq), (.long bdr), (.long bsr), (.int sel)] maxLocals)) t := fun t k => castTop (ef_0 m ad aq bdr bsr sel) k
  obtain ⟨bd, hbd⟩ : ∃ z, z = own_pick (sel &&& (3 : Int32)) ad bdr := ⟨_, rfl⟩
  obtain ⟨_, _, ⟨T1, L1, k1, n1⟩, -, X1, ⟨Lc1, hQ1, l1, y1, z1⟩, st1⟩ := Jvm.LawKit.callS X0 hx (y := (⟨"com/example/mailloop/mailloop/OrderedMessagesPrecedesPinLaw", "pick", "(IJJ)J"⟩ : MethodName)) hown (mvT hZ (hw _ (List.mem_of_getElem? (i := 0) rfl))) (mvT hZ (hw _ (List.mem_of_getElem? (i := 1) rfl))) (mvT hZ (hw _ (List.mem_of_getElem? (i := 2) rfl))) (mvT hZ (hw _ (List.mem_of_getElem? (i := 3) rfl))) (by decide) (backOf (W := 0) (rm1 l Z a0 hw [] (sel &&& (3 : Int32)) ad bdr h0 n0 Z0) hZ (hw _ (List.mem_of_getElem? (i := 3) rfl)) (hw _ (List.mem_of_getElem? (i := 2) rfl)) (by decide) (by decide)) (g := (mkF m 7 #[.val (.long ad), .second, .val (.long aq), .second, .val (.long bdr), .second, .val (.long bsr), .second, .val (.int sel), .unset, .unset, .unset, .unset, .unset, .unset, .unset, .unset, .unset] [(.long bdr), (.long ad), (.int (sel &&& (3 : Int32)))])) rfl (by rw [hml]; rfl) (argsL := [(.int (sel &&& (3 : Int32))), (.long ad), (.long bdr)]) (rest := []) (lenOf pd_1 rfl) rfl (by show 2 * 0 + _ ≤ _; exact Nat.le_of_eq rfl) (hb hby at_7) (fun _ _ => ⟨rfl, e0, (by decide : 0 + 0 ≤ _), (by decide : 0 + 0 ≤ _)⟩)
  dsimp only [Pt.U, Pt.locs, Pt.cells, Pt.slots] at X1 l1 y1 z1 st1 hQ1
  subst l1 y1 z1
  obtain ⟨rfl, Nq1, e1⟩ := hQ1
  have N1 := Fr.app N0 Nq1
  obtain ⟨bq, hbq⟩ : ∃ z, z = own_pick (((sel.toUInt32 >>> ((2 : Int32) &&& 31).toUInt32).toInt32) &&& (3 : Int32)) aq bsr := ⟨_, rfl⟩
  obtain ⟨_, _, ⟨T2, L2, k2, n2⟩, -, X2, ⟨Lc2, hQ2, l2, y2, z2⟩, st2⟩ := Jvm.LawKit.callS X1 hx (y := (⟨"com/example/mailloop/mailloop/OrderedMessagesPrecedesPinLaw", "pick", "(IJJ)J"⟩ : MethodName)) hown (mvT hZ (hw _ (List.mem_of_getElem? (i := 0) rfl))) (mvT hZ (hw _ (List.mem_of_getElem? (i := 1) rfl))) (mvT hZ (hw _ (List.mem_of_getElem? (i := 2) rfl))) (mvT hZ (hw _ (List.mem_of_getElem? (i := 3) rfl))) (by decide) (backOf (W := 0) (rm1 l Z a0 hw [] (((sel.toUInt32 >>> ((2 : Int32) &&& 31).toUInt32).toInt32) &&& (3 : Int32)) aq bsr h0 n0 Z0) hZ (hw _ (List.mem_of_getElem? (i := 3) rfl)) (hw _ (List.mem_of_getElem? (i := 2) rfl)) (by decide) (by decide)) (g := (mkF m 21 #[.val (.long ad), .second, .val (.long aq), .second, .val (.long bdr), .second, .val (.long bsr), .second, .val (.int sel), .val (.long bd), .second, .unset, .unset, .unset, .unset, .unset, .unset, .unset] [(.long bsr), (.long aq), (.int (((sel.toUInt32 >>> ((2 : Int32) &&& 31).toUInt32).toInt32) &&& (3 : Int32)))])) rfl (by rw [hml]; rfl) (argsL := [(.int (((sel.toUInt32 >>> ((2 : Int32) &&& 31).toUInt32).toInt32) &&& (3 : Int32))), (.long aq), (.long bsr)]) (rest := []) (lenOf pd_1 rfl) rfl (by show 2 * 0 + _ ≤ _; exact Nat.le_of_eq rfl) (hb hby at_21) (fun _ _ => ⟨rfl, e1, (by decide : 0 + 0 ≤ _), (by decide : 0 + 0 ≤ _)⟩)
  dsimp only [Pt.U, Pt.locs, Pt.cells, Pt.slots] at X2 l2 y2 z2 st2 hQ2
  subst l2 y2 z2
  obtain ⟨rfl, Nq2, e2⟩ := hQ2
  have N2 := Fr.app N1 Nq2
  obtain ⟨vab, hab⟩ : ∃ z, z = (nar .boolean (own_pr ad aq bd bq)) := ⟨_, rfl⟩
  obtain ⟨vba, hba⟩ : ∃ z, z = (nar .boolean (own_pr bd bq ad aq)) := ⟨_, rfl⟩
  obtain ⟨_, _, ⟨T3, L3, k3, n3⟩, -, X3, ⟨Lc3, hQ3, l3, y3, z3⟩, st3⟩ := Jvm.LawKit.callS X2 hx (y := (⟨"com/example/mailloop/mailloop/OrderedMessages", "precedes", "(JJJJ)Z"⟩ : MethodName)) hown (mvT hZ (hw _ (List.mem_of_getElem? (i := 4) rfl))) (mvT hZ (hw _ (List.mem_of_getElem? (i := 5) rfl))) (mvT hZ (hw _ (List.mem_of_getElem? (i := 6) rfl))) (mvT hZ (hw _ (List.mem_of_getElem? (i := 7) rfl))) (by decide) (backOf (W := 0) (rm2 l Z a0 hw [] ad aq bd bq h0 n0 Z0) hZ (hw _ (List.mem_of_getElem? (i := 7) rfl)) (hw _ (List.mem_of_getElem? (i := 6) rfl)) (by decide) (by decide)) (g := (mkF m 32 #[.val (.long ad), .second, .val (.long aq), .second, .val (.long bdr), .second, .val (.long bsr), .second, .val (.int sel), .val (.long bd), .second, .val (.long bq), .second, .unset, .unset, .unset, .unset, .unset] [(.long bq), (.long bd), (.long aq), (.long ad)])) rfl (by rw [hml]; rfl) (argsL := [(.long ad), (.long aq), (.long bd), (.long bq)]) (rest := []) (lenOf pd_2 rfl) rfl (by show 2 * 0 + _ ≤ _; exact Nat.le_of_eq rfl) (hb hby at_32) (fun _ _ => ⟨rfl, e2, (by decide : 0 + 0 ≤ _), (by decide : 0 + 0 ≤ _)⟩)
  dsimp only [Pt.U, Pt.locs, Pt.cells, Pt.slots] at X3 l3 y3 z3 st3 hQ3
  subst l3 y3 z3
  obtain ⟨rfl, Nq3, e3⟩ := hQ3
  have N3 := Fr.app N2 Nq3
  obtain ⟨_, _, ⟨T4, L4, k4, n4⟩, -, X4, ⟨Lc4, hQ4, l4, y4, z4⟩, st4⟩ := Jvm.LawKit.callS X3 hx (y := (⟨"com/example/mailloop/mailloop/OrderedMessages", "precedes", "(JJJJ)Z"⟩ : MethodName)) hown (mvT hZ (hw _ (List.mem_of_getElem? (i := 4) rfl))) (mvT hZ (hw _ (List.mem_of_getElem? (i := 5) rfl))) (mvT hZ (hw _ (List.mem_of_getElem? (i := 6) rfl))) (mvT hZ (hw _ (List.mem_of_getElem? (i := 7) rfl))) (by decide) (backOf (W := 0) (rm2 l Z a0 hw [] bd bq ad aq h0 n0 Z0) hZ (hw _ (List.mem_of_getElem? (i := 7) rfl)) (hw _ (List.mem_of_getElem? (i := 6) rfl)) (by decide) (by decide)) (g := (mkF m 43 #[.val (.long ad), .second, .val (.long aq), .second, .val (.long bdr), .second, .val (.long bsr), .second, .val (.int sel), .val (.long bd), .second, .val (.long bq), .second, .val (.int vab), .unset, .unset, .unset, .unset] [(.long aq), (.long ad), (.long bq), (.long bd)])) rfl (by rw [hml]; rfl) (argsL := [(.long bd), (.long bq), (.long ad), (.long aq)]) (rest := []) (lenOf pd_2 rfl) rfl (by show 2 * 0 + _ ≤ _; exact Nat.le_of_eq rfl) (hb hby at_43) (fun _ _ => ⟨rfl, e3, (by decide : 0 + 0 ≤ _), (by decide : 0 + 0 ≤ _)⟩)
  dsimp only [Pt.U, Pt.locs, Pt.cells, Pt.slots] at X4 l4 y4 z4 st4 hQ4
  subst l4 y4 z4
  obtain ⟨rfl, Nq4, e4⟩ := hQ4
  have N4 := Fr.app N3 Nq4
  obtain ⟨_, _, ⟨T5, L5, k5, n5⟩, -, X5, ⟨Lc5, hQ5, l5, y5, z5⟩, st5⟩ := Jvm.LawKit.callS X4 hx (y := (⟨"com/example/mailloop/mailloop/OrderedMessages", "precedes", "(JJJJ)Z"⟩ : MethodName)) hown (mvT hZ (hw _ (List.mem_of_getElem? (i := 4) rfl))) (mvT hZ (hw _ (List.mem_of_getElem? (i := 5) rfl))) (mvT hZ (hw _ (List.mem_of_getElem? (i := 6) rfl))) (mvT hZ (hw _ (List.mem_of_getElem? (i := 7) rfl))) (by decide) (backOf (W := 0) (rm2 l Z a0 hw [] ad aq ad aq h0 n0 Z0) hZ (hw _ (List.mem_of_getElem? (i := 7) rfl)) (hw _ (List.mem_of_getElem? (i := 6) rfl)) (by decide) (by decide)) (g := (mkF m 52 #[.val (.long ad), .second, .val (.long aq), .second, .val (.long bdr), .second, .val (.long bsr), .second, .val (.int sel), .val (.long bd), .second, .val (.long bq), .second, .val (.int vab), .val (.int vba), .unset, .unset, .unset] [(.long aq), (.long ad), (.long aq), (.long ad)])) rfl (by rw [hml]; rfl) (argsL := [(.long ad), (.long aq), (.long ad), (.long aq)]) (rest := []) (lenOf pd_2 rfl) rfl (by show 2 * 0 + _ ≤ _; exact Nat.le_of_eq rfl) (hb hby at_52) (fun _ _ => ⟨rfl, e4, (by decide : 0 + 0 ≤ _), (by decide : 0 + 0 ≤ _)⟩)
  dsimp only [Pt.U, Pt.locs, Pt.cells, Pt.slots] at X5 l5 y5 z5 st5 hQ5
  subst l5 y5 z5
  obtain ⟨rfl, Nq5, e5⟩ := hQ5
  have N5 := Fr.app N4 Nq5
  obtain ⟨fs, hr, hrun, hended, hW, hsame⟩ := X5.leave (v := some (.int (1 : Int32))) (fun h => by rw [Bd.returns] at h; cases h)
  refine ⟨_, _, pre0 _ ?_, hrun, hended, _, _, rfl, ?_, ⟨_, rfl⟩, hW, hsame.mono (by decide) (by decide)⟩
  · show Steps p.tables e below (s₁.setTop (mkF m 0 #[.val (.long ad), .second, .val (.long aq), .second, .val (.long bdr), .second, .val (.long bsr), .second, .val (.int sel), .unset, .unset, .unset, .unset, .unset, .unset, .unset, .unset, .unset] [])) _
    refine XS.iload X0.here hx rfl (hb hby at_0) rfl ?_
    show Steps p.tables e below (s₁.setTop (mkF m 2 #[.val (.long ad), .second, .val (.long aq), .second, .val (.long bdr), .second, .val (.long bsr), .second, .val (.int sel), .unset, .unset, .unset, .unset, .unset, .unset, .unset, .unset, .unset] [(.int sel)])) _
    refine XS.iconst X0.here hx rfl (hb hby at_2) ?_
    show Steps p.tables e below (s₁.setTop (mkF m 3 #[.val (.long ad), .second, .val (.long aq), .second, .val (.long bdr), .second, .val (.long bsr), .second, .val (.int sel), .unset, .unset, .unset, .unset, .unset, .unset, .unset, .unset, .unset] [(.int (3 : Int32)), (.int sel)])) _
    refine XS.iand X0.here hx rfl (hb hby at_3) rfl ?_
    show Steps p.tables e below (s₁.setTop (mkF m 4 #[.val (.long ad), .second, .val (.long aq), .second, .val (.long bdr), .second, .val (.long bsr), .second, .val (.int sel), .unset, .unset, .unset, .unset, .unset, .unset, .unset, .unset, .unset] [(.int (sel &&& (3 : Int32)))])) _
    refine XS.lloadN X0.here hx rfl (hb hby at_4) rfl ?_
    show Steps p.tables e below (s₁.setTop (mkF m 5 #[.val (.long ad), .second, .val (.long aq), .second, .val (.long bdr), .second, .val (.long bsr), .second, .val (.int sel), .unset, .unset, .unset, .unset, .unset, .unset, .unset, .unset, .unset] [(.long ad), (.int (sel &&& (3 : Int32)))])) _
    refine XS.lload X0.here hx rfl (hb hby at_5) rfl ?_
    show Steps p.tables e below (s₁.setTop (mkF m 7 #[.val (.long ad), .second, .val (.long aq), .second, .val (.long bdr), .second, .val (.long bsr), .second, .val (.int sel), .unset, .unset, .unset, .unset, .unset, .unset, .unset, .unset, .unset] [(.long bdr), (.long ad), (.int (sel &&& (3 : Int32)))])) _
    refine st1 _ ?_
    show Steps p.tables e below (T1.setTop (mkF m 10 #[.val (.long ad), .second, .val (.long aq), .second, .val (.long bdr), .second, .val (.long bsr), .second, .val (.int sel), .unset, .unset, .unset, .unset, .unset, .unset, .unset, .unset, .unset] [(.long (own_pick (sel &&& (3 : Int32)) ad bdr))])) _
    rw [← hbd]
    show Steps p.tables e below (T1.setTop (mkF m 10 #[.val (.long ad), .second, .val (.long aq), .second, .val (.long bdr), .second, .val (.long bsr), .second, .val (.int sel), .unset, .unset, .unset, .unset, .unset, .unset, .unset, .unset, .unset] [(.long bd)])) _
    refine XS.lstore X1.here hx rfl (hb hby at_10) rfl (l' := #[.val (.long ad), .second, .val (.long aq), .second, .val (.long bdr), .second, .val (.long bsr), .second, .val (.int sel), .val (.long bd), .second, .unset, .unset, .unset, .unset, .unset, .unset, .unset]) rfl ?_
    show Steps p.tables e below (T1.setTop (mkF m 12 #[.val (.long ad), .second, .val (.long aq), .second, .val (.long bdr), .second, .val (.long bsr), .second, .val (.int sel), .val (.long bd), .second, .unset, .unset, .unset, .unset, .unset, .unset, .unset] [])) _
    refine XS.iload X1.here hx rfl (hb hby at_12) rfl ?_
    show Steps p.tables e below (T1.setTop (mkF m 14 #[.val (.long ad), .second, .val (.long aq), .second, .val (.long bdr), .second, .val (.long bsr), .second, .val (.int sel), .val (.long bd), .second, .unset, .unset, .unset, .unset, .unset, .unset, .unset] [(.int sel)])) _
    refine XS.iconst X1.here hx rfl (hb hby at_14) ?_
    show Steps p.tables e below (T1.setTop (mkF m 15 #[.val (.long ad), .second, .val (.long aq), .second, .val (.long bdr), .second, .val (.long bsr), .second, .val (.int sel), .val (.long bd), .second, .unset, .unset, .unset, .unset, .unset, .unset, .unset] [(.int (2 : Int32)), (.int sel)])) _
    refine XS.iushr X1.here hx rfl (hb hby at_15) rfl ?_
    show Steps p.tables e below (T1.setTop (mkF m 16 #[.val (.long ad), .second, .val (.long aq), .second, .val (.long bdr), .second, .val (.long bsr), .second, .val (.int sel), .val (.long bd), .second, .unset, .unset, .unset, .unset, .unset, .unset, .unset] [(.int ((sel.toUInt32 >>> ((2 : Int32) &&& 31).toUInt32).toInt32))])) _
    refine XS.iconst X1.here hx rfl (hb hby at_16) ?_
    show Steps p.tables e below (T1.setTop (mkF m 17 #[.val (.long ad), .second, .val (.long aq), .second, .val (.long bdr), .second, .val (.long bsr), .second, .val (.int sel), .val (.long bd), .second, .unset, .unset, .unset, .unset, .unset, .unset, .unset] [(.int (3 : Int32)), (.int ((sel.toUInt32 >>> ((2 : Int32) &&& 31).toUInt32).toInt32))])) _
    refine XS.iand X1.here hx rfl (hb hby at_17) rfl ?_
    show Steps p.tables e below (T1.setTop (mkF m 18 #[.val (.long ad), .second, .val (.long aq), .second, .val (.long bdr), .second, .val (.long bsr), .second, .val (.int sel), .val (.long bd), .second, .unset, .unset, .unset, .unset, .unset, .unset, .unset] [(.int (((sel.toUInt32 >>> ((2 : Int32) &&& 31).toUInt32).toInt32) &&& (3 : Int32)))])) _
    refine XS.lloadN X1.here hx rfl (hb hby at_18) rfl ?_
    show Steps p.tables e below (T1.setTop (mkF m 19 #[.val (.long ad), .second, .val (.long aq), .second, .val (.long bdr), .second, .val (.long bsr), .second, .val (.int sel), .val (.long bd), .second, .unset, .unset, .unset, .unset, .unset, .unset, .unset] [(.long aq), (.int (((sel.toUInt32 >>> ((2 : Int32) &&& 31).toUInt32).toInt32) &&& (3 : Int32)))])) _
    refine XS.lload X1.here hx rfl (hb hby at_19) rfl ?_
    show Steps p.tables e below (T1.setTop (mkF m 21 #[.val (.long ad), .second, .val (.long aq), .second, .val (.long bdr), .second, .val (.long bsr), .second, .val (.int sel), .val (.long bd), .second, .unset, .unset, .unset, .unset, .unset, .unset, .unset] [(.long bsr), (.long aq), (.int (((sel.toUInt32 >>> ((2 : Int32) &&& 31).toUInt32).toInt32) &&& (3 : Int32)))])) _
    refine st2 _ ?_
    show Steps p.tables e below (T2.setTop (mkF m 24 #[.val (.long ad), .second, .val (.long aq), .second, .val (.long bdr), .second, .val (.long bsr), .second, .val (.int sel), .val (.long bd), .second, .unset, .unset, .unset, .unset, .unset, .unset, .unset] [(.long (own_pick (((sel.toUInt32 >>> ((2 : Int32) &&& 31).toUInt32).toInt32) &&& (3 : Int32)) aq bsr))])) _
    rw [← hbq]
    show Steps p.tables e below (T2.setTop (mkF m 24 #[.val (.long ad), .second, .val (.long aq), .second, .val (.long bdr), .second, .val (.long bsr), .second, .val (.int sel), .val (.long bd), .second, .unset, .unset, .unset, .unset, .unset, .unset, .unset] [(.long bq)])) _
    refine XS.lstore X2.here hx rfl (hb hby at_24) rfl (l' := #[.val (.long ad), .second, .val (.long aq), .second, .val (.long bdr), .second, .val (.long bsr), .second, .val (.int sel), .val (.long bd), .second, .val (.long bq), .second, .unset, .unset, .unset, .unset, .unset]) rfl ?_
    show Steps p.tables e below (T2.setTop (mkF m 26 #[.val (.long ad), .second, .val (.long aq), .second, .val (.long bdr), .second, .val (.long bsr), .second, .val (.int sel), .val (.long bd), .second, .val (.long bq), .second, .unset, .unset, .unset, .unset, .unset] [])) _
    refine XS.lloadN X2.here hx rfl (hb hby at_26) rfl ?_
    show Steps p.tables e below (T2.setTop (mkF m 27 #[.val (.long ad), .second, .val (.long aq), .second, .val (.long bdr), .second, .val (.long bsr), .second, .val (.int sel), .val (.long bd), .second, .val (.long bq), .second, .unset, .unset, .unset, .unset, .unset] [(.long ad)])) _
    refine XS.lloadN X2.here hx rfl (hb hby at_27) rfl ?_
    show Steps p.tables e below (T2.setTop (mkF m 28 #[.val (.long ad), .second, .val (.long aq), .second, .val (.long bdr), .second, .val (.long bsr), .second, .val (.int sel), .val (.long bd), .second, .val (.long bq), .second, .unset, .unset, .unset, .unset, .unset] [(.long aq), (.long ad)])) _
    refine XS.lload X2.here hx rfl (hb hby at_28) rfl ?_
    show Steps p.tables e below (T2.setTop (mkF m 30 #[.val (.long ad), .second, .val (.long aq), .second, .val (.long bdr), .second, .val (.long bsr), .second, .val (.int sel), .val (.long bd), .second, .val (.long bq), .second, .unset, .unset, .unset, .unset, .unset] [(.long bd), (.long aq), (.long ad)])) _
    refine XS.lload X2.here hx rfl (hb hby at_30) rfl ?_
    show Steps p.tables e below (T2.setTop (mkF m 32 #[.val (.long ad), .second, .val (.long aq), .second, .val (.long bdr), .second, .val (.long bsr), .second, .val (.int sel), .val (.long bd), .second, .val (.long bq), .second, .unset, .unset, .unset, .unset, .unset] [(.long bq), (.long bd), (.long aq), (.long ad)])) _
    refine st3 _ ?_
    show Steps p.tables e below (T3.setTop (mkF m 35 #[.val (.long ad), .second, .val (.long aq), .second, .val (.long bdr), .second, .val (.long bsr), .second, .val (.int sel), .val (.long bd), .second, .val (.long bq), .second, .unset, .unset, .unset, .unset, .unset] [(.int (nar .boolean (own_pr ad aq bd bq)))])) _
    rw [← hab]
    show Steps p.tables e below (T3.setTop (mkF m 35 #[.val (.long ad), .second, .val (.long aq), .second, .val (.long bdr), .second, .val (.long bsr), .second, .val (.int sel), .val (.long bd), .second, .val (.long bq), .second, .unset, .unset, .unset, .unset, .unset] [(.int vab)])) _
    refine XS.istore X3.here hx rfl (hb hby at_35) rfl (l' := #[.val (.long ad), .second, .val (.long aq), .second, .val (.long bdr), .second, .val (.long bsr), .second, .val (.int sel), .val (.long bd), .second, .val (.long bq), .second, .val (.int vab), .unset, .unset, .unset, .unset]) rfl ?_
    show Steps p.tables e below (T3.setTop (mkF m 37 #[.val (.long ad), .second, .val (.long aq), .second, .val (.long bdr), .second, .val (.long bsr), .second, .val (.int sel), .val (.long bd), .second, .val (.long bq), .second, .val (.int vab), .unset, .unset, .unset, .unset] [])) _
    refine XS.lload X3.here hx rfl (hb hby at_37) rfl ?_
    show Steps p.tables e below (T3.setTop (mkF m 39 #[.val (.long ad), .second, .val (.long aq), .second, .val (.long bdr), .second, .val (.long bsr), .second, .val (.int sel), .val (.long bd), .second, .val (.long bq), .second, .val (.int vab), .unset, .unset, .unset, .unset] [(.long bd)])) _
    refine XS.lload X3.here hx rfl (hb hby at_39) rfl ?_
    show Steps p.tables e below (T3.setTop (mkF m 41 #[.val (.long ad), .second, .val (.long aq), .second, .val (.long bdr), .second, .val (.long bsr), .second, .val (.int sel), .val (.long bd), .second, .val (.long bq), .second, .val (.int vab), .unset, .unset, .unset, .unset] [(.long bq), (.long bd)])) _
    refine XS.lloadN X3.here hx rfl (hb hby at_41) rfl ?_
    show Steps p.tables e below (T3.setTop (mkF m 42 #[.val (.long ad), .second, .val (.long aq), .second, .val (.long bdr), .second, .val (.long bsr), .second, .val (.int sel), .val (.long bd), .second, .val (.long bq), .second, .val (.int vab), .unset, .unset, .unset, .unset] [(.long ad), (.long bq), (.long bd)])) _
    refine XS.lloadN X3.here hx rfl (hb hby at_42) rfl ?_
    show Steps p.tables e below (T3.setTop (mkF m 43 #[.val (.long ad), .second, .val (.long aq), .second, .val (.long bdr), .second, .val (.long bsr), .second, .val (.int sel), .val (.long bd), .second, .val (.long bq), .second, .val (.int vab), .unset, .unset, .unset, .unset] [(.long aq), (.long ad), (.long bq), (.long bd)])) _
    refine st4 _ ?_
    show Steps p.tables e below (T4.setTop (mkF m 46 #[.val (.long ad), .second, .val (.long aq), .second, .val (.long bdr), .second, .val (.long bsr), .second, .val (.int sel), .val (.long bd), .second, .val (.long bq), .second, .val (.int vab), .unset, .unset, .unset, .unset] [(.int (nar .boolean (own_pr bd bq ad aq)))])) _
    rw [← hba]
    show Steps p.tables e below (T4.setTop (mkF m 46 #[.val (.long ad), .second, .val (.long aq), .second, .val (.long bdr), .second, .val (.long bsr), .second, .val (.int sel), .val (.long bd), .second, .val (.long bq), .second, .val (.int vab), .unset, .unset, .unset, .unset] [(.int vba)])) _
    refine XS.istore X4.here hx rfl (hb hby at_46) rfl (l' := #[.val (.long ad), .second, .val (.long aq), .second, .val (.long bdr), .second, .val (.long bsr), .second, .val (.int sel), .val (.long bd), .second, .val (.long bq), .second, .val (.int vab), .val (.int vba), .unset, .unset, .unset]) rfl ?_
    show Steps p.tables e below (T4.setTop (mkF m 48 #[.val (.long ad), .second, .val (.long aq), .second, .val (.long bdr), .second, .val (.long bsr), .second, .val (.int sel), .val (.long bd), .second, .val (.long bq), .second, .val (.int vab), .val (.int vba), .unset, .unset, .unset] [])) _
    refine XS.lloadN X4.here hx rfl (hb hby at_48) rfl ?_
    show Steps p.tables e below (T4.setTop (mkF m 49 #[.val (.long ad), .second, .val (.long aq), .second, .val (.long bdr), .second, .val (.long bsr), .second, .val (.int sel), .val (.long bd), .second, .val (.long bq), .second, .val (.int vab), .val (.int vba), .unset, .unset, .unset] [(.long ad)])) _
    refine XS.lloadN X4.here hx rfl (hb hby at_49) rfl ?_
    show Steps p.tables e below (T4.setTop (mkF m 50 #[.val (.long ad), .second, .val (.long aq), .second, .val (.long bdr), .second, .val (.long bsr), .second, .val (.int sel), .val (.long bd), .second, .val (.long bq), .second, .val (.int vab), .val (.int vba), .unset, .unset, .unset] [(.long aq), (.long ad)])) _
    refine XS.lloadN X4.here hx rfl (hb hby at_50) rfl ?_
    show Steps p.tables e below (T4.setTop (mkF m 51 #[.val (.long ad), .second, .val (.long aq), .second, .val (.long bdr), .second, .val (.long bsr), .second, .val (.int sel), .val (.long bd), .second, .val (.long bq), .second, .val (.int vab), .val (.int vba), .unset, .unset, .unset] [(.long ad), (.long aq), (.long ad)])) _
    refine XS.lloadN X4.here hx rfl (hb hby at_51) rfl ?_
    show Steps p.tables e below (T4.setTop (mkF m 52 #[.val (.long ad), .second, .val (.long aq), .second, .val (.long bdr), .second, .val (.long bsr), .second, .val (.int sel), .val (.long bd), .second, .val (.long bq), .second, .val (.int vab), .val (.int vba), .unset, .unset, .unset] [(.long aq), (.long ad), (.long aq), (.long ad)])) _
    refine st5 _ ?_
    show Steps p.tables e below (T5.setTop (mkF m 55 #[.val (.long ad), .second, .val (.long aq), .second, .val (.long bdr), .second, .val (.long bsr), .second, .val (.int sel), .val (.long bd), .second, .val (.long bq), .second, .val (.int vab), .val (.int vba), .unset, .unset, .unset] [(.int (nar .boolean (own_pr ad aq ad aq)))])) _
    rw [show (nar .boolean (own_pr ad aq ad aq)) = (0 : Int32) from own_no (own_eq1 rfl) (fun _ => own_eq1 rfl)]
    show Steps p.tables e below (T5.setTop (mkF m 55 #[.val (.long ad), .second, .val (.long aq), .second, .val (.long bdr), .second, .val (.long bsr), .second, .val (.int sel), .val (.long bd), .second, .val (.long bq), .second, .val (.int vab), .val (.int vba), .unset, .unset, .unset] [(.int (0 : Int32))])) _
    refine XS.istore X5.here hx rfl (hb hby at_55) rfl (l' := #[.val (.long ad), .second, .val (.long aq), .second, .val (.long bdr), .second, .val (.long bsr), .second, .val (.int sel), .val (.long bd), .second, .val (.long bq), .second, .val (.int vab), .val (.int vba), .val (.int (0 : Int32)), .unset, .unset]) rfl ?_
    show Steps p.tables e below (T5.setTop (mkF m 57 #[.val (.long ad), .second, .val (.long aq), .second, .val (.long bdr), .second, .val (.long bsr), .second, .val (.int sel), .val (.long bd), .second, .val (.long bq), .second, .val (.int vab), .val (.int vba), .val (.int (0 : Int32)), .unset, .unset] [])) _
    by_cases hd : ad = bd
    · by_cases hs : aq = bq
      · have ra : vab = (0 : Int32) := hab.trans (own_no (own_eq1 hd) (fun _ => own_eq1 hs))
        have rb : vba = (0 : Int32) := hba.trans (own_no (own_eq2 hd) (fun _ => own_eq2 hs))
        subst ra rb
        show Steps p.tables e below (T5.setTop (mkF m 57 #[.val (.long ad), .second, .val (.long aq), .second, .val (.long bdr), .second, .val (.long bsr), .second, .val (.int sel), .val (.long bd), .second, .val (.long bq), .second, .val (.int (0 : Int32)), .val (.int (0 : Int32)), .val (.int (0 : Int32)), .unset, .unset] [])) _
        refine XS.lloadN X5.here hx rfl (hb hby at_57) rfl ?_
        show Steps p.tables e below (T5.setTop (mkF m 58 #[.val (.long ad), .second, .val (.long aq), .second, .val (.long bdr), .second, .val (.long bsr), .second, .val (.int sel), .val (.long bd), .second, .val (.long bq), .second, .val (.int (0 : Int32)), .val (.int (0 : Int32)), .val (.int (0 : Int32)), .unset, .unset] [(.long ad)])) _
        refine XS.lload X5.here hx rfl (hb hby at_58) rfl ?_
        show Steps p.tables e below (T5.setTop (mkF m 60 #[.val (.long ad), .second, .val (.long aq), .second, .val (.long bdr), .second, .val (.long bsr), .second, .val (.int sel), .val (.long bd), .second, .val (.long bq), .second, .val (.int (0 : Int32)), .val (.int (0 : Int32)), .val (.int (0 : Int32)), .unset, .unset] [(.long bd), (.long ad)])) _
        refine XS.lcmp X5.here hx rfl (hb hby at_60) rfl ?_
        show Steps p.tables e below (T5.setTop (mkF m 61 #[.val (.long ad), .second, .val (.long aq), .second, .val (.long bdr), .second, .val (.long bsr), .second, .val (.int sel), .val (.long bd), .second, .val (.long bq), .second, .val (.int (0 : Int32)), .val (.int (0 : Int32)), .val (.int (0 : Int32)), .unset, .unset] [(.int (lcmpW ad bd))])) _
        refine XS.ifNo X5.here hx rfl (hb hby at_61) rfl ((if0 _ _).trans (teq ((lw_eq _ _).mpr hd)).2) ?_
        show Steps p.tables e below (T5.setTop (mkF m 64 #[.val (.long ad), .second, .val (.long aq), .second, .val (.long bdr), .second, .val (.long bsr), .second, .val (.int sel), .val (.long bd), .second, .val (.long bq), .second, .val (.int (0 : Int32)), .val (.int (0 : Int32)), .val (.int (0 : Int32)), .unset, .unset] [])) _
        refine XS.lloadN X5.here hx rfl (hb hby at_64) rfl ?_
        show Steps p.tables e below (T5.setTop (mkF m 65 #[.val (.long ad), .second, .val (.long aq), .second, .val (.long bdr), .second, .val (.long bsr), .second, .val (.int sel), .val (.long bd), .second, .val (.long bq), .second, .val (.int (0 : Int32)), .val (.int (0 : Int32)), .val (.int (0 : Int32)), .unset, .unset] [(.long aq)])) _
        refine XS.lload X5.here hx rfl (hb hby at_65) rfl ?_
        show Steps p.tables e below (T5.setTop (mkF m 67 #[.val (.long ad), .second, .val (.long aq), .second, .val (.long bdr), .second, .val (.long bsr), .second, .val (.int sel), .val (.long bd), .second, .val (.long bq), .second, .val (.int (0 : Int32)), .val (.int (0 : Int32)), .val (.int (0 : Int32)), .unset, .unset] [(.long bq), (.long aq)])) _
        refine XS.lcmp X5.here hx rfl (hb hby at_67) rfl ?_
        show Steps p.tables e below (T5.setTop (mkF m 68 #[.val (.long ad), .second, .val (.long aq), .second, .val (.long bdr), .second, .val (.long bsr), .second, .val (.int sel), .val (.long bd), .second, .val (.long bq), .second, .val (.int (0 : Int32)), .val (.int (0 : Int32)), .val (.int (0 : Int32)), .unset, .unset] [(.int (lcmpW aq bq))])) _
        refine XS.ifNo X5.here hx rfl (hb hby at_68) rfl ((if0 _ _).trans (teq ((lw_eq _ _).mpr hs)).2) ?_
        show Steps p.tables e below (T5.setTop (mkF m 71 #[.val (.long ad), .second, .val (.long aq), .second, .val (.long bdr), .second, .val (.long bsr), .second, .val (.int sel), .val (.long bd), .second, .val (.long bq), .second, .val (.int (0 : Int32)), .val (.int (0 : Int32)), .val (.int (0 : Int32)), .unset, .unset] [])) _
        refine XS.iconst X5.here hx rfl (hb hby at_71) ?_
        show Steps p.tables e below (T5.setTop (mkF m 72 #[.val (.long ad), .second, .val (.long aq), .second, .val (.long bdr), .second, .val (.long bsr), .second, .val (.int sel), .val (.long bd), .second, .val (.long bq), .second, .val (.int (0 : Int32)), .val (.int (0 : Int32)), .val (.int (0 : Int32)), .unset, .unset] [(.int (1 : Int32))])) _
        refine XS.goto X5.here hx rfl (pc0 := 72) (pc' := 76) rfl (hb hby at_72) (by decide) (by decide) ?_
        show Steps p.tables e below (T5.setTop (mkF m 76 #[.val (.long ad), .second, .val (.long aq), .second, .val (.long bdr), .second, .val (.long bsr), .second, .val (.int sel), .val (.long bd), .second, .val (.long bq), .second, .val (.int (0 : Int32)), .val (.int (0 : Int32)), .val (.int (0 : Int32)), .unset, .unset] [(.int (1 : Int32))])) _
        refine XS.istore X5.here hx rfl (hb hby at_76) rfl (l' := #[.val (.long ad), .second, .val (.long aq), .second, .val (.long bdr), .second, .val (.long bsr), .second, .val (.int sel), .val (.long bd), .second, .val (.long bq), .second, .val (.int (0 : Int32)), .val (.int (0 : Int32)), .val (.int (0 : Int32)), .val (.int (1 : Int32)), .unset]) rfl ?_
        show Steps p.tables e below (T5.setTop (mkF m 78 #[.val (.long ad), .second, .val (.long aq), .second, .val (.long bdr), .second, .val (.long bsr), .second, .val (.int sel), .val (.long bd), .second, .val (.long bq), .second, .val (.int (0 : Int32)), .val (.int (0 : Int32)), .val (.int (0 : Int32)), .val (.int (1 : Int32)), .unset] [])) _
        refine XS.iload X5.here hx rfl (hb hby at_78) rfl ?_
        show Steps p.tables e below (T5.setTop (mkF m 80 #[.val (.long ad), .second, .val (.long aq), .second, .val (.long bdr), .second, .val (.long bsr), .second, .val (.int sel), .val (.long bd), .second, .val (.long bq), .second, .val (.int (0 : Int32)), .val (.int (0 : Int32)), .val (.int (0 : Int32)), .val (.int (1 : Int32)), .unset] [(.int (0 : Int32))])) _
        refine XS.ifNo X5.here hx rfl (hb hby at_80) rfl ((if0 _ _).trans (teq (by decide : (0 : Int32) = (0 : Int32))).2) ?_
        show Steps p.tables e below (T5.setTop (mkF m 83 #[.val (.long ad), .second, .val (.long aq), .second, .val (.long bdr), .second, .val (.long bsr), .second, .val (.int sel), .val (.long bd), .second, .val (.long bq), .second, .val (.int (0 : Int32)), .val (.int (0 : Int32)), .val (.int (0 : Int32)), .val (.int (1 : Int32)), .unset] [])) _
        refine XS.iconst X5.here hx rfl (hb hby at_83) ?_
        show Steps p.tables e below (T5.setTop (mkF m 84 #[.val (.long ad), .second, .val (.long aq), .second, .val (.long bdr), .second, .val (.long bsr), .second, .val (.int sel), .val (.long bd), .second, .val (.long bq), .second, .val (.int (0 : Int32)), .val (.int (0 : Int32)), .val (.int (0 : Int32)), .val (.int (1 : Int32)), .unset] [(.int (1 : Int32))])) _
        refine XS.goto X5.here hx rfl (pc0 := 84) (pc' := 88) rfl (hb hby at_84) (by decide) (by decide) ?_
        show Steps p.tables e below (T5.setTop (mkF m 88 #[.val (.long ad), .second, .val (.long aq), .second, .val (.long bdr), .second, .val (.long bsr), .second, .val (.int sel), .val (.long bd), .second, .val (.long bq), .second, .val (.int (0 : Int32)), .val (.int (0 : Int32)), .val (.int (0 : Int32)), .val (.int (1 : Int32)), .unset] [(.int (1 : Int32))])) _
        refine XS.istore X5.here hx rfl (hb hby at_88) rfl (l' := #[.val (.long ad), .second, .val (.long aq), .second, .val (.long bdr), .second, .val (.long bsr), .second, .val (.int sel), .val (.long bd), .second, .val (.long bq), .second, .val (.int (0 : Int32)), .val (.int (0 : Int32)), .val (.int (0 : Int32)), .val (.int (1 : Int32)), .val (.int (1 : Int32))]) rfl ?_
        show Steps p.tables e below (T5.setTop (mkF m 90 #[.val (.long ad), .second, .val (.long aq), .second, .val (.long bdr), .second, .val (.long bsr), .second, .val (.int sel), .val (.long bd), .second, .val (.long bq), .second, .val (.int (0 : Int32)), .val (.int (0 : Int32)), .val (.int (0 : Int32)), .val (.int (1 : Int32)), .val (.int (1 : Int32))] [])) _
        refine XS.iload X5.here hx rfl (hb hby at_90) rfl ?_
        show Steps p.tables e below (T5.setTop (mkF m 92 #[.val (.long ad), .second, .val (.long aq), .second, .val (.long bdr), .second, .val (.long bsr), .second, .val (.int sel), .val (.long bd), .second, .val (.long bq), .second, .val (.int (0 : Int32)), .val (.int (0 : Int32)), .val (.int (0 : Int32)), .val (.int (1 : Int32)), .val (.int (1 : Int32))] [(.int (1 : Int32))])) _
        refine XS.ifNo X5.here hx rfl (hb hby at_92) rfl ((if0 _ _).trans (feq (by decide : ¬ ((1 : Int32) = (0 : Int32)))).1) ?_
        show Steps p.tables e below (T5.setTop (mkF m 95 #[.val (.long ad), .second, .val (.long aq), .second, .val (.long bdr), .second, .val (.long bsr), .second, .val (.int sel), .val (.long bd), .second, .val (.long bq), .second, .val (.int (0 : Int32)), .val (.int (0 : Int32)), .val (.int (0 : Int32)), .val (.int (1 : Int32)), .val (.int (1 : Int32))] [])) _
        refine XS.iload X5.here hx rfl (hb hby at_95) rfl ?_
        show Steps p.tables e below (T5.setTop (mkF m 97 #[.val (.long ad), .second, .val (.long aq), .second, .val (.long bdr), .second, .val (.long bsr), .second, .val (.int sel), .val (.long bd), .second, .val (.long bq), .second, .val (.int (0 : Int32)), .val (.int (0 : Int32)), .val (.int (0 : Int32)), .val (.int (1 : Int32)), .val (.int (1 : Int32))] [(.int (1 : Int32))])) _
        refine XS.ifNo X5.here hx rfl (hb hby at_97) rfl ((if0 _ _).trans (feq (by decide : ¬ ((1 : Int32) = (0 : Int32)))).1) ?_
        show Steps p.tables e below (T5.setTop (mkF m 100 #[.val (.long ad), .second, .val (.long aq), .second, .val (.long bdr), .second, .val (.long bsr), .second, .val (.int sel), .val (.long bd), .second, .val (.long bq), .second, .val (.int (0 : Int32)), .val (.int (0 : Int32)), .val (.int (0 : Int32)), .val (.int (1 : Int32)), .val (.int (1 : Int32))] [])) _
        refine XS.iload X5.here hx rfl (hb hby at_100) rfl ?_
        show Steps p.tables e below (T5.setTop (mkF m 102 #[.val (.long ad), .second, .val (.long aq), .second, .val (.long bdr), .second, .val (.long bsr), .second, .val (.int sel), .val (.long bd), .second, .val (.long bq), .second, .val (.int (0 : Int32)), .val (.int (0 : Int32)), .val (.int (0 : Int32)), .val (.int (1 : Int32)), .val (.int (1 : Int32))] [(.int (0 : Int32))])) _
        refine XS.ifNo X5.here hx rfl (hb hby at_102) rfl ((if0 _ _).trans (teq (by decide : (0 : Int32) = (0 : Int32))).2) ?_
        show Steps p.tables e below (T5.setTop (mkF m 105 #[.val (.long ad), .second, .val (.long aq), .second, .val (.long bdr), .second, .val (.long bsr), .second, .val (.int sel), .val (.long bd), .second, .val (.long bq), .second, .val (.int (0 : Int32)), .val (.int (0 : Int32)), .val (.int (0 : Int32)), .val (.int (1 : Int32)), .val (.int (1 : Int32))] [])) _
        refine XS.iload X5.here hx rfl (hb hby at_105) rfl ?_
        show Steps p.tables e below (T5.setTop (mkF m 107 #[.val (.long ad), .second, .val (.long aq), .second, .val (.long bdr), .second, .val (.long bsr), .second, .val (.int sel), .val (.long bd), .second, .val (.long bq), .second, .val (.int (0 : Int32)), .val (.int (0 : Int32)), .val (.int (0 : Int32)), .val (.int (1 : Int32)), .val (.int (1 : Int32))] [(.int (0 : Int32))])) _
        refine XS.ifNo X5.here hx rfl (hb hby at_107) rfl ((if0 _ _).trans (teq (by decide : (0 : Int32) = (0 : Int32))).2) ?_
        show Steps p.tables e below (T5.setTop (mkF m 110 #[.val (.long ad), .second, .val (.long aq), .second, .val (.long bdr), .second, .val (.long bsr), .second, .val (.int sel), .val (.long bd), .second, .val (.long bq), .second, .val (.int (0 : Int32)), .val (.int (0 : Int32)), .val (.int (0 : Int32)), .val (.int (1 : Int32)), .val (.int (1 : Int32))] [])) _
        refine XS.iconst X5.here hx rfl (hb hby at_110) ?_
        show Steps p.tables e below (T5.setTop (mkF m 111 #[.val (.long ad), .second, .val (.long aq), .second, .val (.long bdr), .second, .val (.long bsr), .second, .val (.int sel), .val (.long bd), .second, .val (.long bq), .second, .val (.int (0 : Int32)), .val (.int (0 : Int32)), .val (.int (0 : Int32)), .val (.int (1 : Int32)), .val (.int (1 : Int32))] [(.int (1 : Int32))])) _
        refine XS.goto X5.here hx rfl (pc0 := 111) (pc' := 115) rfl (hb hby at_111) (by decide) (by decide) ?_
        show Steps p.tables e below (T5.setTop (mkF m 115 #[.val (.long ad), .second, .val (.long aq), .second, .val (.long bdr), .second, .val (.long bsr), .second, .val (.int sel), .val (.long bd), .second, .val (.long bq), .second, .val (.int (0 : Int32)), .val (.int (0 : Int32)), .val (.int (0 : Int32)), .val (.int (1 : Int32)), .val (.int (1 : Int32))] [(.int (1 : Int32))])) _
        refine XS.istore X5.here hx rfl (hb hby at_115) rfl (l' := #[.val (.long ad), .second, .val (.long aq), .second, .val (.long bdr), .second, .val (.long bsr), .second, .val (.int sel), .val (.long bd), .second, .val (.long bq), .second, .val (.int (0 : Int32)), .val (.int (0 : Int32)), .val (.int (0 : Int32)), .val (.int (1 : Int32)), .val (.int (1 : Int32))]) rfl ?_
        show Steps p.tables e below (T5.setTop (mkF m 117 #[.val (.long ad), .second, .val (.long aq), .second, .val (.long bdr), .second, .val (.long bsr), .second, .val (.int sel), .val (.long bd), .second, .val (.long bq), .second, .val (.int (0 : Int32)), .val (.int (0 : Int32)), .val (.int (0 : Int32)), .val (.int (1 : Int32)), .val (.int (1 : Int32))] [])) _
        refine XS.goto X5.here hx rfl (pc0 := 117) (pc' := 139) rfl (hb hby at_117) (by decide) (by decide) ?_
        show Steps p.tables e below (T5.setTop (mkF m 139 #[.val (.long ad), .second, .val (.long aq), .second, .val (.long bdr), .second, .val (.long bsr), .second, .val (.int sel), .val (.long bd), .second, .val (.long bq), .second, .val (.int (0 : Int32)), .val (.int (0 : Int32)), .val (.int (0 : Int32)), .val (.int (1 : Int32)), .val (.int (1 : Int32))] [])) _
        refine XS.lloadN X5.here hx rfl (hb hby at_139) rfl ?_
        show Steps p.tables e below (T5.setTop (mkF m 140 #[.val (.long ad), .second, .val (.long aq), .second, .val (.long bdr), .second, .val (.long bsr), .second, .val (.int sel), .val (.long bd), .second, .val (.long bq), .second, .val (.int (0 : Int32)), .val (.int (0 : Int32)), .val (.int (0 : Int32)), .val (.int (1 : Int32)), .val (.int (1 : Int32))] [(.long ad)])) _
        refine XS.lload X5.here hx rfl (hb hby at_140) rfl ?_
        show Steps p.tables e below (T5.setTop (mkF m 142 #[.val (.long ad), .second, .val (.long aq), .second, .val (.long bdr), .second, .val (.long bsr), .second, .val (.int sel), .val (.long bd), .second, .val (.long bq), .second, .val (.int (0 : Int32)), .val (.int (0 : Int32)), .val (.int (0 : Int32)), .val (.int (1 : Int32)), .val (.int (1 : Int32))] [(.long bd), (.long ad)])) _
        refine XS.lcmp X5.here hx rfl (hb hby at_142) rfl ?_
        show Steps p.tables e below (T5.setTop (mkF m 143 #[.val (.long ad), .second, .val (.long aq), .second, .val (.long bdr), .second, .val (.long bsr), .second, .val (.int sel), .val (.long bd), .second, .val (.long bq), .second, .val (.int (0 : Int32)), .val (.int (0 : Int32)), .val (.int (0 : Int32)), .val (.int (1 : Int32)), .val (.int (1 : Int32))] [(.int (lcmpW ad bd))])) _
        refine XS.ifYes X5.here hx rfl (pc0 := 143) (pc' := 163) rfl (hb hby at_143) rfl ((if0 _ _).trans (flt (fun q => (own_eq1 hd) ((lw_lt _ _).mp q))).2.1) (by decide) (by decide) ?_
        show Steps p.tables e below (T5.setTop (mkF m 163 #[.val (.long ad), .second, .val (.long aq), .second, .val (.long bdr), .second, .val (.long bsr), .second, .val (.int sel), .val (.long bd), .second, .val (.long bq), .second, .val (.int (0 : Int32)), .val (.int (0 : Int32)), .val (.int (0 : Int32)), .val (.int (1 : Int32)), .val (.int (1 : Int32))] [])) _
        refine XS.lloadN X5.here hx rfl (hb hby at_163) rfl ?_
        show Steps p.tables e below (T5.setTop (mkF m 164 #[.val (.long ad), .second, .val (.long aq), .second, .val (.long bdr), .second, .val (.long bsr), .second, .val (.int sel), .val (.long bd), .second, .val (.long bq), .second, .val (.int (0 : Int32)), .val (.int (0 : Int32)), .val (.int (0 : Int32)), .val (.int (1 : Int32)), .val (.int (1 : Int32))] [(.long ad)])) _
        refine XS.lload X5.here hx rfl (hb hby at_164) rfl ?_
        show Steps p.tables e below (T5.setTop (mkF m 166 #[.val (.long ad), .second, .val (.long aq), .second, .val (.long bdr), .second, .val (.long bsr), .second, .val (.int sel), .val (.long bd), .second, .val (.long bq), .second, .val (.int (0 : Int32)), .val (.int (0 : Int32)), .val (.int (0 : Int32)), .val (.int (1 : Int32)), .val (.int (1 : Int32))] [(.long bd), (.long ad)])) _
        refine XS.lcmp X5.here hx rfl (hb hby at_166) rfl ?_
        show Steps p.tables e below (T5.setTop (mkF m 167 #[.val (.long ad), .second, .val (.long aq), .second, .val (.long bdr), .second, .val (.long bsr), .second, .val (.int sel), .val (.long bd), .second, .val (.long bq), .second, .val (.int (0 : Int32)), .val (.int (0 : Int32)), .val (.int (0 : Int32)), .val (.int (1 : Int32)), .val (.int (1 : Int32))] [(.int (lcmpW ad bd))])) _
        refine XS.ifNo X5.here hx rfl (hb hby at_167) rfl ((if0 _ _).trans (teq ((lw_eq _ _).mpr hd)).2) ?_
        show Steps p.tables e below (T5.setTop (mkF m 170 #[.val (.long ad), .second, .val (.long aq), .second, .val (.long bdr), .second, .val (.long bsr), .second, .val (.int sel), .val (.long bd), .second, .val (.long bq), .second, .val (.int (0 : Int32)), .val (.int (0 : Int32)), .val (.int (0 : Int32)), .val (.int (1 : Int32)), .val (.int (1 : Int32))] [])) _
        refine XS.iload X5.here hx rfl (hb hby at_170) rfl ?_
        show Steps p.tables e below (T5.setTop (mkF m 172 #[.val (.long ad), .second, .val (.long aq), .second, .val (.long bdr), .second, .val (.long bsr), .second, .val (.int sel), .val (.long bd), .second, .val (.long bq), .second, .val (.int (0 : Int32)), .val (.int (0 : Int32)), .val (.int (0 : Int32)), .val (.int (1 : Int32)), .val (.int (1 : Int32))] [(.int (1 : Int32))])) _
        refine XS.ifNo X5.here hx rfl (hb hby at_172) rfl ((if0 _ _).trans (feq (by decide : ¬ ((1 : Int32) = (0 : Int32)))).1) ?_
        show Steps p.tables e below (T5.setTop (mkF m 175 #[.val (.long ad), .second, .val (.long aq), .second, .val (.long bdr), .second, .val (.long bsr), .second, .val (.int sel), .val (.long bd), .second, .val (.long bq), .second, .val (.int (0 : Int32)), .val (.int (0 : Int32)), .val (.int (0 : Int32)), .val (.int (1 : Int32)), .val (.int (1 : Int32))] [])) _
        refine XS.iload X5.here hx rfl (hb hby at_175) rfl ?_
        show Steps p.tables e below (T5.setTop (mkF m 177 #[.val (.long ad), .second, .val (.long aq), .second, .val (.long bdr), .second, .val (.long bsr), .second, .val (.int sel), .val (.long bd), .second, .val (.long bq), .second, .val (.int (0 : Int32)), .val (.int (0 : Int32)), .val (.int (0 : Int32)), .val (.int (1 : Int32)), .val (.int (1 : Int32))] [(.int (0 : Int32))])) _
        refine XS.lloadN X5.here hx rfl (hb hby at_177) rfl ?_
        show Steps p.tables e below (T5.setTop (mkF m 178 #[.val (.long ad), .second, .val (.long aq), .second, .val (.long bdr), .second, .val (.long bsr), .second, .val (.int sel), .val (.long bd), .second, .val (.long bq), .second, .val (.int (0 : Int32)), .val (.int (0 : Int32)), .val (.int (0 : Int32)), .val (.int (1 : Int32)), .val (.int (1 : Int32))] [(.long aq), (.int (0 : Int32))])) _
        refine XS.lload X5.here hx rfl (hb hby at_178) rfl ?_
        show Steps p.tables e below (T5.setTop (mkF m 180 #[.val (.long ad), .second, .val (.long aq), .second, .val (.long bdr), .second, .val (.long bsr), .second, .val (.int sel), .val (.long bd), .second, .val (.long bq), .second, .val (.int (0 : Int32)), .val (.int (0 : Int32)), .val (.int (0 : Int32)), .val (.int (1 : Int32)), .val (.int (1 : Int32))] [(.long bq), (.long aq), (.int (0 : Int32))])) _
        refine XS.lcmp X5.here hx rfl (hb hby at_180) rfl ?_
        show Steps p.tables e below (T5.setTop (mkF m 181 #[.val (.long ad), .second, .val (.long aq), .second, .val (.long bdr), .second, .val (.long bsr), .second, .val (.int sel), .val (.long bd), .second, .val (.long bq), .second, .val (.int (0 : Int32)), .val (.int (0 : Int32)), .val (.int (0 : Int32)), .val (.int (1 : Int32)), .val (.int (1 : Int32))] [(.int (lcmpW aq bq)), (.int (0 : Int32))])) _
        refine XS.ifYes X5.here hx rfl (pc0 := 181) (pc' := 188) rfl (hb hby at_181) rfl ((if0 _ _).trans (flt (fun q => (own_eq1 hs) ((lw_lt _ _).mp q))).2.1) (by decide) (by decide) ?_
        show Steps p.tables e below (T5.setTop (mkF m 188 #[.val (.long ad), .second, .val (.long aq), .second, .val (.long bdr), .second, .val (.long bsr), .second, .val (.int sel), .val (.long bd), .second, .val (.long bq), .second, .val (.int (0 : Int32)), .val (.int (0 : Int32)), .val (.int (0 : Int32)), .val (.int (1 : Int32)), .val (.int (1 : Int32))] [(.int (0 : Int32))])) _
        refine XS.iconst X5.here hx rfl (hb hby at_188) ?_
        show Steps p.tables e below (T5.setTop (mkF m 189 #[.val (.long ad), .second, .val (.long aq), .second, .val (.long bdr), .second, .val (.long bsr), .second, .val (.int sel), .val (.long bd), .second, .val (.long bq), .second, .val (.int (0 : Int32)), .val (.int (0 : Int32)), .val (.int (0 : Int32)), .val (.int (1 : Int32)), .val (.int (1 : Int32))] [(.int (0 : Int32)), (.int (0 : Int32))])) _
        refine XS.icmpNo X5.here hx rfl (hb hby at_189) rfl (teq (by decide : (0 : Int32) = (0 : Int32))).2 ?_
        show Steps p.tables e below (T5.setTop (mkF m 192 #[.val (.long ad), .second, .val (.long aq), .second, .val (.long bdr), .second, .val (.long bsr), .second, .val (.int sel), .val (.long bd), .second, .val (.long bq), .second, .val (.int (0 : Int32)), .val (.int (0 : Int32)), .val (.int (0 : Int32)), .val (.int (1 : Int32)), .val (.int (1 : Int32))] [])) _
        refine XS.iconst X5.here hx rfl (hb hby at_192) ?_
        show Steps p.tables e below (T5.setTop (mkF m 193 #[.val (.long ad), .second, .val (.long aq), .second, .val (.long bdr), .second, .val (.long bsr), .second, .val (.int sel), .val (.long bd), .second, .val (.long bq), .second, .val (.int (0 : Int32)), .val (.int (0 : Int32)), .val (.int (0 : Int32)), .val (.int (1 : Int32)), .val (.int (1 : Int32))] [(.int (1 : Int32))])) _
        refine XS.goto X5.here hx rfl (pc0 := 193) (pc' := 197) rfl (hb hby at_193) (by decide) (by decide) ?_
        show Steps p.tables e below (T5.setTop (mkF m 197 #[.val (.long ad), .second, .val (.long aq), .second, .val (.long bdr), .second, .val (.long bsr), .second, .val (.int sel), .val (.long bd), .second, .val (.long bq), .second, .val (.int (0 : Int32)), .val (.int (0 : Int32)), .val (.int (0 : Int32)), .val (.int (1 : Int32)), .val (.int (1 : Int32))] [(.int (1 : Int32))])) _
        refine XS.istore X5.here hx rfl (hb hby at_197) rfl (l' := #[.val (.long ad), .second, .val (.long aq), .second, .val (.long bdr), .second, .val (.long bsr), .second, .val (.int sel), .val (.long bd), .second, .val (.long bq), .second, .val (.int (0 : Int32)), .val (.int (0 : Int32)), .val (.int (0 : Int32)), .val (.int (1 : Int32)), .val (.int (1 : Int32))]) rfl ?_
        show Steps p.tables e below (T5.setTop (mkF m 199 #[.val (.long ad), .second, .val (.long aq), .second, .val (.long bdr), .second, .val (.long bsr), .second, .val (.int sel), .val (.long bd), .second, .val (.long bq), .second, .val (.int (0 : Int32)), .val (.int (0 : Int32)), .val (.int (0 : Int32)), .val (.int (1 : Int32)), .val (.int (1 : Int32))] [])) _
        refine XS.iload X5.here hx rfl (hb hby at_199) rfl ?_
        show Steps p.tables e below (T5.setTop (mkF m 201 #[.val (.long ad), .second, .val (.long aq), .second, .val (.long bdr), .second, .val (.long bsr), .second, .val (.int sel), .val (.long bd), .second, .val (.long bq), .second, .val (.int (0 : Int32)), .val (.int (0 : Int32)), .val (.int (0 : Int32)), .val (.int (1 : Int32)), .val (.int (1 : Int32))] [(.int (1 : Int32))])) _
        exact retN X5 hx (t := .boolean) Bd.returns (by simp) (hb hby at_201) hr
      · by_cases hl : aq < bq
        · have ra : vab = (1 : Int32) := hab.trans (own_yes (Or.inr ⟨hd, hl⟩))
          have rb : vba = (0 : Int32) := hba.trans (own_no (own_eq2 hd) (fun _ => own_as hl))
          subst ra rb
          show Steps p.tables e below (T5.setTop (mkF m 57 #[.val (.long ad), .second, .val (.long aq), .second, .val (.long bdr), .second, .val (.long bsr), .second, .val (.int sel), .val (.long bd), .second, .val (.long bq), .second, .val (.int (1 : Int32)), .val (.int (0 : Int32)), .val (.int (0 : Int32)), .unset, .unset] [])) _
          refine XS.lloadN X5.here hx rfl (hb hby at_57) rfl ?_
          show Steps p.tables e below (T5.setTop (mkF m 58 #[.val (.long ad), .second, .val (.long aq), .second, .val (.long bdr), .second, .val (.long bsr), .second, .val (.int sel), .val (.long bd), .second, .val (.long bq), .second, .val (.int (1 : Int32)), .val (.int (0 : Int32)), .val (.int (0 : Int32)), .unset, .unset] [(.long ad)])) _
          refine XS.lload X5.here hx rfl (hb hby at_58) rfl ?_
          show Steps p.tables e below (T5.setTop (mkF m 60 #[.val (.long ad), .second, .val (.long aq), .second, .val (.long bdr), .second, .val (.long bsr), .second, .val (.int sel), .val (.long bd), .second, .val (.long bq), .second, .val (.int (1 : Int32)), .val (.int (0 : Int32)), .val (.int (0 : Int32)), .unset, .unset] [(.long bd), (.long ad)])) _
          refine XS.lcmp X5.here hx rfl (hb hby at_60) rfl ?_
          show Steps p.tables e below (T5.setTop (mkF m 61 #[.val (.long ad), .second, .val (.long aq), .second, .val (.long bdr), .second, .val (.long bsr), .second, .val (.int sel), .val (.long bd), .second, .val (.long bq), .second, .val (.int (1 : Int32)), .val (.int (0 : Int32)), .val (.int (0 : Int32)), .unset, .unset] [(.int (lcmpW ad bd))])) _
          refine XS.ifNo X5.here hx rfl (hb hby at_61) rfl ((if0 _ _).trans (teq ((lw_eq _ _).mpr hd)).2) ?_
          show Steps p.tables e below (T5.setTop (mkF m 64 #[.val (.long ad), .second, .val (.long aq), .second, .val (.long bdr), .second, .val (.long bsr), .second, .val (.int sel), .val (.long bd), .second, .val (.long bq), .second, .val (.int (1 : Int32)), .val (.int (0 : Int32)), .val (.int (0 : Int32)), .unset, .unset] [])) _
          refine XS.lloadN X5.here hx rfl (hb hby at_64) rfl ?_
          show Steps p.tables e below (T5.setTop (mkF m 65 #[.val (.long ad), .second, .val (.long aq), .second, .val (.long bdr), .second, .val (.long bsr), .second, .val (.int sel), .val (.long bd), .second, .val (.long bq), .second, .val (.int (1 : Int32)), .val (.int (0 : Int32)), .val (.int (0 : Int32)), .unset, .unset] [(.long aq)])) _
          refine XS.lload X5.here hx rfl (hb hby at_65) rfl ?_
          show Steps p.tables e below (T5.setTop (mkF m 67 #[.val (.long ad), .second, .val (.long aq), .second, .val (.long bdr), .second, .val (.long bsr), .second, .val (.int sel), .val (.long bd), .second, .val (.long bq), .second, .val (.int (1 : Int32)), .val (.int (0 : Int32)), .val (.int (0 : Int32)), .unset, .unset] [(.long bq), (.long aq)])) _
          refine XS.lcmp X5.here hx rfl (hb hby at_67) rfl ?_
          show Steps p.tables e below (T5.setTop (mkF m 68 #[.val (.long ad), .second, .val (.long aq), .second, .val (.long bdr), .second, .val (.long bsr), .second, .val (.int sel), .val (.long bd), .second, .val (.long bq), .second, .val (.int (1 : Int32)), .val (.int (0 : Int32)), .val (.int (0 : Int32)), .unset, .unset] [(.int (lcmpW aq bq))])) _
          refine XS.ifYes X5.here hx rfl (pc0 := 68) (pc' := 75) rfl (hb hby at_68) rfl ((if0 _ _).trans (feq (fun q => hs ((lw_eq _ _).mp q))).2) (by decide) (by decide) ?_
          show Steps p.tables e below (T5.setTop (mkF m 75 #[.val (.long ad), .second, .val (.long aq), .second, .val (.long bdr), .second, .val (.long bsr), .second, .val (.int sel), .val (.long bd), .second, .val (.long bq), .second, .val (.int (1 : Int32)), .val (.int (0 : Int32)), .val (.int (0 : Int32)), .unset, .unset] [])) _
          refine XS.iconst X5.here hx rfl (hb hby at_75) ?_
          show Steps p.tables e below (T5.setTop (mkF m 76 #[.val (.long ad), .second, .val (.long aq), .second, .val (.long bdr), .second, .val (.long bsr), .second, .val (.int sel), .val (.long bd), .second, .val (.long bq), .second, .val (.int (1 : Int32)), .val (.int (0 : Int32)), .val (.int (0 : Int32)), .unset, .unset] [(.int (0 : Int32))])) _
          refine XS.istore X5.here hx rfl (hb hby at_76) rfl (l' := #[.val (.long ad), .second, .val (.long aq), .second, .val (.long bdr), .second, .val (.long bsr), .second, .val (.int sel), .val (.long bd), .second, .val (.long bq), .second, .val (.int (1 : Int32)), .val (.int (0 : Int32)), .val (.int (0 : Int32)), .val (.int (0 : Int32)), .unset]) rfl ?_
          show Steps p.tables e below (T5.setTop (mkF m 78 #[.val (.long ad), .second, .val (.long aq), .second, .val (.long bdr), .second, .val (.long bsr), .second, .val (.int sel), .val (.long bd), .second, .val (.long bq), .second, .val (.int (1 : Int32)), .val (.int (0 : Int32)), .val (.int (0 : Int32)), .val (.int (0 : Int32)), .unset] [])) _
          refine XS.iload X5.here hx rfl (hb hby at_78) rfl ?_
          show Steps p.tables e below (T5.setTop (mkF m 80 #[.val (.long ad), .second, .val (.long aq), .second, .val (.long bdr), .second, .val (.long bsr), .second, .val (.int sel), .val (.long bd), .second, .val (.long bq), .second, .val (.int (1 : Int32)), .val (.int (0 : Int32)), .val (.int (0 : Int32)), .val (.int (0 : Int32)), .unset] [(.int (0 : Int32))])) _
          refine XS.ifNo X5.here hx rfl (hb hby at_80) rfl ((if0 _ _).trans (teq (by decide : (0 : Int32) = (0 : Int32))).2) ?_
          show Steps p.tables e below (T5.setTop (mkF m 83 #[.val (.long ad), .second, .val (.long aq), .second, .val (.long bdr), .second, .val (.long bsr), .second, .val (.int sel), .val (.long bd), .second, .val (.long bq), .second, .val (.int (1 : Int32)), .val (.int (0 : Int32)), .val (.int (0 : Int32)), .val (.int (0 : Int32)), .unset] [])) _
          refine XS.iconst X5.here hx rfl (hb hby at_83) ?_
          show Steps p.tables e below (T5.setTop (mkF m 84 #[.val (.long ad), .second, .val (.long aq), .second, .val (.long bdr), .second, .val (.long bsr), .second, .val (.int sel), .val (.long bd), .second, .val (.long bq), .second, .val (.int (1 : Int32)), .val (.int (0 : Int32)), .val (.int (0 : Int32)), .val (.int (0 : Int32)), .unset] [(.int (1 : Int32))])) _
          refine XS.goto X5.here hx rfl (pc0 := 84) (pc' := 88) rfl (hb hby at_84) (by decide) (by decide) ?_
          show Steps p.tables e below (T5.setTop (mkF m 88 #[.val (.long ad), .second, .val (.long aq), .second, .val (.long bdr), .second, .val (.long bsr), .second, .val (.int sel), .val (.long bd), .second, .val (.long bq), .second, .val (.int (1 : Int32)), .val (.int (0 : Int32)), .val (.int (0 : Int32)), .val (.int (0 : Int32)), .unset] [(.int (1 : Int32))])) _
          refine XS.istore X5.here hx rfl (hb hby at_88) rfl (l' := #[.val (.long ad), .second, .val (.long aq), .second, .val (.long bdr), .second, .val (.long bsr), .second, .val (.int sel), .val (.long bd), .second, .val (.long bq), .second, .val (.int (1 : Int32)), .val (.int (0 : Int32)), .val (.int (0 : Int32)), .val (.int (0 : Int32)), .val (.int (1 : Int32))]) rfl ?_
          show Steps p.tables e below (T5.setTop (mkF m 90 #[.val (.long ad), .second, .val (.long aq), .second, .val (.long bdr), .second, .val (.long bsr), .second, .val (.int sel), .val (.long bd), .second, .val (.long bq), .second, .val (.int (1 : Int32)), .val (.int (0 : Int32)), .val (.int (0 : Int32)), .val (.int (0 : Int32)), .val (.int (1 : Int32))] [])) _
          refine XS.iload X5.here hx rfl (hb hby at_90) rfl ?_
          show Steps p.tables e below (T5.setTop (mkF m 92 #[.val (.long ad), .second, .val (.long aq), .second, .val (.long bdr), .second, .val (.long bsr), .second, .val (.int sel), .val (.long bd), .second, .val (.long bq), .second, .val (.int (1 : Int32)), .val (.int (0 : Int32)), .val (.int (0 : Int32)), .val (.int (0 : Int32)), .val (.int (1 : Int32))] [(.int (0 : Int32))])) _
          refine XS.ifYes X5.here hx rfl (pc0 := 92) (pc' := 120) rfl (hb hby at_92) rfl ((if0 _ _).trans (teq (by decide : (0 : Int32) = (0 : Int32))).1) (by decide) (by decide) ?_
          show Steps p.tables e below (T5.setTop (mkF m 120 #[.val (.long ad), .second, .val (.long aq), .second, .val (.long bdr), .second, .val (.long bsr), .second, .val (.int sel), .val (.long bd), .second, .val (.long bq), .second, .val (.int (1 : Int32)), .val (.int (0 : Int32)), .val (.int (0 : Int32)), .val (.int (0 : Int32)), .val (.int (1 : Int32))] [])) _
          refine XS.iload X5.here hx rfl (hb hby at_120) rfl ?_
          show Steps p.tables e below (T5.setTop (mkF m 122 #[.val (.long ad), .second, .val (.long aq), .second, .val (.long bdr), .second, .val (.long bsr), .second, .val (.int sel), .val (.long bd), .second, .val (.long bq), .second, .val (.int (1 : Int32)), .val (.int (0 : Int32)), .val (.int (0 : Int32)), .val (.int (0 : Int32)), .val (.int (1 : Int32))] [(.int (1 : Int32))])) _
          refine XS.ifNo X5.here hx rfl (hb hby at_122) rfl ((if0 _ _).trans (feq (by decide : ¬ ((1 : Int32) = (0 : Int32)))).1) ?_
          show Steps p.tables e below (T5.setTop (mkF m 125 #[.val (.long ad), .second, .val (.long aq), .second, .val (.long bdr), .second, .val (.long bsr), .second, .val (.int sel), .val (.long bd), .second, .val (.long bq), .second, .val (.int (1 : Int32)), .val (.int (0 : Int32)), .val (.int (0 : Int32)), .val (.int (0 : Int32)), .val (.int (1 : Int32))] [])) _
          refine XS.iload X5.here hx rfl (hb hby at_125) rfl ?_
          show Steps p.tables e below (T5.setTop (mkF m 127 #[.val (.long ad), .second, .val (.long aq), .second, .val (.long bdr), .second, .val (.long bsr), .second, .val (.int sel), .val (.long bd), .second, .val (.long bq), .second, .val (.int (1 : Int32)), .val (.int (0 : Int32)), .val (.int (0 : Int32)), .val (.int (0 : Int32)), .val (.int (1 : Int32))] [(.int (1 : Int32))])) _
          refine XS.iload X5.here hx rfl (hb hby at_127) rfl ?_
          show Steps p.tables e below (T5.setTop (mkF m 129 #[.val (.long ad), .second, .val (.long aq), .second, .val (.long bdr), .second, .val (.long bsr), .second, .val (.int sel), .val (.long bd), .second, .val (.long bq), .second, .val (.int (1 : Int32)), .val (.int (0 : Int32)), .val (.int (0 : Int32)), .val (.int (0 : Int32)), .val (.int (1 : Int32))] [(.int (0 : Int32)), (.int (1 : Int32))])) _
          refine XS.icmpNo X5.here hx rfl (hb hby at_129) rfl (feq (by decide : ¬ ((1 : Int32) = (0 : Int32)))).1 ?_
          show Steps p.tables e below (T5.setTop (mkF m 132 #[.val (.long ad), .second, .val (.long aq), .second, .val (.long bdr), .second, .val (.long bsr), .second, .val (.int sel), .val (.long bd), .second, .val (.long bq), .second, .val (.int (1 : Int32)), .val (.int (0 : Int32)), .val (.int (0 : Int32)), .val (.int (0 : Int32)), .val (.int (1 : Int32))] [])) _
          refine XS.iconst X5.here hx rfl (hb hby at_132) ?_
          show Steps p.tables e below (T5.setTop (mkF m 133 #[.val (.long ad), .second, .val (.long aq), .second, .val (.long bdr), .second, .val (.long bsr), .second, .val (.int sel), .val (.long bd), .second, .val (.long bq), .second, .val (.int (1 : Int32)), .val (.int (0 : Int32)), .val (.int (0 : Int32)), .val (.int (0 : Int32)), .val (.int (1 : Int32))] [(.int (1 : Int32))])) _
          refine XS.goto X5.here hx rfl (pc0 := 133) (pc' := 137) rfl (hb hby at_133) (by decide) (by decide) ?_
          show Steps p.tables e below (T5.setTop (mkF m 137 #[.val (.long ad), .second, .val (.long aq), .second, .val (.long bdr), .second, .val (.long bsr), .second, .val (.int sel), .val (.long bd), .second, .val (.long bq), .second, .val (.int (1 : Int32)), .val (.int (0 : Int32)), .val (.int (0 : Int32)), .val (.int (0 : Int32)), .val (.int (1 : Int32))] [(.int (1 : Int32))])) _
          refine XS.istore X5.here hx rfl (hb hby at_137) rfl (l' := #[.val (.long ad), .second, .val (.long aq), .second, .val (.long bdr), .second, .val (.long bsr), .second, .val (.int sel), .val (.long bd), .second, .val (.long bq), .second, .val (.int (1 : Int32)), .val (.int (0 : Int32)), .val (.int (0 : Int32)), .val (.int (0 : Int32)), .val (.int (1 : Int32))]) rfl ?_
          show Steps p.tables e below (T5.setTop (mkF m 139 #[.val (.long ad), .second, .val (.long aq), .second, .val (.long bdr), .second, .val (.long bsr), .second, .val (.int sel), .val (.long bd), .second, .val (.long bq), .second, .val (.int (1 : Int32)), .val (.int (0 : Int32)), .val (.int (0 : Int32)), .val (.int (0 : Int32)), .val (.int (1 : Int32))] [])) _
          refine XS.lloadN X5.here hx rfl (hb hby at_139) rfl ?_
          show Steps p.tables e below (T5.setTop (mkF m 140 #[.val (.long ad), .second, .val (.long aq), .second, .val (.long bdr), .second, .val (.long bsr), .second, .val (.int sel), .val (.long bd), .second, .val (.long bq), .second, .val (.int (1 : Int32)), .val (.int (0 : Int32)), .val (.int (0 : Int32)), .val (.int (0 : Int32)), .val (.int (1 : Int32))] [(.long ad)])) _
          refine XS.lload X5.here hx rfl (hb hby at_140) rfl ?_
          show Steps p.tables e below (T5.setTop (mkF m 142 #[.val (.long ad), .second, .val (.long aq), .second, .val (.long bdr), .second, .val (.long bsr), .second, .val (.int sel), .val (.long bd), .second, .val (.long bq), .second, .val (.int (1 : Int32)), .val (.int (0 : Int32)), .val (.int (0 : Int32)), .val (.int (0 : Int32)), .val (.int (1 : Int32))] [(.long bd), (.long ad)])) _
          refine XS.lcmp X5.here hx rfl (hb hby at_142) rfl ?_
          show Steps p.tables e below (T5.setTop (mkF m 143 #[.val (.long ad), .second, .val (.long aq), .second, .val (.long bdr), .second, .val (.long bsr), .second, .val (.int sel), .val (.long bd), .second, .val (.long bq), .second, .val (.int (1 : Int32)), .val (.int (0 : Int32)), .val (.int (0 : Int32)), .val (.int (0 : Int32)), .val (.int (1 : Int32))] [(.int (lcmpW ad bd))])) _
          refine XS.ifYes X5.here hx rfl (pc0 := 143) (pc' := 163) rfl (hb hby at_143) rfl ((if0 _ _).trans (flt (fun q => (own_eq1 hd) ((lw_lt _ _).mp q))).2.1) (by decide) (by decide) ?_
          show Steps p.tables e below (T5.setTop (mkF m 163 #[.val (.long ad), .second, .val (.long aq), .second, .val (.long bdr), .second, .val (.long bsr), .second, .val (.int sel), .val (.long bd), .second, .val (.long bq), .second, .val (.int (1 : Int32)), .val (.int (0 : Int32)), .val (.int (0 : Int32)), .val (.int (0 : Int32)), .val (.int (1 : Int32))] [])) _
          refine XS.lloadN X5.here hx rfl (hb hby at_163) rfl ?_
          show Steps p.tables e below (T5.setTop (mkF m 164 #[.val (.long ad), .second, .val (.long aq), .second, .val (.long bdr), .second, .val (.long bsr), .second, .val (.int sel), .val (.long bd), .second, .val (.long bq), .second, .val (.int (1 : Int32)), .val (.int (0 : Int32)), .val (.int (0 : Int32)), .val (.int (0 : Int32)), .val (.int (1 : Int32))] [(.long ad)])) _
          refine XS.lload X5.here hx rfl (hb hby at_164) rfl ?_
          show Steps p.tables e below (T5.setTop (mkF m 166 #[.val (.long ad), .second, .val (.long aq), .second, .val (.long bdr), .second, .val (.long bsr), .second, .val (.int sel), .val (.long bd), .second, .val (.long bq), .second, .val (.int (1 : Int32)), .val (.int (0 : Int32)), .val (.int (0 : Int32)), .val (.int (0 : Int32)), .val (.int (1 : Int32))] [(.long bd), (.long ad)])) _
          refine XS.lcmp X5.here hx rfl (hb hby at_166) rfl ?_
          show Steps p.tables e below (T5.setTop (mkF m 167 #[.val (.long ad), .second, .val (.long aq), .second, .val (.long bdr), .second, .val (.long bsr), .second, .val (.int sel), .val (.long bd), .second, .val (.long bq), .second, .val (.int (1 : Int32)), .val (.int (0 : Int32)), .val (.int (0 : Int32)), .val (.int (0 : Int32)), .val (.int (1 : Int32))] [(.int (lcmpW ad bd))])) _
          refine XS.ifNo X5.here hx rfl (hb hby at_167) rfl ((if0 _ _).trans (teq ((lw_eq _ _).mpr hd)).2) ?_
          show Steps p.tables e below (T5.setTop (mkF m 170 #[.val (.long ad), .second, .val (.long aq), .second, .val (.long bdr), .second, .val (.long bsr), .second, .val (.int sel), .val (.long bd), .second, .val (.long bq), .second, .val (.int (1 : Int32)), .val (.int (0 : Int32)), .val (.int (0 : Int32)), .val (.int (0 : Int32)), .val (.int (1 : Int32))] [])) _
          refine XS.iload X5.here hx rfl (hb hby at_170) rfl ?_
          show Steps p.tables e below (T5.setTop (mkF m 172 #[.val (.long ad), .second, .val (.long aq), .second, .val (.long bdr), .second, .val (.long bsr), .second, .val (.int sel), .val (.long bd), .second, .val (.long bq), .second, .val (.int (1 : Int32)), .val (.int (0 : Int32)), .val (.int (0 : Int32)), .val (.int (0 : Int32)), .val (.int (1 : Int32))] [(.int (1 : Int32))])) _
          refine XS.ifNo X5.here hx rfl (hb hby at_172) rfl ((if0 _ _).trans (feq (by decide : ¬ ((1 : Int32) = (0 : Int32)))).1) ?_
          show Steps p.tables e below (T5.setTop (mkF m 175 #[.val (.long ad), .second, .val (.long aq), .second, .val (.long bdr), .second, .val (.long bsr), .second, .val (.int sel), .val (.long bd), .second, .val (.long bq), .second, .val (.int (1 : Int32)), .val (.int (0 : Int32)), .val (.int (0 : Int32)), .val (.int (0 : Int32)), .val (.int (1 : Int32))] [])) _
          refine XS.iload X5.here hx rfl (hb hby at_175) rfl ?_
          show Steps p.tables e below (T5.setTop (mkF m 177 #[.val (.long ad), .second, .val (.long aq), .second, .val (.long bdr), .second, .val (.long bsr), .second, .val (.int sel), .val (.long bd), .second, .val (.long bq), .second, .val (.int (1 : Int32)), .val (.int (0 : Int32)), .val (.int (0 : Int32)), .val (.int (0 : Int32)), .val (.int (1 : Int32))] [(.int (1 : Int32))])) _
          refine XS.lloadN X5.here hx rfl (hb hby at_177) rfl ?_
          show Steps p.tables e below (T5.setTop (mkF m 178 #[.val (.long ad), .second, .val (.long aq), .second, .val (.long bdr), .second, .val (.long bsr), .second, .val (.int sel), .val (.long bd), .second, .val (.long bq), .second, .val (.int (1 : Int32)), .val (.int (0 : Int32)), .val (.int (0 : Int32)), .val (.int (0 : Int32)), .val (.int (1 : Int32))] [(.long aq), (.int (1 : Int32))])) _
          refine XS.lload X5.here hx rfl (hb hby at_178) rfl ?_
          show Steps p.tables e below (T5.setTop (mkF m 180 #[.val (.long ad), .second, .val (.long aq), .second, .val (.long bdr), .second, .val (.long bsr), .second, .val (.int sel), .val (.long bd), .second, .val (.long bq), .second, .val (.int (1 : Int32)), .val (.int (0 : Int32)), .val (.int (0 : Int32)), .val (.int (0 : Int32)), .val (.int (1 : Int32))] [(.long bq), (.long aq), (.int (1 : Int32))])) _
          refine XS.lcmp X5.here hx rfl (hb hby at_180) rfl ?_
          show Steps p.tables e below (T5.setTop (mkF m 181 #[.val (.long ad), .second, .val (.long aq), .second, .val (.long bdr), .second, .val (.long bsr), .second, .val (.int sel), .val (.long bd), .second, .val (.long bq), .second, .val (.int (1 : Int32)), .val (.int (0 : Int32)), .val (.int (0 : Int32)), .val (.int (0 : Int32)), .val (.int (1 : Int32))] [(.int (lcmpW aq bq)), (.int (1 : Int32))])) _
          refine XS.ifNo X5.here hx rfl (hb hby at_181) rfl ((if0 _ _).trans (tlt ((lw_lt _ _).mpr hl)).2.1) ?_
          show Steps p.tables e below (T5.setTop (mkF m 184 #[.val (.long ad), .second, .val (.long aq), .second, .val (.long bdr), .second, .val (.long bsr), .second, .val (.int sel), .val (.long bd), .second, .val (.long bq), .second, .val (.int (1 : Int32)), .val (.int (0 : Int32)), .val (.int (0 : Int32)), .val (.int (0 : Int32)), .val (.int (1 : Int32))] [(.int (1 : Int32))])) _
          refine XS.iconst X5.here hx rfl (hb hby at_184) ?_
          show Steps p.tables e below (T5.setTop (mkF m 185 #[.val (.long ad), .second, .val (.long aq), .second, .val (.long bdr), .second, .val (.long bsr), .second, .val (.int sel), .val (.long bd), .second, .val (.long bq), .second, .val (.int (1 : Int32)), .val (.int (0 : Int32)), .val (.int (0 : Int32)), .val (.int (0 : Int32)), .val (.int (1 : Int32))] [(.int (1 : Int32)), (.int (1 : Int32))])) _
          refine XS.goto X5.here hx rfl (pc0 := 185) (pc' := 189) rfl (hb hby at_185) (by decide) (by decide) ?_
          show Steps p.tables e below (T5.setTop (mkF m 189 #[.val (.long ad), .second, .val (.long aq), .second, .val (.long bdr), .second, .val (.long bsr), .second, .val (.int sel), .val (.long bd), .second, .val (.long bq), .second, .val (.int (1 : Int32)), .val (.int (0 : Int32)), .val (.int (0 : Int32)), .val (.int (0 : Int32)), .val (.int (1 : Int32))] [(.int (1 : Int32)), (.int (1 : Int32))])) _
          refine XS.icmpNo X5.here hx rfl (hb hby at_189) rfl (teq (by decide : (1 : Int32) = (1 : Int32))).2 ?_
          show Steps p.tables e below (T5.setTop (mkF m 192 #[.val (.long ad), .second, .val (.long aq), .second, .val (.long bdr), .second, .val (.long bsr), .second, .val (.int sel), .val (.long bd), .second, .val (.long bq), .second, .val (.int (1 : Int32)), .val (.int (0 : Int32)), .val (.int (0 : Int32)), .val (.int (0 : Int32)), .val (.int (1 : Int32))] [])) _
          refine XS.iconst X5.here hx rfl (hb hby at_192) ?_
          show Steps p.tables e below (T5.setTop (mkF m 193 #[.val (.long ad), .second, .val (.long aq), .second, .val (.long bdr), .second, .val (.long bsr), .second, .val (.int sel), .val (.long bd), .second, .val (.long bq), .second, .val (.int (1 : Int32)), .val (.int (0 : Int32)), .val (.int (0 : Int32)), .val (.int (0 : Int32)), .val (.int (1 : Int32))] [(.int (1 : Int32))])) _
          refine XS.goto X5.here hx rfl (pc0 := 193) (pc' := 197) rfl (hb hby at_193) (by decide) (by decide) ?_
          show Steps p.tables e below (T5.setTop (mkF m 197 #[.val (.long ad), .second, .val (.long aq), .second, .val (.long bdr), .second, .val (.long bsr), .second, .val (.int sel), .val (.long bd), .second, .val (.long bq), .second, .val (.int (1 : Int32)), .val (.int (0 : Int32)), .val (.int (0 : Int32)), .val (.int (0 : Int32)), .val (.int (1 : Int32))] [(.int (1 : Int32))])) _
          refine XS.istore X5.here hx rfl (hb hby at_197) rfl (l' := #[.val (.long ad), .second, .val (.long aq), .second, .val (.long bdr), .second, .val (.long bsr), .second, .val (.int sel), .val (.long bd), .second, .val (.long bq), .second, .val (.int (1 : Int32)), .val (.int (0 : Int32)), .val (.int (0 : Int32)), .val (.int (0 : Int32)), .val (.int (1 : Int32))]) rfl ?_
          show Steps p.tables e below (T5.setTop (mkF m 199 #[.val (.long ad), .second, .val (.long aq), .second, .val (.long bdr), .second, .val (.long bsr), .second, .val (.int sel), .val (.long bd), .second, .val (.long bq), .second, .val (.int (1 : Int32)), .val (.int (0 : Int32)), .val (.int (0 : Int32)), .val (.int (0 : Int32)), .val (.int (1 : Int32))] [])) _
          refine XS.iload X5.here hx rfl (hb hby at_199) rfl ?_
          show Steps p.tables e below (T5.setTop (mkF m 201 #[.val (.long ad), .second, .val (.long aq), .second, .val (.long bdr), .second, .val (.long bsr), .second, .val (.int sel), .val (.long bd), .second, .val (.long bq), .second, .val (.int (1 : Int32)), .val (.int (0 : Int32)), .val (.int (0 : Int32)), .val (.int (0 : Int32)), .val (.int (1 : Int32))] [(.int (1 : Int32))])) _
          exact retN X5 hx (t := .boolean) Bd.returns (by simp) (hb hby at_201) hr
        · have ra : vab = (0 : Int32) := hab.trans (own_no (own_eq1 hd) (fun _ => hl))
          have rb : vba = (1 : Int32) := hba.trans (own_yes (Or.inr ⟨hd.symm, own_gt hl hs⟩))
          subst ra rb
          show Steps p.tables e below (T5.setTop (mkF m 57 #[.val (.long ad), .second, .val (.long aq), .second, .val (.long bdr), .second, .val (.long bsr), .second, .val (.int sel), .val (.long bd), .second, .val (.long bq), .second, .val (.int (0 : Int32)), .val (.int (1 : Int32)), .val (.int (0 : Int32)), .unset, .unset] [])) _
          refine XS.lloadN X5.here hx rfl (hb hby at_57) rfl ?_
          show Steps p.tables e below (T5.setTop (mkF m 58 #[.val (.long ad), .second, .val (.long aq), .second, .val (.long bdr), .second, .val (.long bsr), .second, .val (.int sel), .val (.long bd), .second, .val (.long bq), .second, .val (.int (0 : Int32)), .val (.int (1 : Int32)), .val (.int (0 : Int32)), .unset, .unset] [(.long ad)])) _
          refine XS.lload X5.here hx rfl (hb hby at_58) rfl ?_
          show Steps p.tables e below (T5.setTop (mkF m 60 #[.val (.long ad), .second, .val (.long aq), .second, .val (.long bdr), .second, .val (.long bsr), .second, .val (.int sel), .val (.long bd), .second, .val (.long bq), .second, .val (.int (0 : Int32)), .val (.int (1 : Int32)), .val (.int (0 : Int32)), .unset, .unset] [(.long bd), (.long ad)])) _
          refine XS.lcmp X5.here hx rfl (hb hby at_60) rfl ?_
          show Steps p.tables e below (T5.setTop (mkF m 61 #[.val (.long ad), .second, .val (.long aq), .second, .val (.long bdr), .second, .val (.long bsr), .second, .val (.int sel), .val (.long bd), .second, .val (.long bq), .second, .val (.int (0 : Int32)), .val (.int (1 : Int32)), .val (.int (0 : Int32)), .unset, .unset] [(.int (lcmpW ad bd))])) _
          refine XS.ifNo X5.here hx rfl (hb hby at_61) rfl ((if0 _ _).trans (teq ((lw_eq _ _).mpr hd)).2) ?_
          show Steps p.tables e below (T5.setTop (mkF m 64 #[.val (.long ad), .second, .val (.long aq), .second, .val (.long bdr), .second, .val (.long bsr), .second, .val (.int sel), .val (.long bd), .second, .val (.long bq), .second, .val (.int (0 : Int32)), .val (.int (1 : Int32)), .val (.int (0 : Int32)), .unset, .unset] [])) _
          refine XS.lloadN X5.here hx rfl (hb hby at_64) rfl ?_
          show Steps p.tables e below (T5.setTop (mkF m 65 #[.val (.long ad), .second, .val (.long aq), .second, .val (.long bdr), .second, .val (.long bsr), .second, .val (.int sel), .val (.long bd), .second, .val (.long bq), .second, .val (.int (0 : Int32)), .val (.int (1 : Int32)), .val (.int (0 : Int32)), .unset, .unset] [(.long aq)])) _
          refine XS.lload X5.here hx rfl (hb hby at_65) rfl ?_
          show Steps p.tables e below (T5.setTop (mkF m 67 #[.val (.long ad), .second, .val (.long aq), .second, .val (.long bdr), .second, .val (.long bsr), .second, .val (.int sel), .val (.long bd), .second, .val (.long bq), .second, .val (.int (0 : Int32)), .val (.int (1 : Int32)), .val (.int (0 : Int32)), .unset, .unset] [(.long bq), (.long aq)])) _
          refine XS.lcmp X5.here hx rfl (hb hby at_67) rfl ?_
          show Steps p.tables e below (T5.setTop (mkF m 68 #[.val (.long ad), .second, .val (.long aq), .second, .val (.long bdr), .second, .val (.long bsr), .second, .val (.int sel), .val (.long bd), .second, .val (.long bq), .second, .val (.int (0 : Int32)), .val (.int (1 : Int32)), .val (.int (0 : Int32)), .unset, .unset] [(.int (lcmpW aq bq))])) _
          refine XS.ifYes X5.here hx rfl (pc0 := 68) (pc' := 75) rfl (hb hby at_68) rfl ((if0 _ _).trans (feq (fun q => hs ((lw_eq _ _).mp q))).2) (by decide) (by decide) ?_
          show Steps p.tables e below (T5.setTop (mkF m 75 #[.val (.long ad), .second, .val (.long aq), .second, .val (.long bdr), .second, .val (.long bsr), .second, .val (.int sel), .val (.long bd), .second, .val (.long bq), .second, .val (.int (0 : Int32)), .val (.int (1 : Int32)), .val (.int (0 : Int32)), .unset, .unset] [])) _
          refine XS.iconst X5.here hx rfl (hb hby at_75) ?_
          show Steps p.tables e below (T5.setTop (mkF m 76 #[.val (.long ad), .second, .val (.long aq), .second, .val (.long bdr), .second, .val (.long bsr), .second, .val (.int sel), .val (.long bd), .second, .val (.long bq), .second, .val (.int (0 : Int32)), .val (.int (1 : Int32)), .val (.int (0 : Int32)), .unset, .unset] [(.int (0 : Int32))])) _
          refine XS.istore X5.here hx rfl (hb hby at_76) rfl (l' := #[.val (.long ad), .second, .val (.long aq), .second, .val (.long bdr), .second, .val (.long bsr), .second, .val (.int sel), .val (.long bd), .second, .val (.long bq), .second, .val (.int (0 : Int32)), .val (.int (1 : Int32)), .val (.int (0 : Int32)), .val (.int (0 : Int32)), .unset]) rfl ?_
          show Steps p.tables e below (T5.setTop (mkF m 78 #[.val (.long ad), .second, .val (.long aq), .second, .val (.long bdr), .second, .val (.long bsr), .second, .val (.int sel), .val (.long bd), .second, .val (.long bq), .second, .val (.int (0 : Int32)), .val (.int (1 : Int32)), .val (.int (0 : Int32)), .val (.int (0 : Int32)), .unset] [])) _
          refine XS.iload X5.here hx rfl (hb hby at_78) rfl ?_
          show Steps p.tables e below (T5.setTop (mkF m 80 #[.val (.long ad), .second, .val (.long aq), .second, .val (.long bdr), .second, .val (.long bsr), .second, .val (.int sel), .val (.long bd), .second, .val (.long bq), .second, .val (.int (0 : Int32)), .val (.int (1 : Int32)), .val (.int (0 : Int32)), .val (.int (0 : Int32)), .unset] [(.int (0 : Int32))])) _
          refine XS.ifNo X5.here hx rfl (hb hby at_80) rfl ((if0 _ _).trans (teq (by decide : (0 : Int32) = (0 : Int32))).2) ?_
          show Steps p.tables e below (T5.setTop (mkF m 83 #[.val (.long ad), .second, .val (.long aq), .second, .val (.long bdr), .second, .val (.long bsr), .second, .val (.int sel), .val (.long bd), .second, .val (.long bq), .second, .val (.int (0 : Int32)), .val (.int (1 : Int32)), .val (.int (0 : Int32)), .val (.int (0 : Int32)), .unset] [])) _
          refine XS.iconst X5.here hx rfl (hb hby at_83) ?_
          show Steps p.tables e below (T5.setTop (mkF m 84 #[.val (.long ad), .second, .val (.long aq), .second, .val (.long bdr), .second, .val (.long bsr), .second, .val (.int sel), .val (.long bd), .second, .val (.long bq), .second, .val (.int (0 : Int32)), .val (.int (1 : Int32)), .val (.int (0 : Int32)), .val (.int (0 : Int32)), .unset] [(.int (1 : Int32))])) _
          refine XS.goto X5.here hx rfl (pc0 := 84) (pc' := 88) rfl (hb hby at_84) (by decide) (by decide) ?_
          show Steps p.tables e below (T5.setTop (mkF m 88 #[.val (.long ad), .second, .val (.long aq), .second, .val (.long bdr), .second, .val (.long bsr), .second, .val (.int sel), .val (.long bd), .second, .val (.long bq), .second, .val (.int (0 : Int32)), .val (.int (1 : Int32)), .val (.int (0 : Int32)), .val (.int (0 : Int32)), .unset] [(.int (1 : Int32))])) _
          refine XS.istore X5.here hx rfl (hb hby at_88) rfl (l' := #[.val (.long ad), .second, .val (.long aq), .second, .val (.long bdr), .second, .val (.long bsr), .second, .val (.int sel), .val (.long bd), .second, .val (.long bq), .second, .val (.int (0 : Int32)), .val (.int (1 : Int32)), .val (.int (0 : Int32)), .val (.int (0 : Int32)), .val (.int (1 : Int32))]) rfl ?_
          show Steps p.tables e below (T5.setTop (mkF m 90 #[.val (.long ad), .second, .val (.long aq), .second, .val (.long bdr), .second, .val (.long bsr), .second, .val (.int sel), .val (.long bd), .second, .val (.long bq), .second, .val (.int (0 : Int32)), .val (.int (1 : Int32)), .val (.int (0 : Int32)), .val (.int (0 : Int32)), .val (.int (1 : Int32))] [])) _
          refine XS.iload X5.here hx rfl (hb hby at_90) rfl ?_
          show Steps p.tables e below (T5.setTop (mkF m 92 #[.val (.long ad), .second, .val (.long aq), .second, .val (.long bdr), .second, .val (.long bsr), .second, .val (.int sel), .val (.long bd), .second, .val (.long bq), .second, .val (.int (0 : Int32)), .val (.int (1 : Int32)), .val (.int (0 : Int32)), .val (.int (0 : Int32)), .val (.int (1 : Int32))] [(.int (0 : Int32))])) _
          refine XS.ifYes X5.here hx rfl (pc0 := 92) (pc' := 120) rfl (hb hby at_92) rfl ((if0 _ _).trans (teq (by decide : (0 : Int32) = (0 : Int32))).1) (by decide) (by decide) ?_
          show Steps p.tables e below (T5.setTop (mkF m 120 #[.val (.long ad), .second, .val (.long aq), .second, .val (.long bdr), .second, .val (.long bsr), .second, .val (.int sel), .val (.long bd), .second, .val (.long bq), .second, .val (.int (0 : Int32)), .val (.int (1 : Int32)), .val (.int (0 : Int32)), .val (.int (0 : Int32)), .val (.int (1 : Int32))] [])) _
          refine XS.iload X5.here hx rfl (hb hby at_120) rfl ?_
          show Steps p.tables e below (T5.setTop (mkF m 122 #[.val (.long ad), .second, .val (.long aq), .second, .val (.long bdr), .second, .val (.long bsr), .second, .val (.int sel), .val (.long bd), .second, .val (.long bq), .second, .val (.int (0 : Int32)), .val (.int (1 : Int32)), .val (.int (0 : Int32)), .val (.int (0 : Int32)), .val (.int (1 : Int32))] [(.int (1 : Int32))])) _
          refine XS.ifNo X5.here hx rfl (hb hby at_122) rfl ((if0 _ _).trans (feq (by decide : ¬ ((1 : Int32) = (0 : Int32)))).1) ?_
          show Steps p.tables e below (T5.setTop (mkF m 125 #[.val (.long ad), .second, .val (.long aq), .second, .val (.long bdr), .second, .val (.long bsr), .second, .val (.int sel), .val (.long bd), .second, .val (.long bq), .second, .val (.int (0 : Int32)), .val (.int (1 : Int32)), .val (.int (0 : Int32)), .val (.int (0 : Int32)), .val (.int (1 : Int32))] [])) _
          refine XS.iload X5.here hx rfl (hb hby at_125) rfl ?_
          show Steps p.tables e below (T5.setTop (mkF m 127 #[.val (.long ad), .second, .val (.long aq), .second, .val (.long bdr), .second, .val (.long bsr), .second, .val (.int sel), .val (.long bd), .second, .val (.long bq), .second, .val (.int (0 : Int32)), .val (.int (1 : Int32)), .val (.int (0 : Int32)), .val (.int (0 : Int32)), .val (.int (1 : Int32))] [(.int (0 : Int32))])) _
          refine XS.iload X5.here hx rfl (hb hby at_127) rfl ?_
          show Steps p.tables e below (T5.setTop (mkF m 129 #[.val (.long ad), .second, .val (.long aq), .second, .val (.long bdr), .second, .val (.long bsr), .second, .val (.int sel), .val (.long bd), .second, .val (.long bq), .second, .val (.int (0 : Int32)), .val (.int (1 : Int32)), .val (.int (0 : Int32)), .val (.int (0 : Int32)), .val (.int (1 : Int32))] [(.int (1 : Int32)), (.int (0 : Int32))])) _
          refine XS.icmpNo X5.here hx rfl (hb hby at_129) rfl (feq (by decide : ¬ ((0 : Int32) = (1 : Int32)))).1 ?_
          show Steps p.tables e below (T5.setTop (mkF m 132 #[.val (.long ad), .second, .val (.long aq), .second, .val (.long bdr), .second, .val (.long bsr), .second, .val (.int sel), .val (.long bd), .second, .val (.long bq), .second, .val (.int (0 : Int32)), .val (.int (1 : Int32)), .val (.int (0 : Int32)), .val (.int (0 : Int32)), .val (.int (1 : Int32))] [])) _
          refine XS.iconst X5.here hx rfl (hb hby at_132) ?_
          show Steps p.tables e below (T5.setTop (mkF m 133 #[.val (.long ad), .second, .val (.long aq), .second, .val (.long bdr), .second, .val (.long bsr), .second, .val (.int sel), .val (.long bd), .second, .val (.long bq), .second, .val (.int (0 : Int32)), .val (.int (1 : Int32)), .val (.int (0 : Int32)), .val (.int (0 : Int32)), .val (.int (1 : Int32))] [(.int (1 : Int32))])) _
          refine XS.goto X5.here hx rfl (pc0 := 133) (pc' := 137) rfl (hb hby at_133) (by decide) (by decide) ?_
          show Steps p.tables e below (T5.setTop (mkF m 137 #[.val (.long ad), .second, .val (.long aq), .second, .val (.long bdr), .second, .val (.long bsr), .second, .val (.int sel), .val (.long bd), .second, .val (.long bq), .second, .val (.int (0 : Int32)), .val (.int (1 : Int32)), .val (.int (0 : Int32)), .val (.int (0 : Int32)), .val (.int (1 : Int32))] [(.int (1 : Int32))])) _
          refine XS.istore X5.here hx rfl (hb hby at_137) rfl (l' := #[.val (.long ad), .second, .val (.long aq), .second, .val (.long bdr), .second, .val (.long bsr), .second, .val (.int sel), .val (.long bd), .second, .val (.long bq), .second, .val (.int (0 : Int32)), .val (.int (1 : Int32)), .val (.int (0 : Int32)), .val (.int (0 : Int32)), .val (.int (1 : Int32))]) rfl ?_
          show Steps p.tables e below (T5.setTop (mkF m 139 #[.val (.long ad), .second, .val (.long aq), .second, .val (.long bdr), .second, .val (.long bsr), .second, .val (.int sel), .val (.long bd), .second, .val (.long bq), .second, .val (.int (0 : Int32)), .val (.int (1 : Int32)), .val (.int (0 : Int32)), .val (.int (0 : Int32)), .val (.int (1 : Int32))] [])) _
          refine XS.lloadN X5.here hx rfl (hb hby at_139) rfl ?_
          show Steps p.tables e below (T5.setTop (mkF m 140 #[.val (.long ad), .second, .val (.long aq), .second, .val (.long bdr), .second, .val (.long bsr), .second, .val (.int sel), .val (.long bd), .second, .val (.long bq), .second, .val (.int (0 : Int32)), .val (.int (1 : Int32)), .val (.int (0 : Int32)), .val (.int (0 : Int32)), .val (.int (1 : Int32))] [(.long ad)])) _
          refine XS.lload X5.here hx rfl (hb hby at_140) rfl ?_
          show Steps p.tables e below (T5.setTop (mkF m 142 #[.val (.long ad), .second, .val (.long aq), .second, .val (.long bdr), .second, .val (.long bsr), .second, .val (.int sel), .val (.long bd), .second, .val (.long bq), .second, .val (.int (0 : Int32)), .val (.int (1 : Int32)), .val (.int (0 : Int32)), .val (.int (0 : Int32)), .val (.int (1 : Int32))] [(.long bd), (.long ad)])) _
          refine XS.lcmp X5.here hx rfl (hb hby at_142) rfl ?_
          show Steps p.tables e below (T5.setTop (mkF m 143 #[.val (.long ad), .second, .val (.long aq), .second, .val (.long bdr), .second, .val (.long bsr), .second, .val (.int sel), .val (.long bd), .second, .val (.long bq), .second, .val (.int (0 : Int32)), .val (.int (1 : Int32)), .val (.int (0 : Int32)), .val (.int (0 : Int32)), .val (.int (1 : Int32))] [(.int (lcmpW ad bd))])) _
          refine XS.ifYes X5.here hx rfl (pc0 := 143) (pc' := 163) rfl (hb hby at_143) rfl ((if0 _ _).trans (flt (fun q => (own_eq1 hd) ((lw_lt _ _).mp q))).2.1) (by decide) (by decide) ?_
          show Steps p.tables e below (T5.setTop (mkF m 163 #[.val (.long ad), .second, .val (.long aq), .second, .val (.long bdr), .second, .val (.long bsr), .second, .val (.int sel), .val (.long bd), .second, .val (.long bq), .second, .val (.int (0 : Int32)), .val (.int (1 : Int32)), .val (.int (0 : Int32)), .val (.int (0 : Int32)), .val (.int (1 : Int32))] [])) _
          refine XS.lloadN X5.here hx rfl (hb hby at_163) rfl ?_
          show Steps p.tables e below (T5.setTop (mkF m 164 #[.val (.long ad), .second, .val (.long aq), .second, .val (.long bdr), .second, .val (.long bsr), .second, .val (.int sel), .val (.long bd), .second, .val (.long bq), .second, .val (.int (0 : Int32)), .val (.int (1 : Int32)), .val (.int (0 : Int32)), .val (.int (0 : Int32)), .val (.int (1 : Int32))] [(.long ad)])) _
          refine XS.lload X5.here hx rfl (hb hby at_164) rfl ?_
          show Steps p.tables e below (T5.setTop (mkF m 166 #[.val (.long ad), .second, .val (.long aq), .second, .val (.long bdr), .second, .val (.long bsr), .second, .val (.int sel), .val (.long bd), .second, .val (.long bq), .second, .val (.int (0 : Int32)), .val (.int (1 : Int32)), .val (.int (0 : Int32)), .val (.int (0 : Int32)), .val (.int (1 : Int32))] [(.long bd), (.long ad)])) _
          refine XS.lcmp X5.here hx rfl (hb hby at_166) rfl ?_
          show Steps p.tables e below (T5.setTop (mkF m 167 #[.val (.long ad), .second, .val (.long aq), .second, .val (.long bdr), .second, .val (.long bsr), .second, .val (.int sel), .val (.long bd), .second, .val (.long bq), .second, .val (.int (0 : Int32)), .val (.int (1 : Int32)), .val (.int (0 : Int32)), .val (.int (0 : Int32)), .val (.int (1 : Int32))] [(.int (lcmpW ad bd))])) _
          refine XS.ifNo X5.here hx rfl (hb hby at_167) rfl ((if0 _ _).trans (teq ((lw_eq _ _).mpr hd)).2) ?_
          show Steps p.tables e below (T5.setTop (mkF m 170 #[.val (.long ad), .second, .val (.long aq), .second, .val (.long bdr), .second, .val (.long bsr), .second, .val (.int sel), .val (.long bd), .second, .val (.long bq), .second, .val (.int (0 : Int32)), .val (.int (1 : Int32)), .val (.int (0 : Int32)), .val (.int (0 : Int32)), .val (.int (1 : Int32))] [])) _
          refine XS.iload X5.here hx rfl (hb hby at_170) rfl ?_
          show Steps p.tables e below (T5.setTop (mkF m 172 #[.val (.long ad), .second, .val (.long aq), .second, .val (.long bdr), .second, .val (.long bsr), .second, .val (.int sel), .val (.long bd), .second, .val (.long bq), .second, .val (.int (0 : Int32)), .val (.int (1 : Int32)), .val (.int (0 : Int32)), .val (.int (0 : Int32)), .val (.int (1 : Int32))] [(.int (1 : Int32))])) _
          refine XS.ifNo X5.here hx rfl (hb hby at_172) rfl ((if0 _ _).trans (feq (by decide : ¬ ((1 : Int32) = (0 : Int32)))).1) ?_
          show Steps p.tables e below (T5.setTop (mkF m 175 #[.val (.long ad), .second, .val (.long aq), .second, .val (.long bdr), .second, .val (.long bsr), .second, .val (.int sel), .val (.long bd), .second, .val (.long bq), .second, .val (.int (0 : Int32)), .val (.int (1 : Int32)), .val (.int (0 : Int32)), .val (.int (0 : Int32)), .val (.int (1 : Int32))] [])) _
          refine XS.iload X5.here hx rfl (hb hby at_175) rfl ?_
          show Steps p.tables e below (T5.setTop (mkF m 177 #[.val (.long ad), .second, .val (.long aq), .second, .val (.long bdr), .second, .val (.long bsr), .second, .val (.int sel), .val (.long bd), .second, .val (.long bq), .second, .val (.int (0 : Int32)), .val (.int (1 : Int32)), .val (.int (0 : Int32)), .val (.int (0 : Int32)), .val (.int (1 : Int32))] [(.int (0 : Int32))])) _
          refine XS.lloadN X5.here hx rfl (hb hby at_177) rfl ?_
          show Steps p.tables e below (T5.setTop (mkF m 178 #[.val (.long ad), .second, .val (.long aq), .second, .val (.long bdr), .second, .val (.long bsr), .second, .val (.int sel), .val (.long bd), .second, .val (.long bq), .second, .val (.int (0 : Int32)), .val (.int (1 : Int32)), .val (.int (0 : Int32)), .val (.int (0 : Int32)), .val (.int (1 : Int32))] [(.long aq), (.int (0 : Int32))])) _
          refine XS.lload X5.here hx rfl (hb hby at_178) rfl ?_
          show Steps p.tables e below (T5.setTop (mkF m 180 #[.val (.long ad), .second, .val (.long aq), .second, .val (.long bdr), .second, .val (.long bsr), .second, .val (.int sel), .val (.long bd), .second, .val (.long bq), .second, .val (.int (0 : Int32)), .val (.int (1 : Int32)), .val (.int (0 : Int32)), .val (.int (0 : Int32)), .val (.int (1 : Int32))] [(.long bq), (.long aq), (.int (0 : Int32))])) _
          refine XS.lcmp X5.here hx rfl (hb hby at_180) rfl ?_
          show Steps p.tables e below (T5.setTop (mkF m 181 #[.val (.long ad), .second, .val (.long aq), .second, .val (.long bdr), .second, .val (.long bsr), .second, .val (.int sel), .val (.long bd), .second, .val (.long bq), .second, .val (.int (0 : Int32)), .val (.int (1 : Int32)), .val (.int (0 : Int32)), .val (.int (0 : Int32)), .val (.int (1 : Int32))] [(.int (lcmpW aq bq)), (.int (0 : Int32))])) _
          refine XS.ifYes X5.here hx rfl (pc0 := 181) (pc' := 188) rfl (hb hby at_181) rfl ((if0 _ _).trans (flt (fun q => hl ((lw_lt _ _).mp q))).2.1) (by decide) (by decide) ?_
          show Steps p.tables e below (T5.setTop (mkF m 188 #[.val (.long ad), .second, .val (.long aq), .second, .val (.long bdr), .second, .val (.long bsr), .second, .val (.int sel), .val (.long bd), .second, .val (.long bq), .second, .val (.int (0 : Int32)), .val (.int (1 : Int32)), .val (.int (0 : Int32)), .val (.int (0 : Int32)), .val (.int (1 : Int32))] [(.int (0 : Int32))])) _
          refine XS.iconst X5.here hx rfl (hb hby at_188) ?_
          show Steps p.tables e below (T5.setTop (mkF m 189 #[.val (.long ad), .second, .val (.long aq), .second, .val (.long bdr), .second, .val (.long bsr), .second, .val (.int sel), .val (.long bd), .second, .val (.long bq), .second, .val (.int (0 : Int32)), .val (.int (1 : Int32)), .val (.int (0 : Int32)), .val (.int (0 : Int32)), .val (.int (1 : Int32))] [(.int (0 : Int32)), (.int (0 : Int32))])) _
          refine XS.icmpNo X5.here hx rfl (hb hby at_189) rfl (teq (by decide : (0 : Int32) = (0 : Int32))).2 ?_
          show Steps p.tables e below (T5.setTop (mkF m 192 #[.val (.long ad), .second, .val (.long aq), .second, .val (.long bdr), .second, .val (.long bsr), .second, .val (.int sel), .val (.long bd), .second, .val (.long bq), .second, .val (.int (0 : Int32)), .val (.int (1 : Int32)), .val (.int (0 : Int32)), .val (.int (0 : Int32)), .val (.int (1 : Int32))] [])) _
          refine XS.iconst X5.here hx rfl (hb hby at_192) ?_
          show Steps p.tables e below (T5.setTop (mkF m 193 #[.val (.long ad), .second, .val (.long aq), .second, .val (.long bdr), .second, .val (.long bsr), .second, .val (.int sel), .val (.long bd), .second, .val (.long bq), .second, .val (.int (0 : Int32)), .val (.int (1 : Int32)), .val (.int (0 : Int32)), .val (.int (0 : Int32)), .val (.int (1 : Int32))] [(.int (1 : Int32))])) _
          refine XS.goto X5.here hx rfl (pc0 := 193) (pc' := 197) rfl (hb hby at_193) (by decide) (by decide) ?_
          show Steps p.tables e below (T5.setTop (mkF m 197 #[.val (.long ad), .second, .val (.long aq), .second, .val (.long bdr), .second, .val (.long bsr), .second, .val (.int sel), .val (.long bd), .second, .val (.long bq), .second, .val (.int (0 : Int32)), .val (.int (1 : Int32)), .val (.int (0 : Int32)), .val (.int (0 : Int32)), .val (.int (1 : Int32))] [(.int (1 : Int32))])) _
          refine XS.istore X5.here hx rfl (hb hby at_197) rfl (l' := #[.val (.long ad), .second, .val (.long aq), .second, .val (.long bdr), .second, .val (.long bsr), .second, .val (.int sel), .val (.long bd), .second, .val (.long bq), .second, .val (.int (0 : Int32)), .val (.int (1 : Int32)), .val (.int (0 : Int32)), .val (.int (0 : Int32)), .val (.int (1 : Int32))]) rfl ?_
          show Steps p.tables e below (T5.setTop (mkF m 199 #[.val (.long ad), .second, .val (.long aq), .second, .val (.long bdr), .second, .val (.long bsr), .second, .val (.int sel), .val (.long bd), .second, .val (.long bq), .second, .val (.int (0 : Int32)), .val (.int (1 : Int32)), .val (.int (0 : Int32)), .val (.int (0 : Int32)), .val (.int (1 : Int32))] [])) _
          refine XS.iload X5.here hx rfl (hb hby at_199) rfl ?_
          show Steps p.tables e below (T5.setTop (mkF m 201 #[.val (.long ad), .second, .val (.long aq), .second, .val (.long bdr), .second, .val (.long bsr), .second, .val (.int sel), .val (.long bd), .second, .val (.long bq), .second, .val (.int (0 : Int32)), .val (.int (1 : Int32)), .val (.int (0 : Int32)), .val (.int (0 : Int32)), .val (.int (1 : Int32))] [(.int (1 : Int32))])) _
          exact retN X5 hx (t := .boolean) Bd.returns (by simp) (hb hby at_201) hr
    · by_cases hl : ad < bd
      · have ra : vab = (1 : Int32) := hab.trans (own_yes (Or.inl hl))
        have rb : vba = (0 : Int32) := hba.trans (own_no (own_as hl) (fun q => absurd q.symm hd))
        subst ra rb
        show Steps p.tables e below (T5.setTop (mkF m 57 #[.val (.long ad), .second, .val (.long aq), .second, .val (.long bdr), .second, .val (.long bsr), .second, .val (.int sel), .val (.long bd), .second, .val (.long bq), .second, .val (.int (1 : Int32)), .val (.int (0 : Int32)), .val (.int (0 : Int32)), .unset, .unset] [])) _
        refine XS.lloadN X5.here hx rfl (hb hby at_57) rfl ?_
        show Steps p.tables e below (T5.setTop (mkF m 58 #[.val (.long ad), .second, .val (.long aq), .second, .val (.long bdr), .second, .val (.long bsr), .second, .val (.int sel), .val (.long bd), .second, .val (.long bq), .second, .val (.int (1 : Int32)), .val (.int (0 : Int32)), .val (.int (0 : Int32)), .unset, .unset] [(.long ad)])) _
        refine XS.lload X5.here hx rfl (hb hby at_58) rfl ?_
        show Steps p.tables e below (T5.setTop (mkF m 60 #[.val (.long ad), .second, .val (.long aq), .second, .val (.long bdr), .second, .val (.long bsr), .second, .val (.int sel), .val (.long bd), .second, .val (.long bq), .second, .val (.int (1 : Int32)), .val (.int (0 : Int32)), .val (.int (0 : Int32)), .unset, .unset] [(.long bd), (.long ad)])) _
        refine XS.lcmp X5.here hx rfl (hb hby at_60) rfl ?_
        show Steps p.tables e below (T5.setTop (mkF m 61 #[.val (.long ad), .second, .val (.long aq), .second, .val (.long bdr), .second, .val (.long bsr), .second, .val (.int sel), .val (.long bd), .second, .val (.long bq), .second, .val (.int (1 : Int32)), .val (.int (0 : Int32)), .val (.int (0 : Int32)), .unset, .unset] [(.int (lcmpW ad bd))])) _
        refine XS.ifYes X5.here hx rfl (pc0 := 61) (pc' := 75) rfl (hb hby at_61) rfl ((if0 _ _).trans (feq (fun q => hd ((lw_eq _ _).mp q))).2) (by decide) (by decide) ?_
        show Steps p.tables e below (T5.setTop (mkF m 75 #[.val (.long ad), .second, .val (.long aq), .second, .val (.long bdr), .second, .val (.long bsr), .second, .val (.int sel), .val (.long bd), .second, .val (.long bq), .second, .val (.int (1 : Int32)), .val (.int (0 : Int32)), .val (.int (0 : Int32)), .unset, .unset] [])) _
        refine XS.iconst X5.here hx rfl (hb hby at_75) ?_
        show Steps p.tables e below (T5.setTop (mkF m 76 #[.val (.long ad), .second, .val (.long aq), .second, .val (.long bdr), .second, .val (.long bsr), .second, .val (.int sel), .val (.long bd), .second, .val (.long bq), .second, .val (.int (1 : Int32)), .val (.int (0 : Int32)), .val (.int (0 : Int32)), .unset, .unset] [(.int (0 : Int32))])) _
        refine XS.istore X5.here hx rfl (hb hby at_76) rfl (l' := #[.val (.long ad), .second, .val (.long aq), .second, .val (.long bdr), .second, .val (.long bsr), .second, .val (.int sel), .val (.long bd), .second, .val (.long bq), .second, .val (.int (1 : Int32)), .val (.int (0 : Int32)), .val (.int (0 : Int32)), .val (.int (0 : Int32)), .unset]) rfl ?_
        show Steps p.tables e below (T5.setTop (mkF m 78 #[.val (.long ad), .second, .val (.long aq), .second, .val (.long bdr), .second, .val (.long bsr), .second, .val (.int sel), .val (.long bd), .second, .val (.long bq), .second, .val (.int (1 : Int32)), .val (.int (0 : Int32)), .val (.int (0 : Int32)), .val (.int (0 : Int32)), .unset] [])) _
        refine XS.iload X5.here hx rfl (hb hby at_78) rfl ?_
        show Steps p.tables e below (T5.setTop (mkF m 80 #[.val (.long ad), .second, .val (.long aq), .second, .val (.long bdr), .second, .val (.long bsr), .second, .val (.int sel), .val (.long bd), .second, .val (.long bq), .second, .val (.int (1 : Int32)), .val (.int (0 : Int32)), .val (.int (0 : Int32)), .val (.int (0 : Int32)), .unset] [(.int (0 : Int32))])) _
        refine XS.ifNo X5.here hx rfl (hb hby at_80) rfl ((if0 _ _).trans (teq (by decide : (0 : Int32) = (0 : Int32))).2) ?_
        show Steps p.tables e below (T5.setTop (mkF m 83 #[.val (.long ad), .second, .val (.long aq), .second, .val (.long bdr), .second, .val (.long bsr), .second, .val (.int sel), .val (.long bd), .second, .val (.long bq), .second, .val (.int (1 : Int32)), .val (.int (0 : Int32)), .val (.int (0 : Int32)), .val (.int (0 : Int32)), .unset] [])) _
        refine XS.iconst X5.here hx rfl (hb hby at_83) ?_
        show Steps p.tables e below (T5.setTop (mkF m 84 #[.val (.long ad), .second, .val (.long aq), .second, .val (.long bdr), .second, .val (.long bsr), .second, .val (.int sel), .val (.long bd), .second, .val (.long bq), .second, .val (.int (1 : Int32)), .val (.int (0 : Int32)), .val (.int (0 : Int32)), .val (.int (0 : Int32)), .unset] [(.int (1 : Int32))])) _
        refine XS.goto X5.here hx rfl (pc0 := 84) (pc' := 88) rfl (hb hby at_84) (by decide) (by decide) ?_
        show Steps p.tables e below (T5.setTop (mkF m 88 #[.val (.long ad), .second, .val (.long aq), .second, .val (.long bdr), .second, .val (.long bsr), .second, .val (.int sel), .val (.long bd), .second, .val (.long bq), .second, .val (.int (1 : Int32)), .val (.int (0 : Int32)), .val (.int (0 : Int32)), .val (.int (0 : Int32)), .unset] [(.int (1 : Int32))])) _
        refine XS.istore X5.here hx rfl (hb hby at_88) rfl (l' := #[.val (.long ad), .second, .val (.long aq), .second, .val (.long bdr), .second, .val (.long bsr), .second, .val (.int sel), .val (.long bd), .second, .val (.long bq), .second, .val (.int (1 : Int32)), .val (.int (0 : Int32)), .val (.int (0 : Int32)), .val (.int (0 : Int32)), .val (.int (1 : Int32))]) rfl ?_
        show Steps p.tables e below (T5.setTop (mkF m 90 #[.val (.long ad), .second, .val (.long aq), .second, .val (.long bdr), .second, .val (.long bsr), .second, .val (.int sel), .val (.long bd), .second, .val (.long bq), .second, .val (.int (1 : Int32)), .val (.int (0 : Int32)), .val (.int (0 : Int32)), .val (.int (0 : Int32)), .val (.int (1 : Int32))] [])) _
        refine XS.iload X5.here hx rfl (hb hby at_90) rfl ?_
        show Steps p.tables e below (T5.setTop (mkF m 92 #[.val (.long ad), .second, .val (.long aq), .second, .val (.long bdr), .second, .val (.long bsr), .second, .val (.int sel), .val (.long bd), .second, .val (.long bq), .second, .val (.int (1 : Int32)), .val (.int (0 : Int32)), .val (.int (0 : Int32)), .val (.int (0 : Int32)), .val (.int (1 : Int32))] [(.int (0 : Int32))])) _
        refine XS.ifYes X5.here hx rfl (pc0 := 92) (pc' := 120) rfl (hb hby at_92) rfl ((if0 _ _).trans (teq (by decide : (0 : Int32) = (0 : Int32))).1) (by decide) (by decide) ?_
        show Steps p.tables e below (T5.setTop (mkF m 120 #[.val (.long ad), .second, .val (.long aq), .second, .val (.long bdr), .second, .val (.long bsr), .second, .val (.int sel), .val (.long bd), .second, .val (.long bq), .second, .val (.int (1 : Int32)), .val (.int (0 : Int32)), .val (.int (0 : Int32)), .val (.int (0 : Int32)), .val (.int (1 : Int32))] [])) _
        refine XS.iload X5.here hx rfl (hb hby at_120) rfl ?_
        show Steps p.tables e below (T5.setTop (mkF m 122 #[.val (.long ad), .second, .val (.long aq), .second, .val (.long bdr), .second, .val (.long bsr), .second, .val (.int sel), .val (.long bd), .second, .val (.long bq), .second, .val (.int (1 : Int32)), .val (.int (0 : Int32)), .val (.int (0 : Int32)), .val (.int (0 : Int32)), .val (.int (1 : Int32))] [(.int (1 : Int32))])) _
        refine XS.ifNo X5.here hx rfl (hb hby at_122) rfl ((if0 _ _).trans (feq (by decide : ¬ ((1 : Int32) = (0 : Int32)))).1) ?_
        show Steps p.tables e below (T5.setTop (mkF m 125 #[.val (.long ad), .second, .val (.long aq), .second, .val (.long bdr), .second, .val (.long bsr), .second, .val (.int sel), .val (.long bd), .second, .val (.long bq), .second, .val (.int (1 : Int32)), .val (.int (0 : Int32)), .val (.int (0 : Int32)), .val (.int (0 : Int32)), .val (.int (1 : Int32))] [])) _
        refine XS.iload X5.here hx rfl (hb hby at_125) rfl ?_
        show Steps p.tables e below (T5.setTop (mkF m 127 #[.val (.long ad), .second, .val (.long aq), .second, .val (.long bdr), .second, .val (.long bsr), .second, .val (.int sel), .val (.long bd), .second, .val (.long bq), .second, .val (.int (1 : Int32)), .val (.int (0 : Int32)), .val (.int (0 : Int32)), .val (.int (0 : Int32)), .val (.int (1 : Int32))] [(.int (1 : Int32))])) _
        refine XS.iload X5.here hx rfl (hb hby at_127) rfl ?_
        show Steps p.tables e below (T5.setTop (mkF m 129 #[.val (.long ad), .second, .val (.long aq), .second, .val (.long bdr), .second, .val (.long bsr), .second, .val (.int sel), .val (.long bd), .second, .val (.long bq), .second, .val (.int (1 : Int32)), .val (.int (0 : Int32)), .val (.int (0 : Int32)), .val (.int (0 : Int32)), .val (.int (1 : Int32))] [(.int (0 : Int32)), (.int (1 : Int32))])) _
        refine XS.icmpNo X5.here hx rfl (hb hby at_129) rfl (feq (by decide : ¬ ((1 : Int32) = (0 : Int32)))).1 ?_
        show Steps p.tables e below (T5.setTop (mkF m 132 #[.val (.long ad), .second, .val (.long aq), .second, .val (.long bdr), .second, .val (.long bsr), .second, .val (.int sel), .val (.long bd), .second, .val (.long bq), .second, .val (.int (1 : Int32)), .val (.int (0 : Int32)), .val (.int (0 : Int32)), .val (.int (0 : Int32)), .val (.int (1 : Int32))] [])) _
        refine XS.iconst X5.here hx rfl (hb hby at_132) ?_
        show Steps p.tables e below (T5.setTop (mkF m 133 #[.val (.long ad), .second, .val (.long aq), .second, .val (.long bdr), .second, .val (.long bsr), .second, .val (.int sel), .val (.long bd), .second, .val (.long bq), .second, .val (.int (1 : Int32)), .val (.int (0 : Int32)), .val (.int (0 : Int32)), .val (.int (0 : Int32)), .val (.int (1 : Int32))] [(.int (1 : Int32))])) _
        refine XS.goto X5.here hx rfl (pc0 := 133) (pc' := 137) rfl (hb hby at_133) (by decide) (by decide) ?_
        show Steps p.tables e below (T5.setTop (mkF m 137 #[.val (.long ad), .second, .val (.long aq), .second, .val (.long bdr), .second, .val (.long bsr), .second, .val (.int sel), .val (.long bd), .second, .val (.long bq), .second, .val (.int (1 : Int32)), .val (.int (0 : Int32)), .val (.int (0 : Int32)), .val (.int (0 : Int32)), .val (.int (1 : Int32))] [(.int (1 : Int32))])) _
        refine XS.istore X5.here hx rfl (hb hby at_137) rfl (l' := #[.val (.long ad), .second, .val (.long aq), .second, .val (.long bdr), .second, .val (.long bsr), .second, .val (.int sel), .val (.long bd), .second, .val (.long bq), .second, .val (.int (1 : Int32)), .val (.int (0 : Int32)), .val (.int (0 : Int32)), .val (.int (0 : Int32)), .val (.int (1 : Int32))]) rfl ?_
        show Steps p.tables e below (T5.setTop (mkF m 139 #[.val (.long ad), .second, .val (.long aq), .second, .val (.long bdr), .second, .val (.long bsr), .second, .val (.int sel), .val (.long bd), .second, .val (.long bq), .second, .val (.int (1 : Int32)), .val (.int (0 : Int32)), .val (.int (0 : Int32)), .val (.int (0 : Int32)), .val (.int (1 : Int32))] [])) _
        refine XS.lloadN X5.here hx rfl (hb hby at_139) rfl ?_
        show Steps p.tables e below (T5.setTop (mkF m 140 #[.val (.long ad), .second, .val (.long aq), .second, .val (.long bdr), .second, .val (.long bsr), .second, .val (.int sel), .val (.long bd), .second, .val (.long bq), .second, .val (.int (1 : Int32)), .val (.int (0 : Int32)), .val (.int (0 : Int32)), .val (.int (0 : Int32)), .val (.int (1 : Int32))] [(.long ad)])) _
        refine XS.lload X5.here hx rfl (hb hby at_140) rfl ?_
        show Steps p.tables e below (T5.setTop (mkF m 142 #[.val (.long ad), .second, .val (.long aq), .second, .val (.long bdr), .second, .val (.long bsr), .second, .val (.int sel), .val (.long bd), .second, .val (.long bq), .second, .val (.int (1 : Int32)), .val (.int (0 : Int32)), .val (.int (0 : Int32)), .val (.int (0 : Int32)), .val (.int (1 : Int32))] [(.long bd), (.long ad)])) _
        refine XS.lcmp X5.here hx rfl (hb hby at_142) rfl ?_
        show Steps p.tables e below (T5.setTop (mkF m 143 #[.val (.long ad), .second, .val (.long aq), .second, .val (.long bdr), .second, .val (.long bsr), .second, .val (.int sel), .val (.long bd), .second, .val (.long bq), .second, .val (.int (1 : Int32)), .val (.int (0 : Int32)), .val (.int (0 : Int32)), .val (.int (0 : Int32)), .val (.int (1 : Int32))] [(.int (lcmpW ad bd))])) _
        refine XS.ifNo X5.here hx rfl (hb hby at_143) rfl ((if0 _ _).trans (tlt ((lw_lt _ _).mpr hl)).2.1) ?_
        show Steps p.tables e below (T5.setTop (mkF m 146 #[.val (.long ad), .second, .val (.long aq), .second, .val (.long bdr), .second, .val (.long bsr), .second, .val (.int sel), .val (.long bd), .second, .val (.long bq), .second, .val (.int (1 : Int32)), .val (.int (0 : Int32)), .val (.int (0 : Int32)), .val (.int (0 : Int32)), .val (.int (1 : Int32))] [])) _
        refine XS.iload X5.here hx rfl (hb hby at_146) rfl ?_
        show Steps p.tables e below (T5.setTop (mkF m 148 #[.val (.long ad), .second, .val (.long aq), .second, .val (.long bdr), .second, .val (.long bsr), .second, .val (.int sel), .val (.long bd), .second, .val (.long bq), .second, .val (.int (1 : Int32)), .val (.int (0 : Int32)), .val (.int (0 : Int32)), .val (.int (0 : Int32)), .val (.int (1 : Int32))] [(.int (1 : Int32))])) _
        refine XS.ifNo X5.here hx rfl (hb hby at_148) rfl ((if0 _ _).trans (feq (by decide : ¬ ((1 : Int32) = (0 : Int32)))).1) ?_
        show Steps p.tables e below (T5.setTop (mkF m 151 #[.val (.long ad), .second, .val (.long aq), .second, .val (.long bdr), .second, .val (.long bsr), .second, .val (.int sel), .val (.long bd), .second, .val (.long bq), .second, .val (.int (1 : Int32)), .val (.int (0 : Int32)), .val (.int (0 : Int32)), .val (.int (0 : Int32)), .val (.int (1 : Int32))] [])) _
        refine XS.iload X5.here hx rfl (hb hby at_151) rfl ?_
        show Steps p.tables e below (T5.setTop (mkF m 153 #[.val (.long ad), .second, .val (.long aq), .second, .val (.long bdr), .second, .val (.long bsr), .second, .val (.int sel), .val (.long bd), .second, .val (.long bq), .second, .val (.int (1 : Int32)), .val (.int (0 : Int32)), .val (.int (0 : Int32)), .val (.int (0 : Int32)), .val (.int (1 : Int32))] [(.int (1 : Int32))])) _
        refine XS.ifNo X5.here hx rfl (hb hby at_153) rfl ((if0 _ _).trans (feq (by decide : ¬ ((1 : Int32) = (0 : Int32)))).1) ?_
        show Steps p.tables e below (T5.setTop (mkF m 156 #[.val (.long ad), .second, .val (.long aq), .second, .val (.long bdr), .second, .val (.long bsr), .second, .val (.int sel), .val (.long bd), .second, .val (.long bq), .second, .val (.int (1 : Int32)), .val (.int (0 : Int32)), .val (.int (0 : Int32)), .val (.int (0 : Int32)), .val (.int (1 : Int32))] [])) _
        refine XS.iconst X5.here hx rfl (hb hby at_156) ?_
        show Steps p.tables e below (T5.setTop (mkF m 157 #[.val (.long ad), .second, .val (.long aq), .second, .val (.long bdr), .second, .val (.long bsr), .second, .val (.int sel), .val (.long bd), .second, .val (.long bq), .second, .val (.int (1 : Int32)), .val (.int (0 : Int32)), .val (.int (0 : Int32)), .val (.int (0 : Int32)), .val (.int (1 : Int32))] [(.int (1 : Int32))])) _
        refine XS.goto X5.here hx rfl (pc0 := 157) (pc' := 161) rfl (hb hby at_157) (by decide) (by decide) ?_
        show Steps p.tables e below (T5.setTop (mkF m 161 #[.val (.long ad), .second, .val (.long aq), .second, .val (.long bdr), .second, .val (.long bsr), .second, .val (.int sel), .val (.long bd), .second, .val (.long bq), .second, .val (.int (1 : Int32)), .val (.int (0 : Int32)), .val (.int (0 : Int32)), .val (.int (0 : Int32)), .val (.int (1 : Int32))] [(.int (1 : Int32))])) _
        refine XS.istore X5.here hx rfl (hb hby at_161) rfl (l' := #[.val (.long ad), .second, .val (.long aq), .second, .val (.long bdr), .second, .val (.long bsr), .second, .val (.int sel), .val (.long bd), .second, .val (.long bq), .second, .val (.int (1 : Int32)), .val (.int (0 : Int32)), .val (.int (0 : Int32)), .val (.int (0 : Int32)), .val (.int (1 : Int32))]) rfl ?_
        show Steps p.tables e below (T5.setTop (mkF m 163 #[.val (.long ad), .second, .val (.long aq), .second, .val (.long bdr), .second, .val (.long bsr), .second, .val (.int sel), .val (.long bd), .second, .val (.long bq), .second, .val (.int (1 : Int32)), .val (.int (0 : Int32)), .val (.int (0 : Int32)), .val (.int (0 : Int32)), .val (.int (1 : Int32))] [])) _
        refine XS.lloadN X5.here hx rfl (hb hby at_163) rfl ?_
        show Steps p.tables e below (T5.setTop (mkF m 164 #[.val (.long ad), .second, .val (.long aq), .second, .val (.long bdr), .second, .val (.long bsr), .second, .val (.int sel), .val (.long bd), .second, .val (.long bq), .second, .val (.int (1 : Int32)), .val (.int (0 : Int32)), .val (.int (0 : Int32)), .val (.int (0 : Int32)), .val (.int (1 : Int32))] [(.long ad)])) _
        refine XS.lload X5.here hx rfl (hb hby at_164) rfl ?_
        show Steps p.tables e below (T5.setTop (mkF m 166 #[.val (.long ad), .second, .val (.long aq), .second, .val (.long bdr), .second, .val (.long bsr), .second, .val (.int sel), .val (.long bd), .second, .val (.long bq), .second, .val (.int (1 : Int32)), .val (.int (0 : Int32)), .val (.int (0 : Int32)), .val (.int (0 : Int32)), .val (.int (1 : Int32))] [(.long bd), (.long ad)])) _
        refine XS.lcmp X5.here hx rfl (hb hby at_166) rfl ?_
        show Steps p.tables e below (T5.setTop (mkF m 167 #[.val (.long ad), .second, .val (.long aq), .second, .val (.long bdr), .second, .val (.long bsr), .second, .val (.int sel), .val (.long bd), .second, .val (.long bq), .second, .val (.int (1 : Int32)), .val (.int (0 : Int32)), .val (.int (0 : Int32)), .val (.int (0 : Int32)), .val (.int (1 : Int32))] [(.int (lcmpW ad bd))])) _
        refine XS.ifYes X5.here hx rfl (pc0 := 167) (pc' := 199) rfl (hb hby at_167) rfl ((if0 _ _).trans (feq (fun q => hd ((lw_eq _ _).mp q))).2) (by decide) (by decide) ?_
        show Steps p.tables e below (T5.setTop (mkF m 199 #[.val (.long ad), .second, .val (.long aq), .second, .val (.long bdr), .second, .val (.long bsr), .second, .val (.int sel), .val (.long bd), .second, .val (.long bq), .second, .val (.int (1 : Int32)), .val (.int (0 : Int32)), .val (.int (0 : Int32)), .val (.int (0 : Int32)), .val (.int (1 : Int32))] [])) _
        refine XS.iload X5.here hx rfl (hb hby at_199) rfl ?_
        show Steps p.tables e below (T5.setTop (mkF m 201 #[.val (.long ad), .second, .val (.long aq), .second, .val (.long bdr), .second, .val (.long bsr), .second, .val (.int sel), .val (.long bd), .second, .val (.long bq), .second, .val (.int (1 : Int32)), .val (.int (0 : Int32)), .val (.int (0 : Int32)), .val (.int (0 : Int32)), .val (.int (1 : Int32))] [(.int (1 : Int32))])) _
        exact retN X5 hx (t := .boolean) Bd.returns (by simp) (hb hby at_201) hr
      · have ra : vab = (0 : Int32) := hab.trans (own_no hl (fun q => absurd q hd))
        have rb : vba = (1 : Int32) := hba.trans (own_yes (Or.inl (own_gt hl hd)))
        subst ra rb
        show Steps p.tables e below (T5.setTop (mkF m 57 #[.val (.long ad), .second, .val (.long aq), .second, .val (.long bdr), .second, .val (.long bsr), .second, .val (.int sel), .val (.long bd), .second, .val (.long bq), .second, .val (.int (0 : Int32)), .val (.int (1 : Int32)), .val (.int (0 : Int32)), .unset, .unset] [])) _
        refine XS.lloadN X5.here hx rfl (hb hby at_57) rfl ?_
        show Steps p.tables e below (T5.setTop (mkF m 58 #[.val (.long ad), .second, .val (.long aq), .second, .val (.long bdr), .second, .val (.long bsr), .second, .val (.int sel), .val (.long bd), .second, .val (.long bq), .second, .val (.int (0 : Int32)), .val (.int (1 : Int32)), .val (.int (0 : Int32)), .unset, .unset] [(.long ad)])) _
        refine XS.lload X5.here hx rfl (hb hby at_58) rfl ?_
        show Steps p.tables e below (T5.setTop (mkF m 60 #[.val (.long ad), .second, .val (.long aq), .second, .val (.long bdr), .second, .val (.long bsr), .second, .val (.int sel), .val (.long bd), .second, .val (.long bq), .second, .val (.int (0 : Int32)), .val (.int (1 : Int32)), .val (.int (0 : Int32)), .unset, .unset] [(.long bd), (.long ad)])) _
        refine XS.lcmp X5.here hx rfl (hb hby at_60) rfl ?_
        show Steps p.tables e below (T5.setTop (mkF m 61 #[.val (.long ad), .second, .val (.long aq), .second, .val (.long bdr), .second, .val (.long bsr), .second, .val (.int sel), .val (.long bd), .second, .val (.long bq), .second, .val (.int (0 : Int32)), .val (.int (1 : Int32)), .val (.int (0 : Int32)), .unset, .unset] [(.int (lcmpW ad bd))])) _
        refine XS.ifYes X5.here hx rfl (pc0 := 61) (pc' := 75) rfl (hb hby at_61) rfl ((if0 _ _).trans (feq (fun q => hd ((lw_eq _ _).mp q))).2) (by decide) (by decide) ?_
        show Steps p.tables e below (T5.setTop (mkF m 75 #[.val (.long ad), .second, .val (.long aq), .second, .val (.long bdr), .second, .val (.long bsr), .second, .val (.int sel), .val (.long bd), .second, .val (.long bq), .second, .val (.int (0 : Int32)), .val (.int (1 : Int32)), .val (.int (0 : Int32)), .unset, .unset] [])) _
        refine XS.iconst X5.here hx rfl (hb hby at_75) ?_
        show Steps p.tables e below (T5.setTop (mkF m 76 #[.val (.long ad), .second, .val (.long aq), .second, .val (.long bdr), .second, .val (.long bsr), .second, .val (.int sel), .val (.long bd), .second, .val (.long bq), .second, .val (.int (0 : Int32)), .val (.int (1 : Int32)), .val (.int (0 : Int32)), .unset, .unset] [(.int (0 : Int32))])) _
        refine XS.istore X5.here hx rfl (hb hby at_76) rfl (l' := #[.val (.long ad), .second, .val (.long aq), .second, .val (.long bdr), .second, .val (.long bsr), .second, .val (.int sel), .val (.long bd), .second, .val (.long bq), .second, .val (.int (0 : Int32)), .val (.int (1 : Int32)), .val (.int (0 : Int32)), .val (.int (0 : Int32)), .unset]) rfl ?_
        show Steps p.tables e below (T5.setTop (mkF m 78 #[.val (.long ad), .second, .val (.long aq), .second, .val (.long bdr), .second, .val (.long bsr), .second, .val (.int sel), .val (.long bd), .second, .val (.long bq), .second, .val (.int (0 : Int32)), .val (.int (1 : Int32)), .val (.int (0 : Int32)), .val (.int (0 : Int32)), .unset] [])) _
        refine XS.iload X5.here hx rfl (hb hby at_78) rfl ?_
        show Steps p.tables e below (T5.setTop (mkF m 80 #[.val (.long ad), .second, .val (.long aq), .second, .val (.long bdr), .second, .val (.long bsr), .second, .val (.int sel), .val (.long bd), .second, .val (.long bq), .second, .val (.int (0 : Int32)), .val (.int (1 : Int32)), .val (.int (0 : Int32)), .val (.int (0 : Int32)), .unset] [(.int (0 : Int32))])) _
        refine XS.ifNo X5.here hx rfl (hb hby at_80) rfl ((if0 _ _).trans (teq (by decide : (0 : Int32) = (0 : Int32))).2) ?_
        show Steps p.tables e below (T5.setTop (mkF m 83 #[.val (.long ad), .second, .val (.long aq), .second, .val (.long bdr), .second, .val (.long bsr), .second, .val (.int sel), .val (.long bd), .second, .val (.long bq), .second, .val (.int (0 : Int32)), .val (.int (1 : Int32)), .val (.int (0 : Int32)), .val (.int (0 : Int32)), .unset] [])) _
        refine XS.iconst X5.here hx rfl (hb hby at_83) ?_
        show Steps p.tables e below (T5.setTop (mkF m 84 #[.val (.long ad), .second, .val (.long aq), .second, .val (.long bdr), .second, .val (.long bsr), .second, .val (.int sel), .val (.long bd), .second, .val (.long bq), .second, .val (.int (0 : Int32)), .val (.int (1 : Int32)), .val (.int (0 : Int32)), .val (.int (0 : Int32)), .unset] [(.int (1 : Int32))])) _
        refine XS.goto X5.here hx rfl (pc0 := 84) (pc' := 88) rfl (hb hby at_84) (by decide) (by decide) ?_
        show Steps p.tables e below (T5.setTop (mkF m 88 #[.val (.long ad), .second, .val (.long aq), .second, .val (.long bdr), .second, .val (.long bsr), .second, .val (.int sel), .val (.long bd), .second, .val (.long bq), .second, .val (.int (0 : Int32)), .val (.int (1 : Int32)), .val (.int (0 : Int32)), .val (.int (0 : Int32)), .unset] [(.int (1 : Int32))])) _
        refine XS.istore X5.here hx rfl (hb hby at_88) rfl (l' := #[.val (.long ad), .second, .val (.long aq), .second, .val (.long bdr), .second, .val (.long bsr), .second, .val (.int sel), .val (.long bd), .second, .val (.long bq), .second, .val (.int (0 : Int32)), .val (.int (1 : Int32)), .val (.int (0 : Int32)), .val (.int (0 : Int32)), .val (.int (1 : Int32))]) rfl ?_
        show Steps p.tables e below (T5.setTop (mkF m 90 #[.val (.long ad), .second, .val (.long aq), .second, .val (.long bdr), .second, .val (.long bsr), .second, .val (.int sel), .val (.long bd), .second, .val (.long bq), .second, .val (.int (0 : Int32)), .val (.int (1 : Int32)), .val (.int (0 : Int32)), .val (.int (0 : Int32)), .val (.int (1 : Int32))] [])) _
        refine XS.iload X5.here hx rfl (hb hby at_90) rfl ?_
        show Steps p.tables e below (T5.setTop (mkF m 92 #[.val (.long ad), .second, .val (.long aq), .second, .val (.long bdr), .second, .val (.long bsr), .second, .val (.int sel), .val (.long bd), .second, .val (.long bq), .second, .val (.int (0 : Int32)), .val (.int (1 : Int32)), .val (.int (0 : Int32)), .val (.int (0 : Int32)), .val (.int (1 : Int32))] [(.int (0 : Int32))])) _
        refine XS.ifYes X5.here hx rfl (pc0 := 92) (pc' := 120) rfl (hb hby at_92) rfl ((if0 _ _).trans (teq (by decide : (0 : Int32) = (0 : Int32))).1) (by decide) (by decide) ?_
        show Steps p.tables e below (T5.setTop (mkF m 120 #[.val (.long ad), .second, .val (.long aq), .second, .val (.long bdr), .second, .val (.long bsr), .second, .val (.int sel), .val (.long bd), .second, .val (.long bq), .second, .val (.int (0 : Int32)), .val (.int (1 : Int32)), .val (.int (0 : Int32)), .val (.int (0 : Int32)), .val (.int (1 : Int32))] [])) _
        refine XS.iload X5.here hx rfl (hb hby at_120) rfl ?_
        show Steps p.tables e below (T5.setTop (mkF m 122 #[.val (.long ad), .second, .val (.long aq), .second, .val (.long bdr), .second, .val (.long bsr), .second, .val (.int sel), .val (.long bd), .second, .val (.long bq), .second, .val (.int (0 : Int32)), .val (.int (1 : Int32)), .val (.int (0 : Int32)), .val (.int (0 : Int32)), .val (.int (1 : Int32))] [(.int (1 : Int32))])) _
        refine XS.ifNo X5.here hx rfl (hb hby at_122) rfl ((if0 _ _).trans (feq (by decide : ¬ ((1 : Int32) = (0 : Int32)))).1) ?_
        show Steps p.tables e below (T5.setTop (mkF m 125 #[.val (.long ad), .second, .val (.long aq), .second, .val (.long bdr), .second, .val (.long bsr), .second, .val (.int sel), .val (.long bd), .second, .val (.long bq), .second, .val (.int (0 : Int32)), .val (.int (1 : Int32)), .val (.int (0 : Int32)), .val (.int (0 : Int32)), .val (.int (1 : Int32))] [])) _
        refine XS.iload X5.here hx rfl (hb hby at_125) rfl ?_
        show Steps p.tables e below (T5.setTop (mkF m 127 #[.val (.long ad), .second, .val (.long aq), .second, .val (.long bdr), .second, .val (.long bsr), .second, .val (.int sel), .val (.long bd), .second, .val (.long bq), .second, .val (.int (0 : Int32)), .val (.int (1 : Int32)), .val (.int (0 : Int32)), .val (.int (0 : Int32)), .val (.int (1 : Int32))] [(.int (0 : Int32))])) _
        refine XS.iload X5.here hx rfl (hb hby at_127) rfl ?_
        show Steps p.tables e below (T5.setTop (mkF m 129 #[.val (.long ad), .second, .val (.long aq), .second, .val (.long bdr), .second, .val (.long bsr), .second, .val (.int sel), .val (.long bd), .second, .val (.long bq), .second, .val (.int (0 : Int32)), .val (.int (1 : Int32)), .val (.int (0 : Int32)), .val (.int (0 : Int32)), .val (.int (1 : Int32))] [(.int (1 : Int32)), (.int (0 : Int32))])) _
        refine XS.icmpNo X5.here hx rfl (hb hby at_129) rfl (feq (by decide : ¬ ((0 : Int32) = (1 : Int32)))).1 ?_
        show Steps p.tables e below (T5.setTop (mkF m 132 #[.val (.long ad), .second, .val (.long aq), .second, .val (.long bdr), .second, .val (.long bsr), .second, .val (.int sel), .val (.long bd), .second, .val (.long bq), .second, .val (.int (0 : Int32)), .val (.int (1 : Int32)), .val (.int (0 : Int32)), .val (.int (0 : Int32)), .val (.int (1 : Int32))] [])) _
        refine XS.iconst X5.here hx rfl (hb hby at_132) ?_
        show Steps p.tables e below (T5.setTop (mkF m 133 #[.val (.long ad), .second, .val (.long aq), .second, .val (.long bdr), .second, .val (.long bsr), .second, .val (.int sel), .val (.long bd), .second, .val (.long bq), .second, .val (.int (0 : Int32)), .val (.int (1 : Int32)), .val (.int (0 : Int32)), .val (.int (0 : Int32)), .val (.int (1 : Int32))] [(.int (1 : Int32))])) _
        refine XS.goto X5.here hx rfl (pc0 := 133) (pc' := 137) rfl (hb hby at_133) (by decide) (by decide) ?_
        show Steps p.tables e below (T5.setTop (mkF m 137 #[.val (.long ad), .second, .val (.long aq), .second, .val (.long bdr), .second, .val (.long bsr), .second, .val (.int sel), .val (.long bd), .second, .val (.long bq), .second, .val (.int (0 : Int32)), .val (.int (1 : Int32)), .val (.int (0 : Int32)), .val (.int (0 : Int32)), .val (.int (1 : Int32))] [(.int (1 : Int32))])) _
        refine XS.istore X5.here hx rfl (hb hby at_137) rfl (l' := #[.val (.long ad), .second, .val (.long aq), .second, .val (.long bdr), .second, .val (.long bsr), .second, .val (.int sel), .val (.long bd), .second, .val (.long bq), .second, .val (.int (0 : Int32)), .val (.int (1 : Int32)), .val (.int (0 : Int32)), .val (.int (0 : Int32)), .val (.int (1 : Int32))]) rfl ?_
        show Steps p.tables e below (T5.setTop (mkF m 139 #[.val (.long ad), .second, .val (.long aq), .second, .val (.long bdr), .second, .val (.long bsr), .second, .val (.int sel), .val (.long bd), .second, .val (.long bq), .second, .val (.int (0 : Int32)), .val (.int (1 : Int32)), .val (.int (0 : Int32)), .val (.int (0 : Int32)), .val (.int (1 : Int32))] [])) _
        refine XS.lloadN X5.here hx rfl (hb hby at_139) rfl ?_
        show Steps p.tables e below (T5.setTop (mkF m 140 #[.val (.long ad), .second, .val (.long aq), .second, .val (.long bdr), .second, .val (.long bsr), .second, .val (.int sel), .val (.long bd), .second, .val (.long bq), .second, .val (.int (0 : Int32)), .val (.int (1 : Int32)), .val (.int (0 : Int32)), .val (.int (0 : Int32)), .val (.int (1 : Int32))] [(.long ad)])) _
        refine XS.lload X5.here hx rfl (hb hby at_140) rfl ?_
        show Steps p.tables e below (T5.setTop (mkF m 142 #[.val (.long ad), .second, .val (.long aq), .second, .val (.long bdr), .second, .val (.long bsr), .second, .val (.int sel), .val (.long bd), .second, .val (.long bq), .second, .val (.int (0 : Int32)), .val (.int (1 : Int32)), .val (.int (0 : Int32)), .val (.int (0 : Int32)), .val (.int (1 : Int32))] [(.long bd), (.long ad)])) _
        refine XS.lcmp X5.here hx rfl (hb hby at_142) rfl ?_
        show Steps p.tables e below (T5.setTop (mkF m 143 #[.val (.long ad), .second, .val (.long aq), .second, .val (.long bdr), .second, .val (.long bsr), .second, .val (.int sel), .val (.long bd), .second, .val (.long bq), .second, .val (.int (0 : Int32)), .val (.int (1 : Int32)), .val (.int (0 : Int32)), .val (.int (0 : Int32)), .val (.int (1 : Int32))] [(.int (lcmpW ad bd))])) _
        refine XS.ifYes X5.here hx rfl (pc0 := 143) (pc' := 163) rfl (hb hby at_143) rfl ((if0 _ _).trans (flt (fun q => hl ((lw_lt _ _).mp q))).2.1) (by decide) (by decide) ?_
        show Steps p.tables e below (T5.setTop (mkF m 163 #[.val (.long ad), .second, .val (.long aq), .second, .val (.long bdr), .second, .val (.long bsr), .second, .val (.int sel), .val (.long bd), .second, .val (.long bq), .second, .val (.int (0 : Int32)), .val (.int (1 : Int32)), .val (.int (0 : Int32)), .val (.int (0 : Int32)), .val (.int (1 : Int32))] [])) _
        refine XS.lloadN X5.here hx rfl (hb hby at_163) rfl ?_
        show Steps p.tables e below (T5.setTop (mkF m 164 #[.val (.long ad), .second, .val (.long aq), .second, .val (.long bdr), .second, .val (.long bsr), .second, .val (.int sel), .val (.long bd), .second, .val (.long bq), .second, .val (.int (0 : Int32)), .val (.int (1 : Int32)), .val (.int (0 : Int32)), .val (.int (0 : Int32)), .val (.int (1 : Int32))] [(.long ad)])) _
        refine XS.lload X5.here hx rfl (hb hby at_164) rfl ?_
        show Steps p.tables e below (T5.setTop (mkF m 166 #[.val (.long ad), .second, .val (.long aq), .second, .val (.long bdr), .second, .val (.long bsr), .second, .val (.int sel), .val (.long bd), .second, .val (.long bq), .second, .val (.int (0 : Int32)), .val (.int (1 : Int32)), .val (.int (0 : Int32)), .val (.int (0 : Int32)), .val (.int (1 : Int32))] [(.long bd), (.long ad)])) _
        refine XS.lcmp X5.here hx rfl (hb hby at_166) rfl ?_
        show Steps p.tables e below (T5.setTop (mkF m 167 #[.val (.long ad), .second, .val (.long aq), .second, .val (.long bdr), .second, .val (.long bsr), .second, .val (.int sel), .val (.long bd), .second, .val (.long bq), .second, .val (.int (0 : Int32)), .val (.int (1 : Int32)), .val (.int (0 : Int32)), .val (.int (0 : Int32)), .val (.int (1 : Int32))] [(.int (lcmpW ad bd))])) _
        refine XS.ifYes X5.here hx rfl (pc0 := 167) (pc' := 199) rfl (hb hby at_167) rfl ((if0 _ _).trans (feq (fun q => hd ((lw_eq _ _).mp q))).2) (by decide) (by decide) ?_
        show Steps p.tables e below (T5.setTop (mkF m 199 #[.val (.long ad), .second, .val (.long aq), .second, .val (.long bdr), .second, .val (.long bsr), .second, .val (.int sel), .val (.long bd), .second, .val (.long bq), .second, .val (.int (0 : Int32)), .val (.int (1 : Int32)), .val (.int (0 : Int32)), .val (.int (0 : Int32)), .val (.int (1 : Int32))] [])) _
        refine XS.iload X5.here hx rfl (hb hby at_199) rfl ?_
        show Steps p.tables e below (T5.setTop (mkF m 201 #[.val (.long ad), .second, .val (.long aq), .second, .val (.long bdr), .second, .val (.long bsr), .second, .val (.int sel), .val (.long bd), .second, .val (.long bq), .second, .val (.int (0 : Int32)), .val (.int (1 : Int32)), .val (.int (0 : Int32)), .val (.int (0 : Int32)), .val (.int (1 : Int32))] [(.int (1 : Int32))])) _
        exact retN X5 hx (t := .boolean) Bd.returns (by simp) (hb hby at_201) hr
  · show Q0 Z ad aq bdr bsr sel h0 n0 _ T5.heap _
    rw [e5]
    exact ⟨rfl, N5⟩
set_option maxRecDepth 65536 in
set_option maxHeartbeats 40000000 in
theorem comes_1 {Post : Tables → Env → Array Value → State → Outcome → State → Prop} (hpost : ∀ tb e args s v u, (limb_1_1.after args s (.returned v) u = true ∧ limb_1_2.after args s (.returned v) u = true ∧ True) → FrameEnd s (.returned v) u (Jvm.fieldLocs frame_1_writes args s ++ Jvm.arrayLocs frame_1_arrays args s ++ Jvm.staticLocs frame_1_statics s) 0 0 → Post tb e args s (.returned v) u) :
    ArmFor flags0 classFile x code maxLocals ret World_1 tables_1 room_1 Calls_1 rest_1 Pre_1 Post := by
  intro l hfl _ _ p e ha hc hk s m args below hf hA hF happ hP
  obtain ⟨hcalls, hrest, hpre⟩ := hP
  obtain ⟨-, -, -, hnamed, -, -, -, hat⟩ := (Spec.applies_iff hf).mp happ
  obtain ⟨hg, hn⟩ := and_e (Cond.before_iff.mp (show (Jvm.Cond.and given_1 narrow_1).before args s = true from hpre))
  obtain ⟨hc0, hk0⟩ := and_e hg
  obtain ⟨hv0, hk1⟩ := and_e hk0
  obtain ⟨hv1, hk2⟩ := and_e hk1
  obtain ⟨hv2, hk3⟩ := and_e hk2
  obtain ⟨hv3, hk4⟩ := and_e hk3
  obtain ⟨w0, w1, w2, w3, w4, rfl⟩ : ∃ w0 w1 w2 w3 w4 : Value, args = #[w0, w1, w2, w3, w4] := by
    have hs : args.size = 5 := by simpa [Cond.value, given_1] using hc0
    obtain ⟨L⟩ := args
    match L, hs with
    | [w0, w1, w2, w3, w4], _ => exact ⟨w0, w1, w2, w3, w4, rfl⟩
  have hw := fun d (hd : d ∈ tables_1) => atoms_spec (ws := Jvm.Cond.code x code maxLocals ret :: tables_1) hat d (List.mem_cons_of_mem _ hd)
  obtain ⟨i0, e0⟩ := isL_v hv0
  obtain rfl : w0 = (.long i0) := Option.some.inj e0
  obtain ⟨i1, e1⟩ := isL_v hv1
  obtain rfl : w1 = (.long i1) := Option.some.inj e1
  obtain ⟨i2, e2⟩ := isL_v hv2
  obtain rfl : w2 = (.long i2) := Option.some.inj e2
  obtain ⟨i3, e3⟩ := isL_v hv3
  obtain rfl : w3 = (.long i3) := Option.some.inj e3
  obtain ⟨i4, e4⟩ := is_v hk4
  obtain rfl : w4 = (.int i4) := Option.some.inj e4
  obtain ⟨n, o, h1, h2, h3, _, L, rfl, ⟨rfl, N⟩, hq⟩ := rm0 l s _ hw tables_1 i0 i1 i2 i3 i4 s.heap s.heap.size (Nat.le_refl _)  p e ha hc hk s m _ below hf ((Spec.applies_iff_loose hf).mp happ).1 ⟨rfl, State.Warmed39.refl s, rfl⟩ trivial
  refine ⟨n, _, h1, h2, h3, hpost _ _ _ _ _ _ ⟨Cond.after_iff.mpr rfl, Cond.after_iff.mpr (eq_i res_at (Term.int_eval (1)) rfl), trivial⟩ ⟨hq.1, hq.2.1, (hq.2.2.sift fun y hy => Or.inr (N y hy)).mono (by decide) (by decide)⟩⟩
theorem main_1_1 : Claimed_1_1 := comes_1 fun _ _ _ _ _ _ h hF => ⟨h.1, hF⟩
theorem main_1_2 : Claimed_1_2 := comes_1 fun _ _ _ _ _ _ h hF => ⟨h.2.1, hF⟩
end Jvm.Pilot.@@N@@
namespace Jvm.Pilot.@@N@@
open Jvm Jvm.ClassFile Sem Op Lib Jvm.Free Jvm.Stand Jvm.Pilot.@@N@@.Jvm.D
/-! MADE BY PROGRAM (witnessworld.py) out of the Statement's table words and the real class files: 9 classes; the members and pool entries that the words name. The judged class is class 1, her method 2. -/
namespace start1
open Jvm.ClassFile
def u (s : String) : CpInfo := .utf8 (stringToUtf16 s)
/-- a pool by its gaps: so many unusable entries, then the entry; so many at the end -/
def gap : Nat → List CpInfo → List CpInfo
  | 0, r => r
  | n + 1, r => .unusable :: gap n r
def poolList (es : List (Nat × CpInfo)) (last : Nat) : List CpInfo := es.foldr (fun e r => gap e.1 (e.2 :: r)) (gap last [])
def pool (es : List (Nat × CpInfo)) (last : Nat) : Array CpInfo := ⟨poolList es last⟩
def fileOf (pool : Array CpInfo) (this : Nat) (attrs : Array Attribute := #[]) (ms : Array MethodInfo := #[]) (fl : Nat := 33) (sup : Nat := 0) (ifs : Array Nat := #[]) (fds : Array FieldInfo := #[]) : ClassFile where
  minorVersion := 0
  majorVersion := 65
  constantPool := pool
  accessFlags := fl
  thisClass := this
  superClass := sup
  interfaces := ifs
  fields := fds
  methods := ms
  attributes := attrs
def plain (name : String) (sup : Option ClassId) : Class where
  name := name
  kind := .ordinary
  loader := none
  accessFlags := 33
  super := sup
  interfaces := #[]
  cf := none
  fields := #[]
  methods := #[]
  instanceTypes := #[]
  staticTypes := #[]
  resolved := #[]
  callSites := []
  init := .initialized
  statics := none
  mirror := none

def pool0 : Array CpInfo := pool [(5, u "<init>"), (0, u "()V"), (1, .class_ 10), (1, u "java/lang/Object")] 113

def k0m0 : Method := { name := "<init>", desc := "()V", sig := { parameters := [], returnType := none }, accessFlags := 1, code := none }
/-- java/lang/Object -/
def k0 : Class := { plain "java/lang/Object" none with
  accessFlags := 33
  interfaces := #[]
  cf := some (fileOf pool0 8 #[] #[{ accessFlags := 1, nameIndex := 5, descriptorIndex := 6, attributes := #[] }] 33 0 #[] #[])
  fields := #[]
  methods := #[k0m0]
  instanceTypes := #[]
  staticTypes := #[]
  resolved := Array.replicate 124 none
  statics := none }

def pool1 : Array CpInfo := pool [(2, .class_ 4), (1, u "java/lang/Object"), (0, u "<init>"), (0, u "()V"), (0, .methodref 8 9), (0, .class_ 10), (0, .nameAndType 11 12), (0, u "com/example/mailloop/mailloop/OrderedMessagesPrecedesPinLaw"), (0, u "pick"), (0, u "(IJJ)J"), (0, .methodref 14 15), (0, .class_ 16), (0, .nameAndType 17 18), (0, u "com/example/mailloop/mailloop/OrderedMessages"), (0, u "precedes"), (0, u "(JJJJ)Z"), (3, u "law"), (0, u "(JJJJI)Z")] 2

def k1m0 : Method := { name := "<init>", desc := "()V", sig := { parameters := [], returnType := none }, accessFlags := 2, code := none }
def k1c1 : Code := { maxStack := 4, maxLocals := 7, code := method_2_code, exceptionTable := #[], attributes := #[] }
def k1m1 : Method := { name := "pick", desc := "(IJJ)J", sig := { parameters := [.int, .long, .long], returnType := some .long }, accessFlags := 10, code := some k1c1 }
def k1c2 : Code := { maxStack := 8, maxLocals := 18, code := code, exceptionTable := #[], attributes := #[] }
def k1m2 : Method := { name := "law", desc := "(JJJJI)Z", sig := { parameters := [.long, .long, .long, .long, .int], returnType := some .boolean }, accessFlags := 9, code := some k1c2 }
/-- com/example/mailloop/mailloop/OrderedMessagesPrecedesPinLaw -/
def k1 : Class := { plain "com/example/mailloop/mailloop/OrderedMessagesPrecedesPinLaw" (some 0) with
  accessFlags := 49
  interfaces := #[]
  cf := some (fileOf pool1 8 #[] #[{ accessFlags := 2, nameIndex := 5, descriptorIndex := 6, attributes := #[] }, { accessFlags := 10, nameIndex := 11, descriptorIndex := 12, attributes := #[] }, { accessFlags := 9, nameIndex := 22, descriptorIndex := 23, attributes := #[] }] 49 2 #[] #[])
  fields := #[]
  methods := #[k1m0, k1m1, k1m2]
  instanceTypes := #[]
  staticTypes := #[]
  resolved := Array.replicate 26 none
  statics := none }

def pool2 : Array CpInfo := pool [(2, .class_ 4), (1, u "java/lang/Object"), (3, .class_ 10), (1, u "com/example/mailloop/mailloop/OrderedMessages"), (0, u "NO_MESSAGES"), (0, u "[Lcom/example/mailloop/mailloop/Message;"), (2, u "entries"), (2, u "NO_ENTRIES"), (0, u "[I"), (2, u "freeEntries"), (2, u "heap"), (2, u "NO_KEYS"), (0, u "[J"), (2, u "heapDue"), (2, u "heapSequence"), (2, u "heapIndexOf"), (8, u "indexes"), (0, u "[Lcom/example/mailloop/mailloop/MessageIndex;"), (15, u "precedes"), (0, u "(JJJJ)Z"), (14, u "heapSize"), (0, u "I"), (5, u "freeCount"), (2, u "entriesUsed"), (152, u "INITIAL_CAPACITY"), (2, u "ONE_BY_ONE_SHIFT")] 46

def k2c0 : Code := { maxStack := 4, maxLocals := 8, code := prog_31_method_4_code, exceptionTable := #[], attributes := #[] }
def k2m0 : Method := { name := "precedes", desc := "(JJJJ)Z", sig := { parameters := [.long, .long, .long, .long], returnType := some .boolean }, accessFlags := 8, code := some k2c0 }
/-- com/example/mailloop/mailloop/OrderedMessages -/
def k2 : Class := { plain "com/example/mailloop/mailloop/OrderedMessages" (some 0) with
  accessFlags := 48
  interfaces := #[]
  cf := some (fileOf pool2 8 #[] #[{ accessFlags := 8, nameIndex := 64, descriptorIndex := 65, attributes := #[] }] 48 2 #[] #[{ accessFlags := 26, nameIndex := 243, descriptorIndex := 81, attributes := #[] }, { accessFlags := 26, nameIndex := 11, descriptorIndex := 12, attributes := #[] }, { accessFlags := 26, nameIndex := 28, descriptorIndex := 29, attributes := #[] }, { accessFlags := 26, nameIndex := 18, descriptorIndex := 19, attributes := #[] }, { accessFlags := 26, nameIndex := 246, descriptorIndex := 81, attributes := #[] }, { accessFlags := 2, nameIndex := 15, descriptorIndex := 12, attributes := #[] }, { accessFlags := 2, nameIndex := 22, descriptorIndex := 19, attributes := #[] }, { accessFlags := 2, nameIndex := 87, descriptorIndex := 81, attributes := #[] }, { accessFlags := 2, nameIndex := 90, descriptorIndex := 81, attributes := #[] }, { accessFlags := 2, nameIndex := 25, descriptorIndex := 19, attributes := #[] }, { accessFlags := 2, nameIndex := 32, descriptorIndex := 29, attributes := #[] }, { accessFlags := 2, nameIndex := 35, descriptorIndex := 29, attributes := #[] }, { accessFlags := 2, nameIndex := 38, descriptorIndex := 19, attributes := #[] }, { accessFlags := 2, nameIndex := 80, descriptorIndex := 81, attributes := #[] }, { accessFlags := 18, nameIndex := 47, descriptorIndex := 48, attributes := #[] }])
  fields := #[{ name := "INITIAL_CAPACITY", type := .int, accessFlags := 26, slot := 0, constantValue := 0 }, { name := "NO_MESSAGES", type := (.array (.object "com/example/mailloop/mailloop/Message")), accessFlags := 26, slot := 1, constantValue := 0 }, { name := "NO_KEYS", type := (.array .long), accessFlags := 26, slot := 2, constantValue := 0 }, { name := "NO_ENTRIES", type := (.array .int), accessFlags := 26, slot := 3, constantValue := 0 }, { name := "ONE_BY_ONE_SHIFT", type := .int, accessFlags := 26, slot := 4, constantValue := 0 }, { name := "entries", type := (.array (.object "com/example/mailloop/mailloop/Message")), accessFlags := 2, slot := 0, constantValue := 0 }, { name := "freeEntries", type := (.array .int), accessFlags := 2, slot := 1, constantValue := 0 }, { name := "freeCount", type := .int, accessFlags := 2, slot := 2, constantValue := 0 }, { name := "entriesUsed", type := .int, accessFlags := 2, slot := 3, constantValue := 0 }, { name := "heap", type := (.array .int), accessFlags := 2, slot := 4, constantValue := 0 }, { name := "heapDue", type := (.array .long), accessFlags := 2, slot := 5, constantValue := 0 }, { name := "heapSequence", type := (.array .long), accessFlags := 2, slot := 6, constantValue := 0 }, { name := "heapIndexOf", type := (.array .int), accessFlags := 2, slot := 7, constantValue := 0 }, { name := "heapSize", type := .int, accessFlags := 2, slot := 8, constantValue := 0 }, { name := "indexes", type := (.array (.object "com/example/mailloop/mailloop/MessageIndex")), accessFlags := 18, slot := 9, constantValue := 0 }]
  methods := #[k2m0]
  instanceTypes := #[(.array (.object "com/example/mailloop/mailloop/Message")), (.array .int), .int, .int, (.array .int), (.array .long), (.array .long), (.array .int), .int, (.array (.object "com/example/mailloop/mailloop/MessageIndex"))]
  staticTypes := #[.int, (.array (.object "com/example/mailloop/mailloop/Message")), (.array .long), (.array .int), .int]
  resolved := Array.replicate 293 none
  statics := none }

def pool3 : Array CpInfo := pool [(1, u "java/lang/Cloneable"), (0, .class_ 1), (0, u "java/lang/Object"), (0, .class_ 3)] 3

/-- java/lang/Cloneable -/
def k3 : Class := { plain "java/lang/Cloneable" (some 0) with
  accessFlags := 1537
  interfaces := #[]
  cf := some (fileOf pool3 2 #[] #[] 1537 4 #[] #[])
  fields := #[]
  methods := #[]
  instanceTypes := #[]
  staticTypes := #[]
  resolved := Array.replicate 8 none
  statics := none }

def pool4 : Array CpInfo := pool [(1, u "java/io/Serializable"), (0, .class_ 1), (0, u "java/lang/Object"), (0, .class_ 3)] 3

/-- java/io/Serializable -/
def k4 : Class := { plain "java/io/Serializable" (some 0) with
  accessFlags := 1537
  interfaces := #[]
  cf := some (fileOf pool4 2 #[] #[] 1537 4 #[] #[])
  fields := #[]
  methods := #[]
  instanceTypes := #[]
  staticTypes := #[]
  resolved := Array.replicate 8 none
  statics := none }

/-- the primitive byte -/
def k5 : Class := { plain "byte" none with kind := .primitive 'B', accessFlags := 0x411 }
/-- [B -/
def k6 : Class := { plain "[B" (some 0) with kind := .array 5 .byte, interfaces := #[3, 4], accessFlags := 1041 }

/-- the primitive int -/
def k7 : Class := { plain "int" none with kind := .primitive 'I', accessFlags := 0x411 }
/-- [I -/
def k8 : Class := { plain "[I" (some 0) with kind := .array 7 .int, interfaces := #[3, 4], accessFlags := 1041 }

def heap : Heap := #[]
def classes : Array Class := #[k0, k1, k2, k3, k4, k5, k6, k7, k8]
def interned : List (Array UInt16 × Addr) := []
def slotsUsed : Nat := 0
def theMethod : MethodId := ⟨1, 2⟩
def args0 : Array Value := #[.long 5, .long 7, .long 6, .long 8, .int 3]
def aboutOver (below : List Frame) : State where
  vm := { classes := classes, interned := interned.toArray }
  heap := heap
  slotsUsed := slotsUsed
  threads := #[{ frames := .invoking theMethod args0 :: below }]
def below0 : List Frame := [.native { method := ⟨0, 0⟩, args := #[] }]
def about1 : State := aboutOver below0
def p0 : Program := .bare "" "" ""
def e0 : Env := launch0.env 0 0 0
theorem w_frames : about1.frames = Frame.invoking theMethod args0 :: below0 := rfl
set_option maxRecDepth 65536 in
theorem w_args : argsFit about1.vm theMethod args0 = true := by decide +kernel
set_option maxRecDepth 65536 in
theorem w_heap : heapFits about1 = true := by decide +kernel
set_option maxRecDepth 65536 in
theorem w_runnable : about1.curStatus? = some .runnable := by decide +kernel
set_option maxRecDepth 65536 in
theorem w_alone : about1.alone = true := by decide +kernel
set_option maxRecDepth 65536 in
theorem w_named : about1.methodNamed? x = some theMethod := by decide +kernel
set_option maxRecDepth 65536 in
theorem w_hears : about1.hears theMethod below0 = true := by decide +kernel
set_option maxRecDepth 65536 in
theorem w_ripe : about1.ripe theMethod args0 below0 = true := by decide +kernel
theorem w_running : about1.status = .running := rfl
set_option maxRecDepth 65536 in
theorem w_room : about1.hasRoom e0.platform room_1 = true :=
  launch0.hasRoom_least _ room_1 (by decide +kernel) (by decide +kernel) (by decide +kernel) (by decide +kernel) (by decide +kernel) (by decide +kernel)
theorem allAtoms_all (ts : List Jvm.Cond) (a : Array Jvm.Value) (st : Jvm.State) : (allAtoms ts).before a st = ts.all (fun c => c.before a st) := by
  induction ts with
  | nil => rfl
  | cons c t ih =>
    show (Jvm.Cond.and c (allAtoms t)).before a st = _
    rw [Jvm.Cond.before_and, ih, List.all_cons]
def words1 : List Jvm.Cond := Jvm.Cond.code x code maxLocals ret :: tables_1
/-- a 'code' word, met by the world's own term for the bytes: nothing is compared byte by byte -/
theorem code_word {y : MethodName} {bytes : ByteArray} {mx : Nat} {rt : Option FieldType} {a : Array Value} {s : State} {m : MethodId} {meth : Method} {c : Code} (h1 : s.methodNamed? y = some m) (h2 : s.vm.method? m = some meth) (h3 : meth.code = some c) (h4 : c.code = bytes)
    (h5 : (c.maxLocals == mx && c.exceptionTable.isEmpty && decide (c.maxStack ≤ mostOperands) && decide (meth.sig.returnType = rt) && !meth.locks && decide (parseMethodDescriptor y.desc = some meth.sig)) = true) : (Jvm.Cond.code y bytes mx rt).before a s = true := by
  simp only [Bool.and_eq_true, beq_iff_eq, Bool.not_eq_true', decide_eq_true_eq] at h5
  obtain ⟨⟨⟨⟨⟨g1, g2⟩, g3⟩, g4⟩, g5⟩, g6⟩ := h5
  simp [Cond.before, Cond.holds, Cond.value, h1, h2, h3, h4, g1, g2, g3, g4, g5, g6]
def isCode : Jvm.Cond → Bool
  | .code _ _ _ _ => true
  | _ => false
theorem all_split {L : List Jvm.Cond} {P : Jvm.Cond → Bool} (h1 : L.all (fun c => isCode c || P c) = true) (h2 : ∀ c ∈ L.filter isCode, P c = true) : L.all P = true := by
  refine List.all_eq_true.mpr fun c hc => ?_
  have h := List.all_eq_true.mp h1 c hc
  rcases Bool.eq_false_or_eq_true (isCode c) with hi | hi
  · exact h2 c (List.mem_filter.mpr ⟨hc, hi⟩)
  · simpa [hi] using h
set_option maxRecDepth 65536 in
theorem w_c0 : (Jvm.Cond.code x code maxLocals ret).before args0 about1 = true := code_word (m := ⟨1, 2⟩) (meth := k1m2) (c := k1c2) (by decide +kernel) rfl rfl rfl (by decide +kernel)
set_option maxRecDepth 65536 in
theorem w_c1 : (Jvm.Cond.code ({ cls := "com/example/mailloop/mailloop/OrderedMessagesPrecedesPinLaw", name := "pick", desc := "(IJJ)J" } : Jvm.MethodName) method_2_code (7 : Nat) (Option.some Jvm.ClassFile.FieldType.long)).before args0 about1 = true := code_word (m := ⟨1, 1⟩) (meth := k1m1) (c := k1c1) (by decide +kernel) rfl rfl rfl (by decide +kernel)
set_option maxRecDepth 65536 in
theorem w_c2 : (Jvm.Cond.code ({ cls := "com/example/mailloop/mailloop/OrderedMessages", name := "precedes", desc := "(JJJJ)Z" } : Jvm.MethodName) prog_31_method_4_code (8 : Nat) (Option.some Jvm.ClassFile.FieldType.boolean)).before args0 about1 = true := code_word (m := ⟨2, 0⟩) (meth := k2m0) (c := k2c0) (by decide +kernel) rfl rfl rfl (by decide +kernel)
def codes1 : List Jvm.Cond := [Jvm.Cond.code x code maxLocals ret, Jvm.Cond.code ({ cls := "com/example/mailloop/mailloop/OrderedMessagesPrecedesPinLaw", name := "pick", desc := "(IJJ)J" } : Jvm.MethodName) method_2_code (7 : Nat) (Option.some Jvm.ClassFile.FieldType.long), Jvm.Cond.code ({ cls := "com/example/mailloop/mailloop/OrderedMessages", name := "precedes", desc := "(JJJJ)Z" } : Jvm.MethodName) prog_31_method_4_code (8 : Nat) (Option.some Jvm.ClassFile.FieldType.boolean)]
set_option maxRecDepth 65536 in
theorem codes_eq : words1.filter isCode = codes1 := rfl
theorem w_codes : ∀ c ∈ words1.filter isCode, c.before args0 about1 = true := by
  rw [codes_eq]
  intro c hc
  simp only [codes1, List.mem_cons, List.not_mem_nil, or_false] at hc
  rcases hc with rfl | rfl | rfl
  · exact w_c0
  · exact w_c1
  · exact w_c2
set_option maxRecDepth 65536 in
theorem w_t1 : words1.all (fun c => isCode c || c.before args0 about1) = true := by decide +kernel
theorem w_tables : (allAtoms (Jvm.Cond.code x code maxLocals ret :: tables_1)).before args0 about1 = true := by
  rw [allAtoms_all]
  show words1.all (fun c => c.before args0 about1) = true
  refine all_split ?_ w_codes
  rw [w_t1]
set_option maxRecDepth 65536 in
theorem w_case : (Jvm.Cond.and given_1 narrow_1).before args0 about1 = true := by decide +kernel
theorem w_applies : (headSpec (Jvm.Cond.code x code maxLocals ret :: tables_1) room_1).applies x e0.platform about1 = true :=
  (Spec.applies_iff w_frames).mpr ⟨w_running, w_runnable, w_alone, w_named, w_hears, w_ripe, w_room, w_tables⟩
theorem atStart : AtStart classFile x code maxLocals ret World_1 tables_1 room_1 Calls_1 rest_1 Pre_1 launch0 p0 e0 about1 theMethod args0 below0 :=
  ⟨lists_1, trivial, launch0.admits_env _ _ _, launch0.least_env, fairChoices_fair.cas, fairChoices_fair.clock, w_frames, w_args, w_heap, w_applies, trivial, trivial, w_case⟩
end start1
theorem witness_1 : WitnessClaimed_1 := ⟨start1.p0, start1.e0, start1.about1, start1.theMethod, start1.args0, start1.below0, start1.atStart⟩
end Jvm.Pilot.@@N@@
