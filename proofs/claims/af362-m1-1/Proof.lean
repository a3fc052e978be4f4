import JvmDerived
import JvmDerived.Pilot.@@N@@Statement
import JvmDerived.Pilot.@@N@@Code
set_option linter.unusedVariables false
set_option linter.unusedSimpArgs false
namespace Jvm.Pilot.@@N@@
open Jvm Jvm.ClassFile Sem Op Lib Jvm.Free Jvm.Stand Jvm.LawKit Jvm.RoadKit Bundle Jvm.Pilot.@@N@@.Jvm.D
theorem d1_0 : decode prog_11_method_5_code 0 = .ok (.iload_n 0, 1) := by decide +kernel
theorem d1_1 : decode prog_11_method_5_code 1 = .ok (.bipush 65, 2) := by decide +kernel
theorem d1_3 : decode prog_11_method_5_code 3 = .ok (.if_icmp .lt 9, 3) := by decide +kernel
theorem d1_6 : decode prog_11_method_5_code 6 = .ok (.iload_n 0, 1) := by decide +kernel
theorem d1_7 : decode prog_11_method_5_code 7 = .ok (.bipush 90, 2) := by decide +kernel
theorem d1_9 : decode prog_11_method_5_code 9 = .ok (.if_icmp .le 45, 3) := by decide +kernel
theorem d1_12 : decode prog_11_method_5_code 12 = .ok (.iload_n 0, 1) := by decide +kernel
theorem d1_13 : decode prog_11_method_5_code 13 = .ok (.bipush 97, 2) := by decide +kernel
theorem d1_15 : decode prog_11_method_5_code 15 = .ok (.if_icmp .lt 9, 3) := by decide +kernel
theorem d1_18 : decode prog_11_method_5_code 18 = .ok (.iload_n 0, 1) := by decide +kernel
theorem d1_19 : decode prog_11_method_5_code 19 = .ok (.bipush 122, 2) := by decide +kernel
theorem d1_21 : decode prog_11_method_5_code 21 = .ok (.if_icmp .le 33, 3) := by decide +kernel
theorem d1_24 : decode prog_11_method_5_code 24 = .ok (.iload_n 0, 1) := by decide +kernel
theorem d1_25 : decode prog_11_method_5_code 25 = .ok (.bipush 48, 2) := by decide +kernel
theorem d1_27 : decode prog_11_method_5_code 27 = .ok (.if_icmp .lt 9, 3) := by decide +kernel
theorem d1_30 : decode prog_11_method_5_code 30 = .ok (.iload_n 0, 1) := by decide +kernel
theorem d1_31 : decode prog_11_method_5_code 31 = .ok (.bipush 57, 2) := by decide +kernel
theorem d1_33 : decode prog_11_method_5_code 33 = .ok (.if_icmp .le 21, 3) := by decide +kernel
theorem d1_36 : decode prog_11_method_5_code 36 = .ok (.iload_n 0, 1) := by decide +kernel
theorem d1_37 : decode prog_11_method_5_code 37 = .ok (.bipush 46, 2) := by decide +kernel
theorem d1_39 : decode prog_11_method_5_code 39 = .ok (.if_icmp .eq 15, 3) := by decide +kernel
theorem d1_42 : decode prog_11_method_5_code 42 = .ok (.iload_n 0, 1) := by decide +kernel
theorem d1_43 : decode prog_11_method_5_code 43 = .ok (.bipush 95, 2) := by decide +kernel
theorem d1_45 : decode prog_11_method_5_code 45 = .ok (.if_icmp .eq 9, 3) := by decide +kernel
theorem d1_48 : decode prog_11_method_5_code 48 = .ok (.iload_n 0, 1) := by decide +kernel
theorem d1_49 : decode prog_11_method_5_code 49 = .ok (.bipush 45, 2) := by decide +kernel
theorem d1_51 : decode prog_11_method_5_code 51 = .ok (.if_icmp .ne 7, 3) := by decide +kernel
theorem d1_54 : decode prog_11_method_5_code 54 = .ok (.iconst 1, 1) := by decide +kernel
theorem d1_55 : decode prog_11_method_5_code 55 = .ok (.goto 4, 3) := by decide +kernel
theorem d1_58 : decode prog_11_method_5_code 58 = .ok (.iconst 0, 1) := by decide +kernel
theorem d1_59 : decode prog_11_method_5_code 59 = .ok (.ireturn, 1) := by decide +kernel
theorem pn_1 : plainName "com/example/caerus/caerus/core/Namespace" = true := by first | (simp [plainName, overriddenIn]; done) | decide +kernel
theorem pd_1 : parseMethodDescriptor "(I)Z" = some ⟨[.int], (some .boolean)⟩ := by decide +kernel
theorem ef_1 (m : MethodId) (q1 : Int32) : entryFrame m #[(.int q1)] 1 = mkF m 0 #[.val (.int q1)] [] := by first | (simp [entryFrame, mkF, argsToLocals, Value.category]; done) | rfl
def own_nc36 (q1 : Int32) : Int32 := (if q1 = (46 : Int32) then (1 : Int32) else (if q1 = (95 : Int32) then (1 : Int32) else (if q1 = (45 : Int32) then (1 : Int32) else (0 : Int32))))
def own_nc24 (q1 : Int32) : Int32 := (if q1 < (48 : Int32) then (own_nc36 q1) else (if (57 : Int32) < q1 then (own_nc36 q1) else (1 : Int32)))
def own_nc12 (q1 : Int32) : Int32 := (if q1 < (97 : Int32) then (own_nc24 q1) else (if (122 : Int32) < q1 then (own_nc24 q1) else (1 : Int32)))
def own_nc0 (q1 : Int32) : Int32 := (if q1 < (65 : Int32) then (own_nc12 q1) else (if (90 : Int32) < q1 then (own_nc12 q1) else (1 : Int32)))
def Q1 (Z : State) (q1 : Int32) (h0 : Heap) (n0 : Nat) (v : Option Value) (h : Heap) (L : List Loc) : Prop := v = some (.int (nar .boolean (own_nc0 q1))) ∧ Fr n0 L ∧ h = h0
set_option maxRecDepth 65536 in
set_option maxHeartbeats 40000000 in
theorem rm1 (l : Launch) (Z : State) (a0 : Array Value) (hw : ∀ d ∈ tables_1, d.before a0 Z = true) (ws : List Jvm.Cond) (q1 : Int32)  (h0 : Heap) (n0 : Nat) (Z0 : n0 ≤ h0.size)  :
    MetFree l (⟨"com/example/caerus/caerus/core/Namespace", "isNameCharacter", "(I)Z"⟩ : MethodName) (head1 (Jvm.Cond.code (⟨"com/example/caerus/caerus/core/Namespace", "isNameCharacter", "(I)Z"⟩ : MethodName) prog_11_method_5_code 1 (some .boolean) :: ws) ({ frames := 0, cells := 0, slots := 0, locals := 0 } : Room)) (fun a U => a = #[(.int q1)] ∧ Z.Warmed39 U.vm ∧ U.heap = h0) (fun _ _ _ _ _ => True) (fun _ U o U' => ∃ v L, o = .returned v ∧ Q1 Z q1  h0 n0 v U'.heap L ∧ FrameEnd U o U' L ({ frames := 0, cells := 0, slots := 0, locals := 0 } : Room).cells ({ frames := 0, cells := 0, slots := 0, locals := 0 } : Room).slots) := by
  refine MetFree.of_bodySF (plainFor_of_name pn_1) hisR ?_
  intro p e s m args below meth c s₁ Bd hml0 hP hK
  obtain ⟨rfl, hZ, hh⟩ := hP
  have hx := Bd.exec
  have hby := Bd.bytes
  have hml : c.maxLocals = 1 := hml0
  have hown : s.vm.findClass "com/example/caerus/caerus/core/Namespace" = some m.cls := findClass_of_methodNamed Bd.named
  have hnm := (name_of_methodNamed Bd.named Bd.method).1
  have X0 : Stand p l e ({ frames := 0, cells := 0, slots := 0, locals := 0 } : Room) s m #[(.int q1)] below meth c s₁ [] 0 0 := Stand.of_body Bd
  have e0 : s₁.heap = h0 := by rw [← hh, Bd.state]; rfl
  have N0 := Fr.nil n0
  have pre0 : ∀ t, Steps p.tables e below (s₁.setTop (mkF m 0 #[.val (.int q1)] [])) t → Steps p.tables e below (s₁.setTop (entryFrame m #[(.int q1)] 1)) t := fun t k => castTop (ef_1 m q1) k
  have s36 : ∀ t, Steps p.tables e below (s₁.setTop (mkF m 59 #[.val (.int q1)] [(.int (own_nc36 q1))])) t → Steps p.tables e below (s₁.setTop (mkF m 36 #[.val (.int q1)] [])) t := by
    intro t k
    refine XS.iloadN X0.here hx rfl (hb hby d1_36) rfl ?_
    show Steps p.tables e below (s₁.setTop (mkF m 37 #[.val (.int q1)] [(.int q1)])) _
    refine XS.bipush X0.here hx rfl (hb hby d1_37) ?_
    show Steps p.tables e below (s₁.setTop (mkF m 39 #[.val (.int q1)] [(.int (46 : Int32)), (.int q1)])) _
    by_cases h39 : q1 = (46 : Int32)
    · refine XS.icmpYes X0.here hx rfl (pc0 := 39) (pc' := 54) rfl (hb hby d1_39) rfl (teq h39).1 (by decide) (by decide) ?_
      show Steps p.tables e below (s₁.setTop (mkF m 54 #[.val (.int q1)] [])) _
      refine XS.iconst X0.here hx rfl (hb hby d1_54) ?_
      show Steps p.tables e below (s₁.setTop (mkF m 55 #[.val (.int q1)] [(.int (1 : Int32))])) _
      refine XS.goto X0.here hx rfl (pc0 := 55) (pc' := 59) rfl (hb hby d1_55) (by decide) (by decide) ?_
      show Steps p.tables e below (s₁.setTop (mkF m 59 #[.val (.int q1)] [(.int (1 : Int32))])) _
      unfold own_nc36 at k
      rw [if_pos h39] at k
      exact k
    · refine XS.icmpNo X0.here hx rfl (hb hby d1_39) rfl (feq h39).1 ?_
      show Steps p.tables e below (s₁.setTop (mkF m 42 #[.val (.int q1)] [])) _
      refine XS.iloadN X0.here hx rfl (hb hby d1_42) rfl ?_
      show Steps p.tables e below (s₁.setTop (mkF m 43 #[.val (.int q1)] [(.int q1)])) _
      refine XS.bipush X0.here hx rfl (hb hby d1_43) ?_
      show Steps p.tables e below (s₁.setTop (mkF m 45 #[.val (.int q1)] [(.int (95 : Int32)), (.int q1)])) _
      by_cases h45 : q1 = (95 : Int32)
      · refine XS.icmpYes X0.here hx rfl (pc0 := 45) (pc' := 54) rfl (hb hby d1_45) rfl (teq h45).1 (by decide) (by decide) ?_
        show Steps p.tables e below (s₁.setTop (mkF m 54 #[.val (.int q1)] [])) _
        refine XS.iconst X0.here hx rfl (hb hby d1_54) ?_
        show Steps p.tables e below (s₁.setTop (mkF m 55 #[.val (.int q1)] [(.int (1 : Int32))])) _
        refine XS.goto X0.here hx rfl (pc0 := 55) (pc' := 59) rfl (hb hby d1_55) (by decide) (by decide) ?_
        show Steps p.tables e below (s₁.setTop (mkF m 59 #[.val (.int q1)] [(.int (1 : Int32))])) _
        unfold own_nc36 at k
        rw [if_neg h39, if_pos h45] at k
        exact k
      · refine XS.icmpNo X0.here hx rfl (hb hby d1_45) rfl (feq h45).1 ?_
        show Steps p.tables e below (s₁.setTop (mkF m 48 #[.val (.int q1)] [])) _
        refine XS.iloadN X0.here hx rfl (hb hby d1_48) rfl ?_
        show Steps p.tables e below (s₁.setTop (mkF m 49 #[.val (.int q1)] [(.int q1)])) _
        refine XS.bipush X0.here hx rfl (hb hby d1_49) ?_
        show Steps p.tables e below (s₁.setTop (mkF m 51 #[.val (.int q1)] [(.int (45 : Int32)), (.int q1)])) _
        by_cases h51 : q1 = (45 : Int32)
        · refine XS.icmpNo X0.here hx rfl (hb hby d1_51) rfl (teq h51).2 ?_
          show Steps p.tables e below (s₁.setTop (mkF m 54 #[.val (.int q1)] [])) _
          refine XS.iconst X0.here hx rfl (hb hby d1_54) ?_
          show Steps p.tables e below (s₁.setTop (mkF m 55 #[.val (.int q1)] [(.int (1 : Int32))])) _
          refine XS.goto X0.here hx rfl (pc0 := 55) (pc' := 59) rfl (hb hby d1_55) (by decide) (by decide) ?_
          show Steps p.tables e below (s₁.setTop (mkF m 59 #[.val (.int q1)] [(.int (1 : Int32))])) _
          unfold own_nc36 at k
          rw [if_neg h39, if_neg h45, if_pos h51] at k
          exact k
        · refine XS.icmpYes X0.here hx rfl (pc0 := 51) (pc' := 58) rfl (hb hby d1_51) rfl (feq h51).2 (by decide) (by decide) ?_
          show Steps p.tables e below (s₁.setTop (mkF m 58 #[.val (.int q1)] [])) _
          refine XS.iconst X0.here hx rfl (hb hby d1_58) ?_
          show Steps p.tables e below (s₁.setTop (mkF m 59 #[.val (.int q1)] [(.int (0 : Int32))])) _
          unfold own_nc36 at k
          rw [if_neg h39, if_neg h45, if_neg h51] at k
          exact k
  have s24 : ∀ t, Steps p.tables e below (s₁.setTop (mkF m 59 #[.val (.int q1)] [(.int (own_nc24 q1))])) t → Steps p.tables e below (s₁.setTop (mkF m 24 #[.val (.int q1)] [])) t := by
    intro t k
    refine XS.iloadN X0.here hx rfl (hb hby d1_24) rfl ?_
    show Steps p.tables e below (s₁.setTop (mkF m 25 #[.val (.int q1)] [(.int q1)])) _
    refine XS.bipush X0.here hx rfl (hb hby d1_25) ?_
    show Steps p.tables e below (s₁.setTop (mkF m 27 #[.val (.int q1)] [(.int (48 : Int32)), (.int q1)])) _
    by_cases h27 : q1 < (48 : Int32)
    · refine XS.icmpYes X0.here hx rfl (pc0 := 27) (pc' := 36) rfl (hb hby d1_27) rfl (tlt h27).1 (by decide) (by decide) ?_
      show Steps p.tables e below (s₁.setTop (mkF m 36 #[.val (.int q1)] [])) _
      unfold own_nc24 at k
      rw [if_pos h27] at k
      exact s36 _ k
    · refine XS.icmpNo X0.here hx rfl (hb hby d1_27) rfl (flt h27).1 ?_
      show Steps p.tables e below (s₁.setTop (mkF m 30 #[.val (.int q1)] [])) _
      refine XS.iloadN X0.here hx rfl (hb hby d1_30) rfl ?_
      show Steps p.tables e below (s₁.setTop (mkF m 31 #[.val (.int q1)] [(.int q1)])) _
      refine XS.bipush X0.here hx rfl (hb hby d1_31) ?_
      show Steps p.tables e below (s₁.setTop (mkF m 33 #[.val (.int q1)] [(.int (57 : Int32)), (.int q1)])) _
      by_cases h33 : (57 : Int32) < q1
      · refine XS.icmpNo X0.here hx rfl (hb hby d1_33) rfl (tlt h33).2.2.2 ?_
        show Steps p.tables e below (s₁.setTop (mkF m 36 #[.val (.int q1)] [])) _
        unfold own_nc24 at k
        rw [if_neg h27, if_pos h33] at k
        exact s36 _ k
      · refine XS.icmpYes X0.here hx rfl (pc0 := 33) (pc' := 54) rfl (hb hby d1_33) rfl (flt h33).2.2.2 (by decide) (by decide) ?_
        show Steps p.tables e below (s₁.setTop (mkF m 54 #[.val (.int q1)] [])) _
        refine XS.iconst X0.here hx rfl (hb hby d1_54) ?_
        show Steps p.tables e below (s₁.setTop (mkF m 55 #[.val (.int q1)] [(.int (1 : Int32))])) _
        refine XS.goto X0.here hx rfl (pc0 := 55) (pc' := 59) rfl (hb hby d1_55) (by decide) (by decide) ?_
        show Steps p.tables e below (s₁.setTop (mkF m 59 #[.val (.int q1)] [(.int (1 : Int32))])) _
        unfold own_nc24 at k
        rw [if_neg h27, if_neg h33] at k
        exact k
  have s12 : ∀ t, Steps p.tables e below (s₁.setTop (mkF m 59 #[.val (.int q1)] [(.int (own_nc12 q1))])) t → Steps p.tables e below (s₁.setTop (mkF m 12 #[.val (.int q1)] [])) t := by
    intro t k
    refine XS.iloadN X0.here hx rfl (hb hby d1_12) rfl ?_
    show Steps p.tables e below (s₁.setTop (mkF m 13 #[.val (.int q1)] [(.int q1)])) _
    refine XS.bipush X0.here hx rfl (hb hby d1_13) ?_
    show Steps p.tables e below (s₁.setTop (mkF m 15 #[.val (.int q1)] [(.int (97 : Int32)), (.int q1)])) _
    by_cases h15 : q1 < (97 : Int32)
    · refine XS.icmpYes X0.here hx rfl (pc0 := 15) (pc' := 24) rfl (hb hby d1_15) rfl (tlt h15).1 (by decide) (by decide) ?_
      show Steps p.tables e below (s₁.setTop (mkF m 24 #[.val (.int q1)] [])) _
      unfold own_nc12 at k
      rw [if_pos h15] at k
      exact s24 _ k
    · refine XS.icmpNo X0.here hx rfl (hb hby d1_15) rfl (flt h15).1 ?_
      show Steps p.tables e below (s₁.setTop (mkF m 18 #[.val (.int q1)] [])) _
      refine XS.iloadN X0.here hx rfl (hb hby d1_18) rfl ?_
      show Steps p.tables e below (s₁.setTop (mkF m 19 #[.val (.int q1)] [(.int q1)])) _
      refine XS.bipush X0.here hx rfl (hb hby d1_19) ?_
      show Steps p.tables e below (s₁.setTop (mkF m 21 #[.val (.int q1)] [(.int (122 : Int32)), (.int q1)])) _
      by_cases h21 : (122 : Int32) < q1
      · refine XS.icmpNo X0.here hx rfl (hb hby d1_21) rfl (tlt h21).2.2.2 ?_
        show Steps p.tables e below (s₁.setTop (mkF m 24 #[.val (.int q1)] [])) _
        unfold own_nc12 at k
        rw [if_neg h15, if_pos h21] at k
        exact s24 _ k
      · refine XS.icmpYes X0.here hx rfl (pc0 := 21) (pc' := 54) rfl (hb hby d1_21) rfl (flt h21).2.2.2 (by decide) (by decide) ?_
        show Steps p.tables e below (s₁.setTop (mkF m 54 #[.val (.int q1)] [])) _
        refine XS.iconst X0.here hx rfl (hb hby d1_54) ?_
        show Steps p.tables e below (s₁.setTop (mkF m 55 #[.val (.int q1)] [(.int (1 : Int32))])) _
        refine XS.goto X0.here hx rfl (pc0 := 55) (pc' := 59) rfl (hb hby d1_55) (by decide) (by decide) ?_
        show Steps p.tables e below (s₁.setTop (mkF m 59 #[.val (.int q1)] [(.int (1 : Int32))])) _
        unfold own_nc12 at k
        rw [if_neg h15, if_neg h21] at k
        exact k
  have s0 : ∀ t, Steps p.tables e below (s₁.setTop (mkF m 59 #[.val (.int q1)] [(.int (own_nc0 q1))])) t → Steps p.tables e below (s₁.setTop (mkF m 0 #[.val (.int q1)] [])) t := by
    intro t k
    refine XS.iloadN X0.here hx rfl (hb hby d1_0) rfl ?_
    show Steps p.tables e below (s₁.setTop (mkF m 1 #[.val (.int q1)] [(.int q1)])) _
    refine XS.bipush X0.here hx rfl (hb hby d1_1) ?_
    show Steps p.tables e below (s₁.setTop (mkF m 3 #[.val (.int q1)] [(.int (65 : Int32)), (.int q1)])) _
    by_cases h3 : q1 < (65 : Int32)
    · refine XS.icmpYes X0.here hx rfl (pc0 := 3) (pc' := 12) rfl (hb hby d1_3) rfl (tlt h3).1 (by decide) (by decide) ?_
      show Steps p.tables e below (s₁.setTop (mkF m 12 #[.val (.int q1)] [])) _
      unfold own_nc0 at k
      rw [if_pos h3] at k
      exact s12 _ k
    · refine XS.icmpNo X0.here hx rfl (hb hby d1_3) rfl (flt h3).1 ?_
      show Steps p.tables e below (s₁.setTop (mkF m 6 #[.val (.int q1)] [])) _
      refine XS.iloadN X0.here hx rfl (hb hby d1_6) rfl ?_
      show Steps p.tables e below (s₁.setTop (mkF m 7 #[.val (.int q1)] [(.int q1)])) _
      refine XS.bipush X0.here hx rfl (hb hby d1_7) ?_
      show Steps p.tables e below (s₁.setTop (mkF m 9 #[.val (.int q1)] [(.int (90 : Int32)), (.int q1)])) _
      by_cases h9 : (90 : Int32) < q1
      · refine XS.icmpNo X0.here hx rfl (hb hby d1_9) rfl (tlt h9).2.2.2 ?_
        show Steps p.tables e below (s₁.setTop (mkF m 12 #[.val (.int q1)] [])) _
        unfold own_nc0 at k
        rw [if_neg h3, if_pos h9] at k
        exact s12 _ k
      · refine XS.icmpYes X0.here hx rfl (pc0 := 9) (pc' := 54) rfl (hb hby d1_9) rfl (flt h9).2.2.2 (by decide) (by decide) ?_
        show Steps p.tables e below (s₁.setTop (mkF m 54 #[.val (.int q1)] [])) _
        refine XS.iconst X0.here hx rfl (hb hby d1_54) ?_
        show Steps p.tables e below (s₁.setTop (mkF m 55 #[.val (.int q1)] [(.int (1 : Int32))])) _
        refine XS.goto X0.here hx rfl (pc0 := 55) (pc' := 59) rfl (hb hby d1_55) (by decide) (by decide) ?_
        show Steps p.tables e below (s₁.setTop (mkF m 59 #[.val (.int q1)] [(.int (1 : Int32))])) _
        unfold own_nc0 at k
        rw [if_neg h3, if_neg h9] at k
        exact k
  obtain ⟨fs, hr, hrun, hended, hW, hsame⟩ := X0.leave (v := some (.int (nar .boolean (own_nc0 q1)))) (fun h => by rw [Bd.returns] at h; cases h)
  refine ⟨_, _, pre0 _ ?_, hrun, hended, _, _, rfl, ?_, ⟨_, rfl⟩, hW, hsame.mono (by decide) (by decide)⟩
  · show Steps p.tables e below (s₁.setTop (mkF m 0 #[.val (.int q1)] [])) _
    refine s0 _ ?_
    show Steps p.tables e below (s₁.setTop (mkF m 59 #[.val (.int q1)] [(.int (own_nc0 q1))])) _
    exact retN X0 hx (t := .boolean) Bd.returns (by simp) (hb hby d1_59) hr
  · show Q1 Z q1 h0 n0 _ s₁.heap _
    rw [e0]
    exact ⟨rfl, N0, rfl⟩
theorem d2_0 : decode method_3_code 0 = .ok (.iload_n 0, 1) := by decide +kernel
theorem d2_1 : decode method_3_code 1 = .ok (.bipush 32, 2) := by decide +kernel
theorem d2_3 : decode method_3_code 3 = .ok (.ior, 1) := by decide +kernel
theorem d2_4 : decode method_3_code 4 = .ok (.istore_n 1, 1) := by decide +kernel
theorem d2_5 : decode method_3_code 5 = .ok (.iload_n 1, 1) := by decide +kernel
theorem d2_6 : decode method_3_code 6 = .ok (.bipush 97, 2) := by decide +kernel
theorem d2_8 : decode method_3_code 8 = .ok (.if_icmp .lt 13, 3) := by decide +kernel
theorem d2_11 : decode method_3_code 11 = .ok (.iload_n 1, 1) := by decide +kernel
theorem d2_12 : decode method_3_code 12 = .ok (.bipush 122, 2) := by decide +kernel
theorem d2_14 : decode method_3_code 14 = .ok (.if_icmp .gt 7, 3) := by decide +kernel
theorem d2_17 : decode method_3_code 17 = .ok (.iconst 1, 1) := by decide +kernel
theorem d2_18 : decode method_3_code 18 = .ok (.goto 4, 3) := by decide +kernel
theorem d2_21 : decode method_3_code 21 = .ok (.iconst 0, 1) := by decide +kernel
theorem d2_22 : decode method_3_code 22 = .ok (.istore_n 2, 1) := by decide +kernel
theorem d2_23 : decode method_3_code 23 = .ok (.iload_n 0, 1) := by decide +kernel
theorem d2_24 : decode method_3_code 24 = .ok (.i2l, 1) := by decide +kernel
theorem d2_25 : decode method_3_code 25 = .ok (.ldc2_w 18, 3) := by decide +kernel
theorem d2_28 : decode method_3_code 28 = .ok (.lsub, 1) := by decide +kernel
theorem d2_29 : decode method_3_code 29 = .ok (.lstore_n 3, 1) := by decide +kernel
theorem d2_30 : decode method_3_code 30 = .ok (.lload_n 3, 1) := by decide +kernel
theorem d2_31 : decode method_3_code 31 = .ok (.lconst 0, 1) := by decide +kernel
theorem d2_32 : decode method_3_code 32 = .ok (.lcmp, 1) := by decide +kernel
theorem d2_33 : decode method_3_code 33 = .ok (.ifCond .lt 15, 3) := by decide +kernel
theorem d2_36 : decode method_3_code 36 = .ok (.lload_n 3, 1) := by decide +kernel
theorem d2_37 : decode method_3_code 37 = .ok (.ldc2_w 20, 3) := by decide +kernel
theorem d2_40 : decode method_3_code 40 = .ok (.lcmp, 1) := by decide +kernel
theorem d2_41 : decode method_3_code 41 = .ok (.ifCond .ge 7, 3) := by decide +kernel
theorem d2_44 : decode method_3_code 44 = .ok (.iconst 1, 1) := by decide +kernel
theorem d2_45 : decode method_3_code 45 = .ok (.goto 4, 3) := by decide +kernel
theorem d2_48 : decode method_3_code 48 = .ok (.iconst 0, 1) := by decide +kernel
theorem d2_49 : decode method_3_code 49 = .ok (.istore 5, 2) := by decide +kernel
theorem d2_51 : decode method_3_code 51 = .ok (.iload_n 0, 1) := by decide +kernel
theorem d2_52 : decode method_3_code 52 = .ok (.bipush 46, 2) := by decide +kernel
theorem d2_54 : decode method_3_code 54 = .ok (.if_icmp .eq 15, 3) := by decide +kernel
theorem d2_57 : decode method_3_code 57 = .ok (.iload_n 0, 1) := by decide +kernel
theorem d2_58 : decode method_3_code 58 = .ok (.bipush 95, 2) := by decide +kernel
theorem d2_60 : decode method_3_code 60 = .ok (.if_icmp .eq 9, 3) := by decide +kernel
theorem d2_63 : decode method_3_code 63 = .ok (.iload_n 0, 1) := by decide +kernel
theorem d2_64 : decode method_3_code 64 = .ok (.bipush 45, 2) := by decide +kernel
theorem d2_66 : decode method_3_code 66 = .ok (.if_icmp .ne 7, 3) := by decide +kernel
theorem d2_69 : decode method_3_code 69 = .ok (.iconst 1, 1) := by decide +kernel
theorem d2_70 : decode method_3_code 70 = .ok (.goto 4, 3) := by decide +kernel
theorem d2_73 : decode method_3_code 73 = .ok (.iconst 0, 1) := by decide +kernel
theorem d2_74 : decode method_3_code 74 = .ok (.istore 6, 2) := by decide +kernel
theorem d2_76 : decode method_3_code 76 = .ok (.iload_n 2, 1) := by decide +kernel
theorem d2_77 : decode method_3_code 77 = .ok (.ifCond .ne 13, 3) := by decide +kernel
theorem d2_80 : decode method_3_code 80 = .ok (.iload 5, 2) := by decide +kernel
theorem d2_82 : decode method_3_code 82 = .ok (.ifCond .ne 8, 3) := by decide +kernel
theorem d2_85 : decode method_3_code 85 = .ok (.iload 6, 2) := by decide +kernel
theorem d2_87 : decode method_3_code 87 = .ok (.ifCond .eq 7, 3) := by decide +kernel
theorem d2_90 : decode method_3_code 90 = .ok (.iconst 1, 1) := by decide +kernel
theorem d2_91 : decode method_3_code 91 = .ok (.goto 4, 3) := by decide +kernel
theorem d2_94 : decode method_3_code 94 = .ok (.iconst 0, 1) := by decide +kernel
theorem d2_95 : decode method_3_code 95 = .ok (.ireturn, 1) := by decide +kernel
theorem pn_2 : plainName "com/example/caerus/caerus/core/NamespaceIsNameCharacterPinLaw" = true := by first | (simp [plainName, overriddenIn]; done) | decide +kernel
theorem pd_2 : parseMethodDescriptor "(I)Z" = some ⟨[.int], (some .boolean)⟩ := by decide +kernel
theorem ef_2 (m : MethodId) (q1 : Int32) : entryFrame m #[(.int q1)] 7 = mkF m 0 #[.val (.int q1), .unset, .unset, .unset, .unset, .unset, .unset] [] := by first | (simp [entryFrame, mkF, argsToLocals, Value.category]; done) | rfl
def own_letter (q1 : Int32) : Int32 := (if (q1 ||| (32 : Int32)) < (97 : Int32) then (0 : Int32) else (if (122 : Int32) < (q1 ||| (32 : Int32)) then (0 : Int32) else (1 : Int32)))
def own_digit (q1 : Int32) : Int32 := (if (q1.toInt64 - (48 : Int64)) < (0 : Int64) then (0 : Int32) else (if (q1.toInt64 - (48 : Int64)) < (10 : Int64) then (1 : Int32) else (0 : Int32)))
def own_punct (q1 : Int32) : Int32 := (if q1 = (46 : Int32) then (1 : Int32) else (if q1 = (95 : Int32) then (1 : Int32) else (if q1 = (45 : Int32) then (1 : Int32) else (0 : Int32))))
def own_rf (q1 : Int32) : Int32 := (if (own_letter q1) = (0 : Int32) then (if (own_digit q1) = (0 : Int32) then (if (own_punct q1) = (0 : Int32) then (0 : Int32) else (1 : Int32)) else (1 : Int32)) else (1 : Int32))
def Q2 (Z : State) (q1 : Int32) (h0 : Heap) (n0 : Nat) (v : Option Value) (h : Heap) (L : List Loc) : Prop := v = some (.int (nar .boolean (own_rf q1))) ∧ Fr n0 L ∧ h = h0
set_option maxRecDepth 65536 in
set_option maxHeartbeats 40000000 in
theorem rm2 (l : Launch) (Z : State) (a0 : Array Value) (hw : ∀ d ∈ tables_1, d.before a0 Z = true) (ws : List Jvm.Cond) (q1 : Int32)  (h0 : Heap) (n0 : Nat) (Z0 : n0 ≤ h0.size)  :
    MetFree l (⟨"com/example/caerus/caerus/core/NamespaceIsNameCharacterPinLaw", "reference", "(I)Z"⟩ : MethodName) (head1 (Jvm.Cond.code (⟨"com/example/caerus/caerus/core/NamespaceIsNameCharacterPinLaw", "reference", "(I)Z"⟩ : MethodName) method_3_code 7 (some .boolean) :: ws) ({ frames := 0, cells := 0, slots := 0, locals := 0 } : Room)) (fun a U => a = #[(.int q1)] ∧ Z.Warmed39 U.vm ∧ U.heap = h0) (fun _ _ _ _ _ => True) (fun _ U o U' => ∃ v L, o = .returned v ∧ Q2 Z q1  h0 n0 v U'.heap L ∧ FrameEnd U o U' L ({ frames := 0, cells := 0, slots := 0, locals := 0 } : Room).cells ({ frames := 0, cells := 0, slots := 0, locals := 0 } : Room).slots) := by
  refine MetFree.of_bodySF (plainFor_of_name pn_2) hisR ?_
  intro p e s m args below meth c s₁ Bd hml0 hP hK
  obtain ⟨rfl, hZ, hh⟩ := hP
  have hx := Bd.exec
  have hby := Bd.bytes
  have hml : c.maxLocals = 7 := hml0
  have hown : s.vm.findClass "com/example/caerus/caerus/core/NamespaceIsNameCharacterPinLaw" = some m.cls := findClass_of_methodNamed Bd.named
  have hnm := (name_of_methodNamed Bd.named Bd.method).1
  have X0 : Stand p l e ({ frames := 0, cells := 0, slots := 0, locals := 0 } : Room) s m #[(.int q1)] below meth c s₁ [] 0 0 := Stand.of_body Bd
  have e0 : s₁.heap = h0 := by rw [← hh, Bd.state]; rfl
  have N0 := Fr.nil n0
  have pre0 : ∀ t, Steps p.tables e below (s₁.setTop (mkF m 0 #[.val (.int q1), .unset, .unset, .unset, .unset, .unset, .unset] [])) t → Steps p.tables e below (s₁.setTop (entryFrame m #[(.int q1)] 7)) t := fun t k => castTop (ef_2 m q1) k
  have s5 : ∀ t, Steps p.tables e below (s₁.setTop (mkF m 22 #[.val (.int q1), .val (.int (q1 ||| (32 : Int32))), .unset, .unset, .unset, .unset, .unset] [(.int (own_letter q1))])) t → Steps p.tables e below (s₁.setTop (mkF m 5 #[.val (.int q1), .val (.int (q1 ||| (32 : Int32))), .unset, .unset, .unset, .unset, .unset] [])) t := by
    intro t k
    refine XS.iloadN X0.here hx rfl (hb hby d2_5) rfl ?_
    show Steps p.tables e below (s₁.setTop (mkF m 6 #[.val (.int q1), .val (.int (q1 ||| (32 : Int32))), .unset, .unset, .unset, .unset, .unset] [(.int (q1 ||| (32 : Int32)))])) _
    refine XS.bipush X0.here hx rfl (hb hby d2_6) ?_
    show Steps p.tables e below (s₁.setTop (mkF m 8 #[.val (.int q1), .val (.int (q1 ||| (32 : Int32))), .unset, .unset, .unset, .unset, .unset] [(.int (97 : Int32)), (.int (q1 ||| (32 : Int32)))])) _
    by_cases h8 : (q1 ||| (32 : Int32)) < (97 : Int32)
    · refine XS.icmpYes X0.here hx rfl (pc0 := 8) (pc' := 21) rfl (hb hby d2_8) rfl (tlt h8).1 (by decide) (by decide) ?_
      show Steps p.tables e below (s₁.setTop (mkF m 21 #[.val (.int q1), .val (.int (q1 ||| (32 : Int32))), .unset, .unset, .unset, .unset, .unset] [])) _
      refine XS.iconst X0.here hx rfl (hb hby d2_21) ?_
      show Steps p.tables e below (s₁.setTop (mkF m 22 #[.val (.int q1), .val (.int (q1 ||| (32 : Int32))), .unset, .unset, .unset, .unset, .unset] [(.int (0 : Int32))])) _
      unfold own_letter at k
      rw [if_pos h8] at k
      exact k
    · refine XS.icmpNo X0.here hx rfl (hb hby d2_8) rfl (flt h8).1 ?_
      show Steps p.tables e below (s₁.setTop (mkF m 11 #[.val (.int q1), .val (.int (q1 ||| (32 : Int32))), .unset, .unset, .unset, .unset, .unset] [])) _
      refine XS.iloadN X0.here hx rfl (hb hby d2_11) rfl ?_
      show Steps p.tables e below (s₁.setTop (mkF m 12 #[.val (.int q1), .val (.int (q1 ||| (32 : Int32))), .unset, .unset, .unset, .unset, .unset] [(.int (q1 ||| (32 : Int32)))])) _
      refine XS.bipush X0.here hx rfl (hb hby d2_12) ?_
      show Steps p.tables e below (s₁.setTop (mkF m 14 #[.val (.int q1), .val (.int (q1 ||| (32 : Int32))), .unset, .unset, .unset, .unset, .unset] [(.int (122 : Int32)), (.int (q1 ||| (32 : Int32)))])) _
      by_cases h14 : (122 : Int32) < (q1 ||| (32 : Int32))
      · refine XS.icmpYes X0.here hx rfl (pc0 := 14) (pc' := 21) rfl (hb hby d2_14) rfl (tlt h14).2.2.1 (by decide) (by decide) ?_
        show Steps p.tables e below (s₁.setTop (mkF m 21 #[.val (.int q1), .val (.int (q1 ||| (32 : Int32))), .unset, .unset, .unset, .unset, .unset] [])) _
        refine XS.iconst X0.here hx rfl (hb hby d2_21) ?_
        show Steps p.tables e below (s₁.setTop (mkF m 22 #[.val (.int q1), .val (.int (q1 ||| (32 : Int32))), .unset, .unset, .unset, .unset, .unset] [(.int (0 : Int32))])) _
        unfold own_letter at k
        rw [if_neg h8, if_pos h14] at k
        exact k
      · refine XS.icmpNo X0.here hx rfl (hb hby d2_14) rfl (flt h14).2.2.1 ?_
        show Steps p.tables e below (s₁.setTop (mkF m 17 #[.val (.int q1), .val (.int (q1 ||| (32 : Int32))), .unset, .unset, .unset, .unset, .unset] [])) _
        refine XS.iconst X0.here hx rfl (hb hby d2_17) ?_
        show Steps p.tables e below (s₁.setTop (mkF m 18 #[.val (.int q1), .val (.int (q1 ||| (32 : Int32))), .unset, .unset, .unset, .unset, .unset] [(.int (1 : Int32))])) _
        refine XS.goto X0.here hx rfl (pc0 := 18) (pc' := 22) rfl (hb hby d2_18) (by decide) (by decide) ?_
        show Steps p.tables e below (s₁.setTop (mkF m 22 #[.val (.int q1), .val (.int (q1 ||| (32 : Int32))), .unset, .unset, .unset, .unset, .unset] [(.int (1 : Int32))])) _
        unfold own_letter at k
        rw [if_neg h8, if_neg h14] at k
        exact k
  have s30 : ∀ t, Steps p.tables e below (s₁.setTop (mkF m 49 #[.val (.int q1), .val (.int (q1 ||| (32 : Int32))), .val (.int (own_letter q1)), .val (.long (q1.toInt64 - (48 : Int64))), .second, .unset, .unset] [(.int (own_digit q1))])) t → Steps p.tables e below (s₁.setTop (mkF m 30 #[.val (.int q1), .val (.int (q1 ||| (32 : Int32))), .val (.int (own_letter q1)), .val (.long (q1.toInt64 - (48 : Int64))), .second, .unset, .unset] [])) t := by
    intro t k
    refine XS.lloadN X0.here hx rfl (hb hby d2_30) rfl ?_
    show Steps p.tables e below (s₁.setTop (mkF m 31 #[.val (.int q1), .val (.int (q1 ||| (32 : Int32))), .val (.int (own_letter q1)), .val (.long (q1.toInt64 - (48 : Int64))), .second, .unset, .unset] [(.long (q1.toInt64 - (48 : Int64)))])) _
    refine XS.lconst X0.here hx rfl (hb hby d2_31) ?_
    show Steps p.tables e below (s₁.setTop (mkF m 32 #[.val (.int q1), .val (.int (q1 ||| (32 : Int32))), .val (.int (own_letter q1)), .val (.long (q1.toInt64 - (48 : Int64))), .second, .unset, .unset] [(.long (0 : Int64)), (.long (q1.toInt64 - (48 : Int64)))])) _
    refine XS.lcmp X0.here hx rfl (hb hby d2_32) rfl ?_
    show Steps p.tables e below (s₁.setTop (mkF m 33 #[.val (.int q1), .val (.int (q1 ||| (32 : Int32))), .val (.int (own_letter q1)), .val (.long (q1.toInt64 - (48 : Int64))), .second, .unset, .unset] [(.int (lcmpW (q1.toInt64 - (48 : Int64)) (0 : Int64)))])) _
    by_cases h33 : (q1.toInt64 - (48 : Int64)) < (0 : Int64)
    · refine XS.ifYes X0.here hx rfl (pc0 := 33) (pc' := 48) rfl (hb hby d2_33) rfl ((if0 _ _).trans (tlt ((lw_lt _ _).mpr h33)).1) (by decide) (by decide) ?_
      show Steps p.tables e below (s₁.setTop (mkF m 48 #[.val (.int q1), .val (.int (q1 ||| (32 : Int32))), .val (.int (own_letter q1)), .val (.long (q1.toInt64 - (48 : Int64))), .second, .unset, .unset] [])) _
      refine XS.iconst X0.here hx rfl (hb hby d2_48) ?_
      show Steps p.tables e below (s₁.setTop (mkF m 49 #[.val (.int q1), .val (.int (q1 ||| (32 : Int32))), .val (.int (own_letter q1)), .val (.long (q1.toInt64 - (48 : Int64))), .second, .unset, .unset] [(.int (0 : Int32))])) _
      unfold own_digit at k
      rw [if_pos h33] at k
      exact k
    · refine XS.ifNo X0.here hx rfl (hb hby d2_33) rfl ((if0 _ _).trans (flt (fun q => h33 ((lw_lt _ _).mp q))).1) ?_
      show Steps p.tables e below (s₁.setTop (mkF m 36 #[.val (.int q1), .val (.int (q1 ||| (32 : Int32))), .val (.int (own_letter q1)), .val (.long (q1.toInt64 - (48 : Int64))), .second, .unset, .unset] [])) _
      refine XS.lloadN X0.here hx rfl (hb hby d2_36) rfl ?_
      show Steps p.tables e below (s₁.setTop (mkF m 37 #[.val (.int q1), .val (.int (q1 ||| (32 : Int32))), .val (.int (own_letter q1)), .val (.long (q1.toInt64 - (48 : Int64))), .second, .unset, .unset] [(.long (q1.toInt64 - (48 : Int64)))])) _
      refine X0.ldc2Long hx hown (mvT hZ (hw _ (List.mem_of_getElem? (i := 9) rfl))) (g := (mkF m 37 #[.val (.int q1), .val (.int (q1 ||| (32 : Int32))), .val (.int (own_letter q1)), .val (.long (q1.toInt64 - (48 : Int64))), .second, .unset, .unset] [(.long (q1.toInt64 - (48 : Int64)))])) rfl (hb hby d2_37) _ ?_
      show Steps p.tables e below (s₁.setTop (mkF m 40 #[.val (.int q1), .val (.int (q1 ||| (32 : Int32))), .val (.int (own_letter q1)), .val (.long (q1.toInt64 - (48 : Int64))), .second, .unset, .unset] [(.long (10 : Int64)), (.long (q1.toInt64 - (48 : Int64)))])) _
      refine XS.lcmp X0.here hx rfl (hb hby d2_40) rfl ?_
      show Steps p.tables e below (s₁.setTop (mkF m 41 #[.val (.int q1), .val (.int (q1 ||| (32 : Int32))), .val (.int (own_letter q1)), .val (.long (q1.toInt64 - (48 : Int64))), .second, .unset, .unset] [(.int (lcmpW (q1.toInt64 - (48 : Int64)) (10 : Int64)))])) _
      by_cases h41 : (q1.toInt64 - (48 : Int64)) < (10 : Int64)
      · refine XS.ifNo X0.here hx rfl (hb hby d2_41) rfl ((if0 _ _).trans (tlt ((lw_lt _ _).mpr h41)).2.1) ?_
        show Steps p.tables e below (s₁.setTop (mkF m 44 #[.val (.int q1), .val (.int (q1 ||| (32 : Int32))), .val (.int (own_letter q1)), .val (.long (q1.toInt64 - (48 : Int64))), .second, .unset, .unset] [])) _
        refine XS.iconst X0.here hx rfl (hb hby d2_44) ?_
        show Steps p.tables e below (s₁.setTop (mkF m 45 #[.val (.int q1), .val (.int (q1 ||| (32 : Int32))), .val (.int (own_letter q1)), .val (.long (q1.toInt64 - (48 : Int64))), .second, .unset, .unset] [(.int (1 : Int32))])) _
        refine XS.goto X0.here hx rfl (pc0 := 45) (pc' := 49) rfl (hb hby d2_45) (by decide) (by decide) ?_
        show Steps p.tables e below (s₁.setTop (mkF m 49 #[.val (.int q1), .val (.int (q1 ||| (32 : Int32))), .val (.int (own_letter q1)), .val (.long (q1.toInt64 - (48 : Int64))), .second, .unset, .unset] [(.int (1 : Int32))])) _
        unfold own_digit at k
        rw [if_neg h33, if_pos h41] at k
        exact k
      · refine XS.ifYes X0.here hx rfl (pc0 := 41) (pc' := 48) rfl (hb hby d2_41) rfl ((if0 _ _).trans (flt (fun q => h41 ((lw_lt _ _).mp q))).2.1) (by decide) (by decide) ?_
        show Steps p.tables e below (s₁.setTop (mkF m 48 #[.val (.int q1), .val (.int (q1 ||| (32 : Int32))), .val (.int (own_letter q1)), .val (.long (q1.toInt64 - (48 : Int64))), .second, .unset, .unset] [])) _
        refine XS.iconst X0.here hx rfl (hb hby d2_48) ?_
        show Steps p.tables e below (s₁.setTop (mkF m 49 #[.val (.int q1), .val (.int (q1 ||| (32 : Int32))), .val (.int (own_letter q1)), .val (.long (q1.toInt64 - (48 : Int64))), .second, .unset, .unset] [(.int (0 : Int32))])) _
        unfold own_digit at k
        rw [if_neg h33, if_neg h41] at k
        exact k
  have s51 : ∀ t, Steps p.tables e below (s₁.setTop (mkF m 74 #[.val (.int q1), .val (.int (q1 ||| (32 : Int32))), .val (.int (own_letter q1)), .val (.long (q1.toInt64 - (48 : Int64))), .second, .val (.int (own_digit q1)), .unset] [(.int (own_punct q1))])) t → Steps p.tables e below (s₁.setTop (mkF m 51 #[.val (.int q1), .val (.int (q1 ||| (32 : Int32))), .val (.int (own_letter q1)), .val (.long (q1.toInt64 - (48 : Int64))), .second, .val (.int (own_digit q1)), .unset] [])) t := by
    intro t k
    refine XS.iloadN X0.here hx rfl (hb hby d2_51) rfl ?_
    show Steps p.tables e below (s₁.setTop (mkF m 52 #[.val (.int q1), .val (.int (q1 ||| (32 : Int32))), .val (.int (own_letter q1)), .val (.long (q1.toInt64 - (48 : Int64))), .second, .val (.int (own_digit q1)), .unset] [(.int q1)])) _
    refine XS.bipush X0.here hx rfl (hb hby d2_52) ?_
    show Steps p.tables e below (s₁.setTop (mkF m 54 #[.val (.int q1), .val (.int (q1 ||| (32 : Int32))), .val (.int (own_letter q1)), .val (.long (q1.toInt64 - (48 : Int64))), .second, .val (.int (own_digit q1)), .unset] [(.int (46 : Int32)), (.int q1)])) _
    by_cases h54 : q1 = (46 : Int32)
    · refine XS.icmpYes X0.here hx rfl (pc0 := 54) (pc' := 69) rfl (hb hby d2_54) rfl (teq h54).1 (by decide) (by decide) ?_
      show Steps p.tables e below (s₁.setTop (mkF m 69 #[.val (.int q1), .val (.int (q1 ||| (32 : Int32))), .val (.int (own_letter q1)), .val (.long (q1.toInt64 - (48 : Int64))), .second, .val (.int (own_digit q1)), .unset] [])) _
      refine XS.iconst X0.here hx rfl (hb hby d2_69) ?_
      show Steps p.tables e below (s₁.setTop (mkF m 70 #[.val (.int q1), .val (.int (q1 ||| (32 : Int32))), .val (.int (own_letter q1)), .val (.long (q1.toInt64 - (48 : Int64))), .second, .val (.int (own_digit q1)), .unset] [(.int (1 : Int32))])) _
      refine XS.goto X0.here hx rfl (pc0 := 70) (pc' := 74) rfl (hb hby d2_70) (by decide) (by decide) ?_
      show Steps p.tables e below (s₁.setTop (mkF m 74 #[.val (.int q1), .val (.int (q1 ||| (32 : Int32))), .val (.int (own_letter q1)), .val (.long (q1.toInt64 - (48 : Int64))), .second, .val (.int (own_digit q1)), .unset] [(.int (1 : Int32))])) _
      unfold own_punct at k
      rw [if_pos h54] at k
      exact k
    · refine XS.icmpNo X0.here hx rfl (hb hby d2_54) rfl (feq h54).1 ?_
      show Steps p.tables e below (s₁.setTop (mkF m 57 #[.val (.int q1), .val (.int (q1 ||| (32 : Int32))), .val (.int (own_letter q1)), .val (.long (q1.toInt64 - (48 : Int64))), .second, .val (.int (own_digit q1)), .unset] [])) _
      refine XS.iloadN X0.here hx rfl (hb hby d2_57) rfl ?_
      show Steps p.tables e below (s₁.setTop (mkF m 58 #[.val (.int q1), .val (.int (q1 ||| (32 : Int32))), .val (.int (own_letter q1)), .val (.long (q1.toInt64 - (48 : Int64))), .second, .val (.int (own_digit q1)), .unset] [(.int q1)])) _
      refine XS.bipush X0.here hx rfl (hb hby d2_58) ?_
      show Steps p.tables e below (s₁.setTop (mkF m 60 #[.val (.int q1), .val (.int (q1 ||| (32 : Int32))), .val (.int (own_letter q1)), .val (.long (q1.toInt64 - (48 : Int64))), .second, .val (.int (own_digit q1)), .unset] [(.int (95 : Int32)), (.int q1)])) _
      by_cases h60 : q1 = (95 : Int32)
      · refine XS.icmpYes X0.here hx rfl (pc0 := 60) (pc' := 69) rfl (hb hby d2_60) rfl (teq h60).1 (by decide) (by decide) ?_
        show Steps p.tables e below (s₁.setTop (mkF m 69 #[.val (.int q1), .val (.int (q1 ||| (32 : Int32))), .val (.int (own_letter q1)), .val (.long (q1.toInt64 - (48 : Int64))), .second, .val (.int (own_digit q1)), .unset] [])) _
        refine XS.iconst X0.here hx rfl (hb hby d2_69) ?_
        show Steps p.tables e below (s₁.setTop (mkF m 70 #[.val (.int q1), .val (.int (q1 ||| (32 : Int32))), .val (.int (own_letter q1)), .val (.long (q1.toInt64 - (48 : Int64))), .second, .val (.int (own_digit q1)), .unset] [(.int (1 : Int32))])) _
        refine XS.goto X0.here hx rfl (pc0 := 70) (pc' := 74) rfl (hb hby d2_70) (by decide) (by decide) ?_
        show Steps p.tables e below (s₁.setTop (mkF m 74 #[.val (.int q1), .val (.int (q1 ||| (32 : Int32))), .val (.int (own_letter q1)), .val (.long (q1.toInt64 - (48 : Int64))), .second, .val (.int (own_digit q1)), .unset] [(.int (1 : Int32))])) _
        unfold own_punct at k
        rw [if_neg h54, if_pos h60] at k
        exact k
      · refine XS.icmpNo X0.here hx rfl (hb hby d2_60) rfl (feq h60).1 ?_
        show Steps p.tables e below (s₁.setTop (mkF m 63 #[.val (.int q1), .val (.int (q1 ||| (32 : Int32))), .val (.int (own_letter q1)), .val (.long (q1.toInt64 - (48 : Int64))), .second, .val (.int (own_digit q1)), .unset] [])) _
        refine XS.iloadN X0.here hx rfl (hb hby d2_63) rfl ?_
        show Steps p.tables e below (s₁.setTop (mkF m 64 #[.val (.int q1), .val (.int (q1 ||| (32 : Int32))), .val (.int (own_letter q1)), .val (.long (q1.toInt64 - (48 : Int64))), .second, .val (.int (own_digit q1)), .unset] [(.int q1)])) _
        refine XS.bipush X0.here hx rfl (hb hby d2_64) ?_
        show Steps p.tables e below (s₁.setTop (mkF m 66 #[.val (.int q1), .val (.int (q1 ||| (32 : Int32))), .val (.int (own_letter q1)), .val (.long (q1.toInt64 - (48 : Int64))), .second, .val (.int (own_digit q1)), .unset] [(.int (45 : Int32)), (.int q1)])) _
        by_cases h66 : q1 = (45 : Int32)
        · refine XS.icmpNo X0.here hx rfl (hb hby d2_66) rfl (teq h66).2 ?_
          show Steps p.tables e below (s₁.setTop (mkF m 69 #[.val (.int q1), .val (.int (q1 ||| (32 : Int32))), .val (.int (own_letter q1)), .val (.long (q1.toInt64 - (48 : Int64))), .second, .val (.int (own_digit q1)), .unset] [])) _
          refine XS.iconst X0.here hx rfl (hb hby d2_69) ?_
          show Steps p.tables e below (s₁.setTop (mkF m 70 #[.val (.int q1), .val (.int (q1 ||| (32 : Int32))), .val (.int (own_letter q1)), .val (.long (q1.toInt64 - (48 : Int64))), .second, .val (.int (own_digit q1)), .unset] [(.int (1 : Int32))])) _
          refine XS.goto X0.here hx rfl (pc0 := 70) (pc' := 74) rfl (hb hby d2_70) (by decide) (by decide) ?_
          show Steps p.tables e below (s₁.setTop (mkF m 74 #[.val (.int q1), .val (.int (q1 ||| (32 : Int32))), .val (.int (own_letter q1)), .val (.long (q1.toInt64 - (48 : Int64))), .second, .val (.int (own_digit q1)), .unset] [(.int (1 : Int32))])) _
          unfold own_punct at k
          rw [if_neg h54, if_neg h60, if_pos h66] at k
          exact k
        · refine XS.icmpYes X0.here hx rfl (pc0 := 66) (pc' := 73) rfl (hb hby d2_66) rfl (feq h66).2 (by decide) (by decide) ?_
          show Steps p.tables e below (s₁.setTop (mkF m 73 #[.val (.int q1), .val (.int (q1 ||| (32 : Int32))), .val (.int (own_letter q1)), .val (.long (q1.toInt64 - (48 : Int64))), .second, .val (.int (own_digit q1)), .unset] [])) _
          refine XS.iconst X0.here hx rfl (hb hby d2_73) ?_
          show Steps p.tables e below (s₁.setTop (mkF m 74 #[.val (.int q1), .val (.int (q1 ||| (32 : Int32))), .val (.int (own_letter q1)), .val (.long (q1.toInt64 - (48 : Int64))), .second, .val (.int (own_digit q1)), .unset] [(.int (0 : Int32))])) _
          unfold own_punct at k
          rw [if_neg h54, if_neg h60, if_neg h66] at k
          exact k
  have s76 : ∀ t, Steps p.tables e below (s₁.setTop (mkF m 95 #[.val (.int q1), .val (.int (q1 ||| (32 : Int32))), .val (.int (own_letter q1)), .val (.long (q1.toInt64 - (48 : Int64))), .second, .val (.int (own_digit q1)), .val (.int (own_punct q1))] [(.int (own_rf q1))])) t → Steps p.tables e below (s₁.setTop (mkF m 76 #[.val (.int q1), .val (.int (q1 ||| (32 : Int32))), .val (.int (own_letter q1)), .val (.long (q1.toInt64 - (48 : Int64))), .second, .val (.int (own_digit q1)), .val (.int (own_punct q1))] [])) t := by
    intro t k
    refine XS.iloadN X0.here hx rfl (hb hby d2_76) rfl ?_
    show Steps p.tables e below (s₁.setTop (mkF m 77 #[.val (.int q1), .val (.int (q1 ||| (32 : Int32))), .val (.int (own_letter q1)), .val (.long (q1.toInt64 - (48 : Int64))), .second, .val (.int (own_digit q1)), .val (.int (own_punct q1))] [(.int (own_letter q1))])) _
    by_cases h77 : (own_letter q1) = (0 : Int32)
    · refine XS.ifNo X0.here hx rfl (hb hby d2_77) rfl ((if0 _ _).trans (teq h77).2) ?_
      show Steps p.tables e below (s₁.setTop (mkF m 80 #[.val (.int q1), .val (.int (q1 ||| (32 : Int32))), .val (.int (own_letter q1)), .val (.long (q1.toInt64 - (48 : Int64))), .second, .val (.int (own_digit q1)), .val (.int (own_punct q1))] [])) _
      refine XS.iload X0.here hx rfl (hb hby d2_80) rfl ?_
      show Steps p.tables e below (s₁.setTop (mkF m 82 #[.val (.int q1), .val (.int (q1 ||| (32 : Int32))), .val (.int (own_letter q1)), .val (.long (q1.toInt64 - (48 : Int64))), .second, .val (.int (own_digit q1)), .val (.int (own_punct q1))] [(.int (own_digit q1))])) _
      by_cases h82 : (own_digit q1) = (0 : Int32)
      · refine XS.ifNo X0.here hx rfl (hb hby d2_82) rfl ((if0 _ _).trans (teq h82).2) ?_
        show Steps p.tables e below (s₁.setTop (mkF m 85 #[.val (.int q1), .val (.int (q1 ||| (32 : Int32))), .val (.int (own_letter q1)), .val (.long (q1.toInt64 - (48 : Int64))), .second, .val (.int (own_digit q1)), .val (.int (own_punct q1))] [])) _
        refine XS.iload X0.here hx rfl (hb hby d2_85) rfl ?_
        show Steps p.tables e below (s₁.setTop (mkF m 87 #[.val (.int q1), .val (.int (q1 ||| (32 : Int32))), .val (.int (own_letter q1)), .val (.long (q1.toInt64 - (48 : Int64))), .second, .val (.int (own_digit q1)), .val (.int (own_punct q1))] [(.int (own_punct q1))])) _
        by_cases h87 : (own_punct q1) = (0 : Int32)
        · refine XS.ifYes X0.here hx rfl (pc0 := 87) (pc' := 94) rfl (hb hby d2_87) rfl ((if0 _ _).trans (teq h87).1) (by decide) (by decide) ?_
          show Steps p.tables e below (s₁.setTop (mkF m 94 #[.val (.int q1), .val (.int (q1 ||| (32 : Int32))), .val (.int (own_letter q1)), .val (.long (q1.toInt64 - (48 : Int64))), .second, .val (.int (own_digit q1)), .val (.int (own_punct q1))] [])) _
          refine XS.iconst X0.here hx rfl (hb hby d2_94) ?_
          show Steps p.tables e below (s₁.setTop (mkF m 95 #[.val (.int q1), .val (.int (q1 ||| (32 : Int32))), .val (.int (own_letter q1)), .val (.long (q1.toInt64 - (48 : Int64))), .second, .val (.int (own_digit q1)), .val (.int (own_punct q1))] [(.int (0 : Int32))])) _
          unfold own_rf at k
          rw [if_pos h77, if_pos h82, if_pos h87] at k
          exact k
        · refine XS.ifNo X0.here hx rfl (hb hby d2_87) rfl ((if0 _ _).trans (feq h87).1) ?_
          show Steps p.tables e below (s₁.setTop (mkF m 90 #[.val (.int q1), .val (.int (q1 ||| (32 : Int32))), .val (.int (own_letter q1)), .val (.long (q1.toInt64 - (48 : Int64))), .second, .val (.int (own_digit q1)), .val (.int (own_punct q1))] [])) _
          refine XS.iconst X0.here hx rfl (hb hby d2_90) ?_
          show Steps p.tables e below (s₁.setTop (mkF m 91 #[.val (.int q1), .val (.int (q1 ||| (32 : Int32))), .val (.int (own_letter q1)), .val (.long (q1.toInt64 - (48 : Int64))), .second, .val (.int (own_digit q1)), .val (.int (own_punct q1))] [(.int (1 : Int32))])) _
          refine XS.goto X0.here hx rfl (pc0 := 91) (pc' := 95) rfl (hb hby d2_91) (by decide) (by decide) ?_
          show Steps p.tables e below (s₁.setTop (mkF m 95 #[.val (.int q1), .val (.int (q1 ||| (32 : Int32))), .val (.int (own_letter q1)), .val (.long (q1.toInt64 - (48 : Int64))), .second, .val (.int (own_digit q1)), .val (.int (own_punct q1))] [(.int (1 : Int32))])) _
          unfold own_rf at k
          rw [if_pos h77, if_pos h82, if_neg h87] at k
          exact k
      · refine XS.ifYes X0.here hx rfl (pc0 := 82) (pc' := 90) rfl (hb hby d2_82) rfl ((if0 _ _).trans (feq h82).2) (by decide) (by decide) ?_
        show Steps p.tables e below (s₁.setTop (mkF m 90 #[.val (.int q1), .val (.int (q1 ||| (32 : Int32))), .val (.int (own_letter q1)), .val (.long (q1.toInt64 - (48 : Int64))), .second, .val (.int (own_digit q1)), .val (.int (own_punct q1))] [])) _
        refine XS.iconst X0.here hx rfl (hb hby d2_90) ?_
        show Steps p.tables e below (s₁.setTop (mkF m 91 #[.val (.int q1), .val (.int (q1 ||| (32 : Int32))), .val (.int (own_letter q1)), .val (.long (q1.toInt64 - (48 : Int64))), .second, .val (.int (own_digit q1)), .val (.int (own_punct q1))] [(.int (1 : Int32))])) _
        refine XS.goto X0.here hx rfl (pc0 := 91) (pc' := 95) rfl (hb hby d2_91) (by decide) (by decide) ?_
        show Steps p.tables e below (s₁.setTop (mkF m 95 #[.val (.int q1), .val (.int (q1 ||| (32 : Int32))), .val (.int (own_letter q1)), .val (.long (q1.toInt64 - (48 : Int64))), .second, .val (.int (own_digit q1)), .val (.int (own_punct q1))] [(.int (1 : Int32))])) _
        unfold own_rf at k
        rw [if_pos h77, if_neg h82] at k
        exact k
    · refine XS.ifYes X0.here hx rfl (pc0 := 77) (pc' := 90) rfl (hb hby d2_77) rfl ((if0 _ _).trans (feq h77).2) (by decide) (by decide) ?_
      show Steps p.tables e below (s₁.setTop (mkF m 90 #[.val (.int q1), .val (.int (q1 ||| (32 : Int32))), .val (.int (own_letter q1)), .val (.long (q1.toInt64 - (48 : Int64))), .second, .val (.int (own_digit q1)), .val (.int (own_punct q1))] [])) _
      refine XS.iconst X0.here hx rfl (hb hby d2_90) ?_
      show Steps p.tables e below (s₁.setTop (mkF m 91 #[.val (.int q1), .val (.int (q1 ||| (32 : Int32))), .val (.int (own_letter q1)), .val (.long (q1.toInt64 - (48 : Int64))), .second, .val (.int (own_digit q1)), .val (.int (own_punct q1))] [(.int (1 : Int32))])) _
      refine XS.goto X0.here hx rfl (pc0 := 91) (pc' := 95) rfl (hb hby d2_91) (by decide) (by decide) ?_
      show Steps p.tables e below (s₁.setTop (mkF m 95 #[.val (.int q1), .val (.int (q1 ||| (32 : Int32))), .val (.int (own_letter q1)), .val (.long (q1.toInt64 - (48 : Int64))), .second, .val (.int (own_digit q1)), .val (.int (own_punct q1))] [(.int (1 : Int32))])) _
      unfold own_rf at k
      rw [if_neg h77] at k
      exact k
  obtain ⟨fs, hr, hrun, hended, hW, hsame⟩ := X0.leave (v := some (.int (nar .boolean (own_rf q1)))) (fun h => by rw [Bd.returns] at h; cases h)
  refine ⟨_, _, pre0 _ ?_, hrun, hended, _, _, rfl, ?_, ⟨_, rfl⟩, hW, hsame.mono (by decide) (by decide)⟩
  · show Steps p.tables e below (s₁.setTop (mkF m 0 #[.val (.int q1), .unset, .unset, .unset, .unset, .unset, .unset] [])) _
    refine XS.iloadN X0.here hx rfl (hb hby d2_0) rfl ?_
    show Steps p.tables e below (s₁.setTop (mkF m 1 #[.val (.int q1), .unset, .unset, .unset, .unset, .unset, .unset] [(.int q1)])) _
    refine XS.bipush X0.here hx rfl (hb hby d2_1) ?_
    show Steps p.tables e below (s₁.setTop (mkF m 3 #[.val (.int q1), .unset, .unset, .unset, .unset, .unset, .unset] [(.int (32 : Int32)), (.int q1)])) _
    refine XS.ior X0.here hx rfl (hb hby d2_3) rfl ?_
    show Steps p.tables e below (s₁.setTop (mkF m 4 #[.val (.int q1), .unset, .unset, .unset, .unset, .unset, .unset] [(.int (q1 ||| (32 : Int32)))])) _
    refine XS.istoreN X0.here hx rfl (hb hby d2_4) rfl (l' := #[.val (.int q1), .val (.int (q1 ||| (32 : Int32))), .unset, .unset, .unset, .unset, .unset]) rfl ?_
    show Steps p.tables e below (s₁.setTop (mkF m 5 #[.val (.int q1), .val (.int (q1 ||| (32 : Int32))), .unset, .unset, .unset, .unset, .unset] [])) _
    refine s5 _ ?_
    show Steps p.tables e below (s₁.setTop (mkF m 22 #[.val (.int q1), .val (.int (q1 ||| (32 : Int32))), .unset, .unset, .unset, .unset, .unset] [(.int (own_letter q1))])) _
    refine XS.istoreN X0.here hx rfl (hb hby d2_22) rfl (l' := #[.val (.int q1), .val (.int (q1 ||| (32 : Int32))), .val (.int (own_letter q1)), .unset, .unset, .unset, .unset]) rfl ?_
    show Steps p.tables e below (s₁.setTop (mkF m 23 #[.val (.int q1), .val (.int (q1 ||| (32 : Int32))), .val (.int (own_letter q1)), .unset, .unset, .unset, .unset] [])) _
    refine XS.iloadN X0.here hx rfl (hb hby d2_23) rfl ?_
    show Steps p.tables e below (s₁.setTop (mkF m 24 #[.val (.int q1), .val (.int (q1 ||| (32 : Int32))), .val (.int (own_letter q1)), .unset, .unset, .unset, .unset] [(.int q1)])) _
    refine XS.i2l X0.here hx rfl (hb hby d2_24) rfl ?_
    show Steps p.tables e below (s₁.setTop (mkF m 25 #[.val (.int q1), .val (.int (q1 ||| (32 : Int32))), .val (.int (own_letter q1)), .unset, .unset, .unset, .unset] [(.long q1.toInt64)])) _
    refine X0.ldc2Long hx hown (mvT hZ (hw _ (List.mem_of_getElem? (i := 8) rfl))) (g := (mkF m 25 #[.val (.int q1), .val (.int (q1 ||| (32 : Int32))), .val (.int (own_letter q1)), .unset, .unset, .unset, .unset] [(.long q1.toInt64)])) rfl (hb hby d2_25) _ ?_
    show Steps p.tables e below (s₁.setTop (mkF m 28 #[.val (.int q1), .val (.int (q1 ||| (32 : Int32))), .val (.int (own_letter q1)), .unset, .unset, .unset, .unset] [(.long (48 : Int64)), (.long q1.toInt64)])) _
    refine XS.lsub X0.here hx rfl (hb hby d2_28) rfl ?_
    show Steps p.tables e below (s₁.setTop (mkF m 29 #[.val (.int q1), .val (.int (q1 ||| (32 : Int32))), .val (.int (own_letter q1)), .unset, .unset, .unset, .unset] [(.long (q1.toInt64 - (48 : Int64)))])) _
    refine XS.lstoreN X0.here hx rfl (hb hby d2_29) rfl (l' := #[.val (.int q1), .val (.int (q1 ||| (32 : Int32))), .val (.int (own_letter q1)), .val (.long (q1.toInt64 - (48 : Int64))), .second, .unset, .unset]) rfl ?_
    show Steps p.tables e below (s₁.setTop (mkF m 30 #[.val (.int q1), .val (.int (q1 ||| (32 : Int32))), .val (.int (own_letter q1)), .val (.long (q1.toInt64 - (48 : Int64))), .second, .unset, .unset] [])) _
    refine s30 _ ?_
    show Steps p.tables e below (s₁.setTop (mkF m 49 #[.val (.int q1), .val (.int (q1 ||| (32 : Int32))), .val (.int (own_letter q1)), .val (.long (q1.toInt64 - (48 : Int64))), .second, .unset, .unset] [(.int (own_digit q1))])) _
    refine XS.istore X0.here hx rfl (hb hby d2_49) rfl (l' := #[.val (.int q1), .val (.int (q1 ||| (32 : Int32))), .val (.int (own_letter q1)), .val (.long (q1.toInt64 - (48 : Int64))), .second, .val (.int (own_digit q1)), .unset]) rfl ?_
    show Steps p.tables e below (s₁.setTop (mkF m 51 #[.val (.int q1), .val (.int (q1 ||| (32 : Int32))), .val (.int (own_letter q1)), .val (.long (q1.toInt64 - (48 : Int64))), .second, .val (.int (own_digit q1)), .unset] [])) _
    refine s51 _ ?_
    show Steps p.tables e below (s₁.setTop (mkF m 74 #[.val (.int q1), .val (.int (q1 ||| (32 : Int32))), .val (.int (own_letter q1)), .val (.long (q1.toInt64 - (48 : Int64))), .second, .val (.int (own_digit q1)), .unset] [(.int (own_punct q1))])) _
    refine XS.istore X0.here hx rfl (hb hby d2_74) rfl (l' := #[.val (.int q1), .val (.int (q1 ||| (32 : Int32))), .val (.int (own_letter q1)), .val (.long (q1.toInt64 - (48 : Int64))), .second, .val (.int (own_digit q1)), .val (.int (own_punct q1))]) rfl ?_
    show Steps p.tables e below (s₁.setTop (mkF m 76 #[.val (.int q1), .val (.int (q1 ||| (32 : Int32))), .val (.int (own_letter q1)), .val (.long (q1.toInt64 - (48 : Int64))), .second, .val (.int (own_digit q1)), .val (.int (own_punct q1))] [])) _
    refine s76 _ ?_
    show Steps p.tables e below (s₁.setTop (mkF m 95 #[.val (.int q1), .val (.int (q1 ||| (32 : Int32))), .val (.int (own_letter q1)), .val (.long (q1.toInt64 - (48 : Int64))), .second, .val (.int (own_digit q1)), .val (.int (own_punct q1))] [(.int (own_rf q1))])) _
    exact retN X0 hx (t := .boolean) Bd.returns (by simp) (hb hby d2_95) hr
  · show Q2 Z q1 h0 n0 _ s₁.heap _
    rw [e0]
    exact ⟨rfl, N0, rfl⟩
theorem own_small : ∀ k : Fin 128, own_nc0 (Int32.ofNat k.val) = own_rf (Int32.ofNat k.val) := by decide +kernel
theorem own_ltz {x k : Int32} (n m : Int) (hx : x.toInt = n) (hk : k.toInt = m) (h : n < m) : x < k := by rw [Int32.lt_iff_toInt_lt, hx, hk]; exact h
theorem own_nlt {x k : Int32} (n m : Int) (hx : x.toInt = n) (hk : k.toInt = m) (h : ¬ n < m) : ¬ x < k := by rw [Int32.lt_iff_toInt_lt, hx, hk]; exact h
theorem own_ne {x k : Int32} (n m : Int) (hx : x.toInt = n) (hk : k.toInt = m) (h : ¬ n = m) : ¬ x = k := by rintro rfl; exact h (hx.symm.trans hk)
theorem own_ltL {x k : Int64} (n m : Int) (hx : x.toInt = n) (hk : k.toInt = m) (h : n < m) : x < k := by rw [Int64.lt_iff_toInt_lt, hx, hk]; exact h
theorem own_nltL {x k : Int64} (n m : Int) (hx : x.toInt = n) (hk : k.toInt = m) (h : ¬ n < m) : ¬ x < k := by rw [Int64.lt_iff_toInt_lt, hx, hk]; exact h
theorem own_dig (x : Int32) : (x.toInt64 - (48 : Int64)).toInt = x.toInt - 48 := by
  have a := c_lsub x.toInt64 48
  have b := rng64 (x.toInt64 - 48)
  have c := c_i2l x
  have d : (48 : Int64).toInt = 48 := by decide
  have e := rng32 x
  rw [d, c] at a
  omega
theorem own_same (x : Int32) : own_nc0 x = own_rf x := by
  have r := rng32 x
  have D := own_dig x
  by_cases h1 : x.toInt < 0
  · have f := (c_orS x 32).2.1 h1
    have a0 : x < 65 := own_ltz _ 65 rfl (by decide) (by omega)
    have a1 : x < 97 := own_ltz _ 97 rfl (by decide) (by omega)
    have a2 : x < 48 := own_ltz _ 48 rfl (by decide) (by omega)
    have b1 : ¬ x = 46 := own_ne _ 46 rfl (by decide) (by omega)
    have b2 : ¬ x = 95 := own_ne _ 95 rfl (by decide) (by omega)
    have b3 : ¬ x = 45 := own_ne _ 45 rfl (by decide) (by omega)
    have c1 : x ||| 32 < 97 := own_ltz _ 97 rfl (by decide) (by omega)
    have d1 : x.toInt64 - 48 < 0 := own_ltL _ 0 D (by decide) (by omega)
    simp [own_nc0, own_nc12, own_nc24, own_nc36, own_rf, own_letter, own_digit, own_punct, a0, a1, a2, b1, b2, b3, c1, d1]
  · by_cases h2 : x.toInt < 128
    · have e : x = Int32.ofNat x.toInt.toNat := by
        refine Int32.toInt_inj.mp ?_
        rw [Int32.toInt_ofNat_small (by omega)]
        omega
      have q := own_small ⟨x.toInt.toNat, by omega⟩
      rw [← e] at q
      exact q
    · have f := (c_or0 x 32 (by omega) (by decide)).1
      have a0 : ¬ x < 65 := own_nlt _ 65 rfl (by decide) (by omega)
      have a1 : ¬ x < 97 := own_nlt _ 97 rfl (by decide) (by omega)
      have a2 : ¬ x < 48 := own_nlt _ 48 rfl (by decide) (by omega)
      have a3 : (90 : Int32) < x := own_ltz 90 _ (by decide) rfl (by omega)
      have a4 : (122 : Int32) < x := own_ltz 122 _ (by decide) rfl (by omega)
      have a5 : (57 : Int32) < x := own_ltz 57 _ (by decide) rfl (by omega)
      have b1 : ¬ x = 46 := own_ne _ 46 rfl (by decide) (by omega)
      have b2 : ¬ x = 95 := own_ne _ 95 rfl (by decide) (by omega)
      have b3 : ¬ x = 45 := own_ne _ 45 rfl (by decide) (by omega)
      have c1 : ¬ x ||| 32 < 97 := own_nlt _ 97 rfl (by decide) (by omega)
      have c2 : 122 < x ||| 32 := own_ltz 122 _ (by decide) rfl (by omega)
      have d1 : ¬ x.toInt64 - 48 < 0 := own_nltL _ 0 D (by decide) (by omega)
      have d2 : ¬ x.toInt64 - 48 < 10 := own_nltL _ 10 D (by decide) (by omega)
      simp [own_nc0, own_nc12, own_nc24, own_nc36, own_rf, own_letter, own_digit, own_punct, a0, a1, a2, a3, a4, a5, b1, b2, b3, c1, c2, d1, d2]
theorem pn_0 : plainName "com/example/caerus/caerus/core/NamespaceIsNameCharacterPinLaw" = true := by first | (simp [plainName, overriddenIn]; done) | decide +kernel
theorem ef_0 (m : MethodId) (q1 : Int32) (q2 : Int32) : entryFrame m #[(.int q1), (.int q2)] maxLocals = mkF m 0 #[.val (.int q1), .val (.int q2), .unset, .unset] [] := by first | (simp [entryFrame, mkF, argsToLocals, Value.category, maxLocals]; done) | rfl
def Q0 (Z : State) (q1 q2 : Int32) (h0 : Heap) (n0 : Nat) (v : Option Value) (h : Heap) (L : List Loc) : Prop := v = some (.int 1) ∧ Fr n0 L
def own_pick (q1 : Int32) (q2 : Int32) : Int32 := (if (q2 &&& (1 : Int32)) = (0 : Int32) then q1 else ((q1 &&& (511 : Int32)) - (128 : Int32)))
set_option maxRecDepth 65536 in
set_option maxHeartbeats 40000000 in
theorem rm0 (l : Launch) (Z : State) (a0 : Array Value) (hw : ∀ d ∈ tables_1, d.before a0 Z = true) (ws : List Jvm.Cond) (q1 : Int32) (q2 : Int32)  (h0 : Heap) (n0 : Nat) (Z0 : n0 ≤ h0.size)  :
    MetFree l x (head1 (Jvm.Cond.code x code maxLocals ret :: ws) room_1) (fun a U => a = #[(.int q1), (.int q2)] ∧ Z.Warmed39 U.vm ∧ U.heap = h0) (fun _ _ _ _ _ => True) (fun _ U o U' => ∃ v L, o = .returned v ∧ Q0 Z q1 q2  h0 n0 v U'.heap L ∧ FrameEnd U o U' L room_1.cells room_1.slots) := by
  refine MetFree.of_bodySF (plainFor_of_name pn_0) hisR ?_
  intro p e s m args below meth c s₁ Bd hml0 hP hK
  obtain ⟨rfl, hZ, hh⟩ := hP
  have hx := Bd.exec
  have hby := Bd.bytes
  have hml : c.maxLocals = 4 := hml0
  have hown : s.vm.findClass "com/example/caerus/caerus/core/NamespaceIsNameCharacterPinLaw" = some m.cls := findClass_of_methodNamed Bd.named
  have hnm := (name_of_methodNamed Bd.named Bd.method).1
  have X0 : Stand p l e room_1 s m #[(.int q1), (.int q2)] below meth c s₁ [] 0 0 := Stand.of_body Bd
  have e0 : s₁.heap = h0 := by rw [← hh, Bd.state]; rfl
  have N0 := Fr.nil n0
  have pre0 : ∀ t, Steps p.tables e below (s₁.setTop (mkF m 0 #[.val (.int q1), .val (.int q2), .unset, .unset] [])) t → Steps p.tables e below (s₁.setTop (entryFrame m #[(.int q1), (.int q2)] maxLocals)) t := fun t k => castTop (ef_0 m q1 q2) k
  have s0 : ∀ t, Steps p.tables e below (s₁.setTop (mkF m 19 #[.val (.int q1), .val (.int q2), .unset, .unset] [(.int (own_pick q1 q2))])) t → Steps p.tables e below (s₁.setTop (mkF m 0 #[.val (.int q1), .val (.int q2), .unset, .unset] [])) t := by
    intro t k
    refine XS.iloadN X0.here hx rfl (hb hby at_0) rfl ?_
    show Steps p.tables e below (s₁.setTop (mkF m 1 #[.val (.int q1), .val (.int q2), .unset, .unset] [(.int q2)])) _
    refine XS.iconst X0.here hx rfl (hb hby at_1) ?_
    show Steps p.tables e below (s₁.setTop (mkF m 2 #[.val (.int q1), .val (.int q2), .unset, .unset] [(.int (1 : Int32)), (.int q2)])) _
    refine XS.iand X0.here hx rfl (hb hby at_2) rfl ?_
    show Steps p.tables e below (s₁.setTop (mkF m 3 #[.val (.int q1), .val (.int q2), .unset, .unset] [(.int (q2 &&& (1 : Int32)))])) _
    by_cases h3 : (q2 &&& (1 : Int32)) = (0 : Int32)
    · refine XS.ifNo X0.here hx rfl (hb hby at_3) rfl ((if0 _ _).trans (teq h3).2) ?_
      show Steps p.tables e below (s₁.setTop (mkF m 6 #[.val (.int q1), .val (.int q2), .unset, .unset] [])) _
      refine XS.iloadN X0.here hx rfl (hb hby at_6) rfl ?_
      show Steps p.tables e below (s₁.setTop (mkF m 7 #[.val (.int q1), .val (.int q2), .unset, .unset] [(.int q1)])) _
      refine XS.goto X0.here hx rfl (pc0 := 7) (pc' := 19) rfl (hb hby at_7) (by decide) (by decide) ?_
      show Steps p.tables e below (s₁.setTop (mkF m 19 #[.val (.int q1), .val (.int q2), .unset, .unset] [(.int q1)])) _
      unfold own_pick at k
      rw [if_pos h3] at k
      exact k
    · refine XS.ifYes X0.here hx rfl (pc0 := 3) (pc' := 10) rfl (hb hby at_3) rfl ((if0 _ _).trans (feq h3).2) (by decide) (by decide) ?_
      show Steps p.tables e below (s₁.setTop (mkF m 10 #[.val (.int q1), .val (.int q2), .unset, .unset] [])) _
      refine XS.iloadN X0.here hx rfl (hb hby at_10) rfl ?_
      show Steps p.tables e below (s₁.setTop (mkF m 11 #[.val (.int q1), .val (.int q2), .unset, .unset] [(.int q1)])) _
      refine XS.sipush X0.here hx rfl (hb hby at_11) ?_
      show Steps p.tables e below (s₁.setTop (mkF m 14 #[.val (.int q1), .val (.int q2), .unset, .unset] [(.int (511 : Int32)), (.int q1)])) _
      refine XS.iand X0.here hx rfl (hb hby at_14) rfl ?_
      show Steps p.tables e below (s₁.setTop (mkF m 15 #[.val (.int q1), .val (.int q2), .unset, .unset] [(.int (q1 &&& (511 : Int32)))])) _
      refine XS.sipush X0.here hx rfl (hb hby at_15) ?_
      show Steps p.tables e below (s₁.setTop (mkF m 18 #[.val (.int q1), .val (.int q2), .unset, .unset] [(.int (128 : Int32)), (.int (q1 &&& (511 : Int32)))])) _
      refine XS.isub X0.here hx rfl (hb hby at_18) rfl ?_
      show Steps p.tables e below (s₁.setTop (mkF m 19 #[.val (.int q1), .val (.int q2), .unset, .unset] [(.int ((q1 &&& (511 : Int32)) - (128 : Int32)))])) _
      unfold own_pick at k
      rw [if_neg h3] at k
      exact k
  obtain ⟨xx, hxx⟩ : ∃ z, z = own_pick q1 q2 := ⟨_, rfl⟩
  rw [← hxx] at s0
  obtain ⟨_, _, ⟨T1, L1, k1, n1⟩, -, X1, ⟨Lc1, hQ1, l1, y1, z1⟩, st1⟩ := Jvm.LawKit.callS X0 hx (y := (⟨"com/example/caerus/caerus/core/Namespace", "isNameCharacter", "(I)Z"⟩ : MethodName)) hown (mvT hZ (hw _ (List.mem_of_getElem? (i := 0) rfl))) (mvT hZ (hw _ (List.mem_of_getElem? (i := 1) rfl))) (mvT hZ (hw _ (List.mem_of_getElem? (i := 2) rfl))) (mvT hZ (hw _ (List.mem_of_getElem? (i := 3) rfl))) (by decide) (backOf (W := 0) (rm1 l Z a0 hw [] xx h0 n0 Z0) hZ (hw _ (List.mem_of_getElem? (i := 3) rfl)) (hw _ (List.mem_of_getElem? (i := 2) rfl)) (by decide) (by decide)) (g := (mkF m 21 #[.val (.int q1), .val (.int q2), .val (.int xx), .unset] [(.int xx)])) rfl (by rw [hml]; rfl) (argsL := [(.int xx)]) (rest := []) (lenOf pd_1 rfl) rfl (by show 2 * 0 + _ ≤ _; exact Nat.le_of_eq rfl) (hb hby at_21) (fun _ _ => ⟨rfl, e0, (by decide : 0 + 0 ≤ _), (by decide : 0 + 0 ≤ _)⟩)
  dsimp only [Pt.U, Pt.locs, Pt.cells, Pt.slots] at X1 l1 y1 z1 st1 hQ1
  subst l1 y1 z1
  obtain ⟨rfl, Nq1, e1⟩ := hQ1
  have N1 := Fr.app N0 Nq1
  obtain ⟨_, _, ⟨T2, L2, k2, n2⟩, -, X2, ⟨Lc2, hQ2, l2, y2, z2⟩, st2⟩ := Jvm.LawKit.callS X1 hx (y := (⟨"com/example/caerus/caerus/core/NamespaceIsNameCharacterPinLaw", "reference", "(I)Z"⟩ : MethodName)) hown (mvT hZ (hw _ (List.mem_of_getElem? (i := 4) rfl))) (mvT hZ (hw _ (List.mem_of_getElem? (i := 5) rfl))) (mvT hZ (hw _ (List.mem_of_getElem? (i := 6) rfl))) (mvT hZ (hw _ (List.mem_of_getElem? (i := 7) rfl))) (by decide) (backOf (W := 1) (rm2 l Z a0 hw [] xx h0 n0 Z0) hZ (hw _ (List.mem_of_getElem? (i := 7) rfl)) (hw _ (List.mem_of_getElem? (i := 6) rfl)) (by decide) (by decide)) (g := (mkF m 27 #[.val (.int q1), .val (.int q2), .val (.int xx), .val (.int (nar .boolean (own_nc0 xx)))] [(.int xx), (.int (nar .boolean (own_nc0 xx)))])) rfl (by rw [hml]; rfl) (argsL := [(.int xx)]) (rest := [(.int (nar .boolean (own_nc0 xx)))]) (lenOf pd_2 rfl) rfl (by show 2 * 0 + _ ≤ _; exact Nat.le_of_eq rfl) (hb hby at_27) (fun _ _ => ⟨rfl, e1, (by decide : 0 + 0 ≤ _), (by decide : 0 + 0 ≤ _)⟩)
  dsimp only [Pt.U, Pt.locs, Pt.cells, Pt.slots] at X2 l2 y2 z2 st2 hQ2
  subst l2 y2 z2
  obtain ⟨rfl, Nq2, e2⟩ := hQ2
  have N2 := Fr.app N1 Nq2
  obtain ⟨fs, hr, hrun, hended, hW, hsame⟩ := X2.leave (v := some (.int (1 : Int32))) (fun h => by rw [Bd.returns] at h; cases h)
  refine ⟨_, _, pre0 _ ?_, hrun, hended, _, _, rfl, ?_, ⟨_, rfl⟩, hW, hsame.mono (by decide) (by decide)⟩
  · show Steps p.tables e below (s₁.setTop (mkF m 0 #[.val (.int q1), .val (.int q2), .unset, .unset] [])) _
    refine s0 _ ?_
    show Steps p.tables e below (s₁.setTop (mkF m 19 #[.val (.int q1), .val (.int q2), .unset, .unset] [(.int xx)])) _
    refine XS.istoreN X0.here hx rfl (hb hby at_19) rfl (l' := #[.val (.int q1), .val (.int q2), .val (.int xx), .unset]) rfl ?_
    show Steps p.tables e below (s₁.setTop (mkF m 20 #[.val (.int q1), .val (.int q2), .val (.int xx), .unset] [])) _
    refine XS.iloadN X0.here hx rfl (hb hby at_20) rfl ?_
    show Steps p.tables e below (s₁.setTop (mkF m 21 #[.val (.int q1), .val (.int q2), .val (.int xx), .unset] [(.int xx)])) _
    refine st1 _ ?_
    show Steps p.tables e below (T1.setTop (mkF m 24 #[.val (.int q1), .val (.int q2), .val (.int xx), .unset] [(.int (nar .boolean (own_nc0 xx)))])) _
    refine XS.istoreN X1.here hx rfl (hb hby at_24) rfl (l' := #[.val (.int q1), .val (.int q2), .val (.int xx), .val (.int (nar .boolean (own_nc0 xx)))]) rfl ?_
    show Steps p.tables e below (T1.setTop (mkF m 25 #[.val (.int q1), .val (.int q2), .val (.int xx), .val (.int (nar .boolean (own_nc0 xx)))] [])) _
    refine XS.iloadN X1.here hx rfl (hb hby at_25) rfl ?_
    show Steps p.tables e below (T1.setTop (mkF m 26 #[.val (.int q1), .val (.int q2), .val (.int xx), .val (.int (nar .boolean (own_nc0 xx)))] [(.int (nar .boolean (own_nc0 xx)))])) _
    refine XS.iloadN X1.here hx rfl (hb hby at_26) rfl ?_
    show Steps p.tables e below (T1.setTop (mkF m 27 #[.val (.int q1), .val (.int q2), .val (.int xx), .val (.int (nar .boolean (own_nc0 xx)))] [(.int xx), (.int (nar .boolean (own_nc0 xx)))])) _
    refine st2 _ ?_
    show Steps p.tables e below (T2.setTop (mkF m 30 #[.val (.int q1), .val (.int q2), .val (.int xx), .val (.int (nar .boolean (own_nc0 xx)))] [(.int (nar .boolean (own_rf xx))), (.int (nar .boolean (own_nc0 xx)))])) _
    refine XS.icmpNo X2.here hx rfl (hb hby at_30) rfl (teq (congrArg (nar .boolean) (own_same xx))).2 ?_
    show Steps p.tables e below (T2.setTop (mkF m 33 #[.val (.int q1), .val (.int q2), .val (.int xx), .val (.int (nar .boolean (own_nc0 xx)))] [])) _
    refine XS.iconst X2.here hx rfl (hb hby at_33) ?_
    show Steps p.tables e below (T2.setTop (mkF m 34 #[.val (.int q1), .val (.int q2), .val (.int xx), .val (.int (nar .boolean (own_nc0 xx)))] [(.int (1 : Int32))])) _
    refine XS.goto X2.here hx rfl (pc0 := 34) (pc' := 38) rfl (hb hby at_34) (by decide) (by decide) ?_
    show Steps p.tables e below (T2.setTop (mkF m 38 #[.val (.int q1), .val (.int q2), .val (.int xx), .val (.int (nar .boolean (own_nc0 xx)))] [(.int (1 : Int32))])) _
    exact retN X2 hx (t := .boolean) Bd.returns (by simp) (hb hby at_38) hr
  · show Q0 Z q1 q2 h0 n0 _ T2.heap _
    rw [e2]
    exact ⟨rfl, N2⟩
set_option maxRecDepth 65536 in
set_option maxHeartbeats 40000000 in
theorem comes_1 {Post : Tables → Env → Array Value → State → Outcome → State → Prop} (hpost : ∀ tb e args s v u, (limb_1_1.after args s (.returned v) u = true ∧ limb_1_2.after args s (.returned v) u = true ∧ True) → FrameEnd s (.returned v) u (Jvm.fieldLocs frame_1_writes args s ++ Jvm.arrayLocs frame_1_arrays args s ++ Jvm.staticLocs frame_1_statics s) 0 0 → Post tb e args s (.returned v) u) :
    ArmFor flags0 classFile x code maxLocals ret World_1 tables_1 room_1 Calls_1 rest_1 Pre_1 Post := by
  intro l hfl _ _ p e ha hc hk s m args below hf hA hF happ hP
  obtain ⟨hcalls, hrest, hpre⟩ := hP
  obtain ⟨-, -, -, hnamed, -, -, -, hat⟩ := (Spec.applies_iff hf).mp happ
  obtain ⟨hg, hn⟩ := and_e (Cond.before_iff.mp (show (Jvm.Cond.and given_1 narrow_1).before args s = true from hpre))
  obtain ⟨hc0, hk0⟩ := and_e hg
  obtain ⟨hv0, hk1⟩ := and_e hk0
  obtain ⟨w0, w1, rfl⟩ : ∃ w0 w1 : Value, args = #[w0, w1] := by
    have hs : args.size = 2 := by simpa [Cond.value, given_1] using hc0
    obtain ⟨L⟩ := args
    match L, hs with
    | [w0, w1], _ => exact ⟨w0, w1, rfl⟩
  have hw := fun d (hd : d ∈ tables_1) => atoms_spec (ws := Jvm.Cond.code x code maxLocals ret :: tables_1) hat d (List.mem_cons_of_mem _ hd)
  obtain ⟨i0, e0⟩ := is_v hv0
  obtain rfl : w0 = (.int i0) := Option.some.inj e0
  obtain ⟨i1, e1⟩ := is_v hk1
  obtain rfl : w1 = (.int i1) := Option.some.inj e1
  obtain ⟨n, o, h1, h2, h3, _, L, rfl, ⟨rfl, N⟩, hq⟩ := rm0 l s _ hw tables_1 i0 i1 s.heap s.heap.size (Nat.le_refl _)  p e ha hc hk s m _ below hf ((Spec.applies_iff_loose hf).mp happ).1 ⟨rfl, State.Warmed39.refl s, rfl⟩ trivial
  refine ⟨n, _, h1, h2, h3, hpost _ _ _ _ _ _ ⟨Cond.after_iff.mpr rfl, Cond.after_iff.mpr (eq_i res_at (Term.int_eval (1)) rfl), trivial⟩ ⟨hq.1, hq.2.1, (hq.2.2.sift fun y hy => Or.inr (N y hy)).mono (by decide) (by decide)⟩⟩
theorem main_1_1 : Claimed_1_1 := comes_1 fun _ _ _ _ _ _ h hF => ⟨h.1, hF⟩
theorem main_1_2 : Claimed_1_2 := comes_1 fun _ _ _ _ _ _ h hF => ⟨h.2.1, hF⟩
end Jvm.Pilot.@@N@@
namespace Jvm.Pilot.@@N@@
open Jvm Jvm.ClassFile Sem Op Lib Jvm.Free Jvm.Stand Jvm.Pilot.@@N@@.Jvm.D
/-! MADE BY PROGRAM (witnessworld.py) out of the Statement's table words and the real class files: 9 classes; the members and pool entries that the words name. The judged class is class 1, her method 1. -/
namespace start1
open Jvm.ClassFile
def u (s : String) : CpInfo := .utf8 (stringToUtf16 s)
/-- a pool by its gaps: so many unusable entries, then the entry; so many at the end -/
def gap : Nat → List CpInfo → List CpInfo
  | 0, r => r
  | n + 1, r => .unusable :: gap n r
def poolList (es : List (Nat × CpInfo)) (last : Nat) : List CpInfo := es.foldr (fun e r => gap e.1 (e.2 :: r)) (gap last [])
def pool (es : List (Nat × CpInfo)) (last : Nat) : Array CpInfo := ⟨poolList es last⟩
def fileOf (pool : Array CpInfo) (this : Nat) (attrs : Array Attribute := #[]) (ms : Array MethodInfo := #[]) (fl : Nat := 33) (sup : Nat := 0) (ifs : Array Nat := #[]) (fds : Array FieldInfo := #[]) : ClassFile where
  minorVersion := 0
  majorVersion := 65
  constantPool := pool
  accessFlags := fl
  thisClass := this
  superClass := sup
  interfaces := ifs
  fields := fds
  methods := ms
  attributes := attrs
def plain (name : String) (sup : Option ClassId) : Class where
  name := name
  kind := .ordinary
  loader := none
  accessFlags := 33
  super := sup
  interfaces := #[]
  cf := none
  fields := #[]
  methods := #[]
  instanceTypes := #[]
  staticTypes := #[]
  resolved := #[]
  callSites := []
  init := .initialized
  statics := none
  mirror := none

def pool0 : Array CpInfo := pool [(5, u "<init>"), (0, u "()V"), (1, .class_ 10), (1, u "java/lang/Object")] 113

def k0m0 : Method := { name := "<init>", desc := "()V", sig := { parameters := [], returnType := none }, accessFlags := 1, code := none }
/-- java/lang/Object -/
def k0 : Class := { plain "java/lang/Object" none with
  accessFlags := 33
  interfaces := #[]
  cf := some (fileOf pool0 8 #[] #[{ accessFlags := 1, nameIndex := 5, descriptorIndex := 6, attributes := #[] }] 33 0 #[] #[])
  fields := #[]
  methods := #[k0m0]
  instanceTypes := #[]
  staticTypes := #[]
  resolved := Array.replicate 124 none
  statics := none }

def pool1 : Array CpInfo := pool [(2, .class_ 4), (1, u "java/lang/Object"), (0, u "<init>"), (0, u "()V"), (0, .methodref 8 9), (0, .class_ 10), (0, .nameAndType 11 12), (0, u "com/example/caerus/caerus/core/Namespace"), (0, u "isNameCharacter"), (0, u "(I)Z"), (0, .methodref 14 15), (0, .class_ 16), (0, .nameAndType 17 12), (0, u "com/example/caerus/caerus/core/NamespaceIsNameCharacterPinLaw"), (0, u "reference"), (0, .long 48), (1, .long 10), (3, u "law"), (0, u "(II)Z")] 3

def k1m0 : Method := { name := "<init>", desc := "()V", sig := { parameters := [], returnType := none }, accessFlags := 1, code := none }
def k1c1 : Code := { maxStack := 2, maxLocals := 4, code := code, exceptionTable := #[], attributes := #[] }
def k1m1 : Method := { name := "law", desc := "(II)Z", sig := { parameters := [.int, .int], returnType := some .boolean }, accessFlags := 9, code := some k1c1 }
def k1c2 : Code := { maxStack := 4, maxLocals := 7, code := method_3_code, exceptionTable := #[], attributes := #[] }
def k1m2 : Method := { name := "reference", desc := "(I)Z", sig := { parameters := [.int], returnType := some .boolean }, accessFlags := 10, code := some k1c2 }
/-- com/example/caerus/caerus/core/NamespaceIsNameCharacterPinLaw -/
def k1 : Class := { plain "com/example/caerus/caerus/core/NamespaceIsNameCharacterPinLaw" (some 0) with
  accessFlags := 49
  interfaces := #[]
  cf := some (fileOf pool1 14 #[] #[{ accessFlags := 1, nameIndex := 5, descriptorIndex := 6, attributes := #[] }, { accessFlags := 9, nameIndex := 24, descriptorIndex := 25, attributes := #[] }, { accessFlags := 10, nameIndex := 17, descriptorIndex := 12, attributes := #[] }] 49 2 #[] #[])
  fields := #[]
  methods := #[k1m0, k1m1, k1m2]
  instanceTypes := #[]
  staticTypes := #[]
  resolved := Array.replicate 29 none
  statics := none }

def pool2 : Array CpInfo := pool [(2, .class_ 4), (1, u "java/lang/Object"), (3, .class_ 10), (1, u "com/example/caerus/caerus/core/Namespace"), (0, u "name"), (0, u "Ljava/lang/String;"), (44, u "SEPARATOR"), (0, u "C"), (10, u "isNameCharacter"), (0, u "(I)Z")] 30

def k2c0 : Code := { maxStack := 2, maxLocals := 1, code := prog_11_method_5_code, exceptionTable := #[], attributes := #[] }
def k2m0 : Method := { name := "isNameCharacter", desc := "(I)Z", sig := { parameters := [.int], returnType := some .boolean }, accessFlags := 8, code := some k2c0 }
/-- com/example/caerus/caerus/core/Namespace -/
def k2 : Class := { plain "com/example/caerus/caerus/core/Namespace" (some 0) with
  accessFlags := 33
  interfaces := #[]
  cf := some (fileOf pool2 8 #[] #[{ accessFlags := 8, nameIndex := 69, descriptorIndex := 70, attributes := #[] }] 33 2 #[] #[{ accessFlags := 26, nameIndex := 57, descriptorIndex := 58, attributes := #[] }, { accessFlags := 18, nameIndex := 11, descriptorIndex := 12, attributes := #[] }])
  fields := #[{ name := "SEPARATOR", type := .char, accessFlags := 26, slot := 0, constantValue := 0 }, { name := "name", type := (.object "java/lang/String"), accessFlags := 18, slot := 0, constantValue := 0 }]
  methods := #[k2m0]
  instanceTypes := #[(.object "java/lang/String")]
  staticTypes := #[.char]
  resolved := Array.replicate 101 none
  statics := none }

def pool3 : Array CpInfo := pool [(1, u "java/lang/Cloneable"), (0, .class_ 1), (0, u "java/lang/Object"), (0, .class_ 3)] 3

/-- java/lang/Cloneable -/
def k3 : Class := { plain "java/lang/Cloneable" (some 0) with
  accessFlags := 1537
  interfaces := #[]
  cf := some (fileOf pool3 2 #[] #[] 1537 4 #[] #[])
  fields := #[]
  methods := #[]
  instanceTypes := #[]
  staticTypes := #[]
  resolved := Array.replicate 8 none
  statics := none }

def pool4 : Array CpInfo := pool [(1, u "java/io/Serializable"), (0, .class_ 1), (0, u "java/lang/Object"), (0, .class_ 3)] 3

/-- java/io/Serializable -/
def k4 : Class := { plain "java/io/Serializable" (some 0) with
  accessFlags := 1537
  interfaces := #[]
  cf := some (fileOf pool4 2 #[] #[] 1537 4 #[] #[])
  fields := #[]
  methods := #[]
  instanceTypes := #[]
  staticTypes := #[]
  resolved := Array.replicate 8 none
  statics := none }

/-- the primitive byte -/
def k5 : Class := { plain "byte" none with kind := .primitive 'B', accessFlags := 0x411 }
/-- [B -/
def k6 : Class := { plain "[B" (some 0) with kind := .array 5 .byte, interfaces := #[3, 4], accessFlags := 1041 }

/-- the primitive int -/
def k7 : Class := { plain "int" none with kind := .primitive 'I', accessFlags := 0x411 }
/-- [I -/
def k8 : Class := { plain "[I" (some 0) with kind := .array 7 .int, interfaces := #[3, 4], accessFlags := 1041 }

def heap : Heap := #[]
def classes : Array Class := #[k0, k1, k2, k3, k4, k5, k6, k7, k8]
def interned : List (Array UInt16 × Addr) := []
def slotsUsed : Nat := 0
def theMethod : MethodId := ⟨1, 1⟩
def args0 : Array Value := #[.int 65, .int 3]
def aboutOver (below : List Frame) : State where
  vm := { classes := classes, interned := interned.toArray }
  heap := heap
  slotsUsed := slotsUsed
  threads := #[{ frames := .invoking theMethod args0 :: below }]
def below0 : List Frame := [.native { method := ⟨0, 0⟩, args := #[] }]
def about1 : State := aboutOver below0
def p0 : Program := .bare "" "" ""
def e0 : Env := launch0.env 0 0 0
theorem w_frames : about1.frames = Frame.invoking theMethod args0 :: below0 := rfl
set_option maxRecDepth 65536 in
theorem w_args : argsFit about1.vm theMethod args0 = true := by decide +kernel
set_option maxRecDepth 65536 in
theorem w_heap : heapFits about1 = true := by decide +kernel
set_option maxRecDepth 65536 in
theorem w_runnable : about1.curStatus? = some .runnable := by decide +kernel
set_option maxRecDepth 65536 in
theorem w_alone : about1.alone = true := by decide +kernel
set_option maxRecDepth 65536 in
theorem w_named : about1.methodNamed? x = some theMethod := by decide +kernel
set_option maxRecDepth 65536 in
theorem w_hears : about1.hears theMethod below0 = true := by decide +kernel
set_option maxRecDepth 65536 in
theorem w_ripe : about1.ripe theMethod args0 below0 = true := by decide +kernel
theorem w_running : about1.status = .running := rfl
set_option maxRecDepth 65536 in
theorem w_room : about1.hasRoom e0.platform room_1 = true :=
  launch0.hasRoom_least _ room_1 (by decide +kernel) (by decide +kernel) (by decide +kernel) (by decide +kernel) (by decide +kernel) (by decide +kernel)
theorem allAtoms_all (ts : List Jvm.Cond) (a : Array Jvm.Value) (st : Jvm.State) : (allAtoms ts).before a st = ts.all (fun c => c.before a st) := by
  induction ts with
  | nil => rfl
  | cons c t ih =>
    show (Jvm.Cond.and c (allAtoms t)).before a st = _
    rw [Jvm.Cond.before_and, ih, List.all_cons]
def words1 : List Jvm.Cond := Jvm.Cond.code x code maxLocals ret :: tables_1
/-- a 'code' word, met by the world's own term for the bytes: nothing is compared byte by byte -/
theorem code_word {y : MethodName} {bytes : ByteArray} {mx : Nat} {rt : Option FieldType} {a : Array Value} {s : State} {m : MethodId} {meth : Method} {c : Code} (h1 : s.methodNamed? y = some m) (h2 : s.vm.method? m = some meth) (h3 : meth.code = some c) (h4 : c.code = bytes)
    (h5 : (c.maxLocals == mx && c.exceptionTable.isEmpty && decide (c.maxStack ≤ mostOperands) && decide (meth.sig.returnType = rt) && !meth.locks && decide (parseMethodDescriptor y.desc = some meth.sig)) = true) : (Jvm.Cond.code y bytes mx rt).before a s = true := by
  simp only [Bool.and_eq_true, beq_iff_eq, Bool.not_eq_true', decide_eq_true_eq] at h5
  obtain ⟨⟨⟨⟨⟨g1, g2⟩, g3⟩, g4⟩, g5⟩, g6⟩ := h5
  simp [Cond.before, Cond.holds, Cond.value, h1, h2, h3, h4, g1, g2, g3, g4, g5, g6]
def isCode : Jvm.Cond → Bool
  | .code _ _ _ _ => true
  | _ => false
theorem all_split {L : List Jvm.Cond} {P : Jvm.Cond → Bool} (h1 : L.all (fun c => isCode c || P c) = true) (h2 : ∀ c ∈ L.filter isCode, P c = true) : L.all P = true := by
  refine List.all_eq_true.mpr fun c hc => ?_
  have h := List.all_eq_true.mp h1 c hc
  rcases Bool.eq_false_or_eq_true (isCode c) with hi | hi
  · exact h2 c (List.mem_filter.mpr ⟨hc, hi⟩)
  · simpa [hi] using h
set_option maxRecDepth 65536 in
theorem w_c0 : (Jvm.Cond.code x code maxLocals ret).before args0 about1 = true := code_word (m := ⟨1, 1⟩) (meth := k1m1) (c := k1c1) (by decide +kernel) rfl rfl rfl (by decide +kernel)
set_option maxRecDepth 65536 in
theorem w_c1 : (Jvm.Cond.code ({ cls := "com/example/caerus/caerus/core/Namespace", name := "isNameCharacter", desc := "(I)Z" } : Jvm.MethodName) prog_11_method_5_code (1 : Nat) (Option.some Jvm.ClassFile.FieldType.boolean)).before args0 about1 = true := code_word (m := ⟨2, 0⟩) (meth := k2m0) (c := k2c0) (by decide +kernel) rfl rfl rfl (by decide +kernel)
set_option maxRecDepth 65536 in
theorem w_c2 : (Jvm.Cond.code ({ cls := "com/example/caerus/caerus/core/NamespaceIsNameCharacterPinLaw", name := "reference", desc := "(I)Z" } : Jvm.MethodName) method_3_code (7 : Nat) (Option.some Jvm.ClassFile.FieldType.boolean)).before args0 about1 = true := code_word (m := ⟨1, 2⟩) (meth := k1m2) (c := k1c2) (by decide +kernel) rfl rfl rfl (by decide +kernel)
def codes1 : List Jvm.Cond := [Jvm.Cond.code x code maxLocals ret, Jvm.Cond.code ({ cls := "com/example/caerus/caerus/core/Namespace", name := "isNameCharacter", desc := "(I)Z" } : Jvm.MethodName) prog_11_method_5_code (1 : Nat) (Option.some Jvm.ClassFile.FieldType.boolean), Jvm.Cond.code ({ cls := "com/example/caerus/caerus/core/NamespaceIsNameCharacterPinLaw", name := "reference", desc := "(I)Z" } : Jvm.MethodName) method_3_code (7 : Nat) (Option.some Jvm.ClassFile.FieldType.boolean)]
set_option maxRecDepth 65536 in
theorem codes_eq : words1.filter isCode = codes1 := rfl
theorem w_codes : ∀ c ∈ words1.filter isCode, c.before args0 about1 = true := by
  rw [codes_eq]
  intro c hc
  simp only [codes1, List.mem_cons, List.not_mem_nil, or_false] at hc
  rcases hc with rfl | rfl | rfl
  · exact w_c0
  · exact w_c1
  · exact w_c2
set_option maxRecDepth 65536 in
theorem w_t1 : words1.all (fun c => isCode c || c.before args0 about1) = true := by decide +kernel
theorem w_tables : (allAtoms (Jvm.Cond.code x code maxLocals ret :: tables_1)).before args0 about1 = true := by
  rw [allAtoms_all]
  show words1.all (fun c => c.before args0 about1) = true
  refine all_split ?_ w_codes
  rw [w_t1]
set_option maxRecDepth 65536 in
theorem w_case : (Jvm.Cond.and given_1 narrow_1).before args0 about1 = true := by decide +kernel
theorem w_applies : (headSpec (Jvm.Cond.code x code maxLocals ret :: tables_1) room_1).applies x e0.platform about1 = true :=
  (Spec.applies_iff w_frames).mpr ⟨w_running, w_runnable, w_alone, w_named, w_hears, w_ripe, w_room, w_tables⟩
theorem atStart : AtStart classFile x code maxLocals ret World_1 tables_1 room_1 Calls_1 rest_1 Pre_1 launch0 p0 e0 about1 theMethod args0 below0 :=
  ⟨lists_1, trivial, launch0.admits_env _ _ _, launch0.least_env, fairChoices_fair.cas, fairChoices_fair.clock, w_frames, w_args, w_heap, w_applies, trivial, trivial, w_case⟩
end start1
theorem witness_1 : WitnessClaimed_1 := ⟨start1.p0, start1.e0, start1.about1, start1.theMethod, start1.args0, start1.below0, start1.atStart⟩
end Jvm.Pilot.@@N@@
