import JvmDerived
import JvmDerived.Pilot.@@N@@Statement
import JvmDerived.Pilot.@@N@@Code
set_option linter.unusedVariables false
set_option linter.unusedSimpArgs false
namespace Jvm.RoadKit
open Sem ClassFile Op Lib Jvm.Stand Jvm.Free Jvm.LawKit
section New
variable {p : Program} {l : Launch} {e : Env} {R : Room} {s : State} {m : MethodId} {args : Array Value} {below : List Frame} {meth : Method} {c : Code} {T : State} {locs : List Loc} {cells slots : Nat}
theorem retI (X : Stand p l e R s m args below meth c T locs cells slots) (hx : p.tables.exec = Jvm.exec) {pc : Nat} {Ls : Array Slot} {z : Int32} {rest : List Value} (hret : meth.sig.returnType = some .int) (hd : decode c.code pc = .ok (.ireturn, 1)) {fs : List Frame}
    (hl : ∀ (f : JFrame) (acts : List Action), f.method = m → f.locked = none → f.entered = [] → (doReturn e (T.setTop f) acts (some (.int z))).1 = T.setFrames fs) : Steps p.tables e below (T.setTop (mkF m pc Ls (.int z :: rest))) (T.setFrames fs) := by
  have hm' : T.vm.method? m = some meth := X.method'
  have hn : narrow .int (.int z) = .int z := rfl
  show Steps p.tables e below (T.setTop { method := m, pc := pc, locals := Ls, stack := _ :: rest, locked := none }) _
  jvm_step X.here [X.here.top, hx, hd, hm', hret, hn]
  first | (intro acts; rw [hl _ acts rfl rfl rfl]) | rw [hl _ _ rfl rfl rfl]
  exact Steps.refl _
end New
end Jvm.RoadKit
namespace Jvm.Pilot.@@N@@
open Jvm Jvm.ClassFile Sem Op Lib Jvm.Free Jvm.Stand Jvm.LawKit Jvm.RoadKit Bundle Jvm.Pilot.@@N@@.Jvm.D
theorem d1_0 : decode jdk_29_method_69_code 0 = .ok (.iload_n 0, 1) := by decide +kernel
theorem d1_1 : decode jdk_29_method_69_code 1 = .ok (.iload_n 1, 1) := by decide +kernel
theorem d1_2 : decode jdk_29_method_69_code 2 = .ok (.if_icmp .gt 7, 3) := by decide +kernel
theorem d1_5 : decode jdk_29_method_69_code 5 = .ok (.iload_n 0, 1) := by decide +kernel
theorem d1_6 : decode jdk_29_method_69_code 6 = .ok (.goto 4, 3) := by decide +kernel
theorem d1_9 : decode jdk_29_method_69_code 9 = .ok (.iload_n 1, 1) := by decide +kernel
theorem d1_10 : decode jdk_29_method_69_code 10 = .ok (.ireturn, 1) := by decide +kernel
theorem pd_1 : parseMethodDescriptor "(II)I" = some ⟨[.int, .int], (some .int)⟩ := by decide +kernel
theorem ef_1 (m : MethodId) (p1 : Int32) (p2 : Int32) : entryFrame m #[(.int p1), (.int p2)] 2 = mkF m 0 #[.val (.int p1), .val (.int p2)] [] := by first | (simp [entryFrame, mkF, argsToLocals, Value.category]; done) | rfl
def own_min (p1 p2 : Int32) : Int32 := (if p2 < p1 then p2 else p1)
def Q1 (Z : State) (p1 p2 : Int32) (h0 : Heap) (n0 : Nat) (v : Option Value) (h : Heap) (L : List Loc) : Prop := v = some (.int (own_min p1 p2)) ∧ Fr n0 L ∧ h = h0
set_option maxRecDepth 65536 in
set_option maxHeartbeats 40000000 in
theorem rm1 (l : Launch) (Z : State) (a0 : Array Value) (hw : ∀ d ∈ tables_1, d.before a0 Z = true) (ws : List Jvm.Cond) (p1 : Int32) (p2 : Int32)  (h0 : Heap) (n0 : Nat) (Z0 : n0 ≤ h0.size)  :
    MetFree l (⟨"java/lang/Math", "min", "(II)I"⟩ : MethodName) (head1 (Jvm.Cond.code (⟨"java/lang/Math", "min", "(II)I"⟩ : MethodName) jdk_29_method_69_code 2 (some .int) :: ws) ({ frames := 0, cells := 0, slots := 0, locals := 0 } : Room)) (fun a U => a = #[(.int p1), (.int p2)] ∧ Z.Warmed39 U.vm ∧ U.heap = h0) (fun _ _ _ _ _ => True) (fun _ U o U' => ∃ v L, o = .returned v ∧ Q1 Z p1 p2  h0 n0 v U'.heap L ∧ FrameEnd U o U' L ({ frames := 0, cells := 0, slots := 0, locals := 0 } : Room).cells ({ frames := 0, cells := 0, slots := 0, locals := 0 } : Room).slots) := by
  refine MetFree.of_bodySF (Jvm.Free.JP.mathPlain rfl (by decide +kernel)) hisR ?_
  intro p e s m args below meth c s₁ Bd hml0 hP hK
  obtain ⟨rfl, hZ, hh⟩ := hP
  have hx := Bd.exec
  have hby := Bd.bytes
  have hml : c.maxLocals = 2 := hml0
  have hown : s.vm.findClass "java/lang/Math" = some m.cls := findClass_of_methodNamed Bd.named
  have hnm := (name_of_methodNamed Bd.named Bd.method).1
  have X0 : Stand p l e ({ frames := 0, cells := 0, slots := 0, locals := 0 } : Room) s m #[(.int p1), (.int p2)] below meth c s₁ [] 0 0 := Stand.of_body Bd
  have e0 : s₁.heap = h0 := by rw [← hh, Bd.state]; rfl
  have N0 := Fr.nil n0
  have pre0 : ∀ t, Steps p.tables e below (s₁.setTop (mkF m 0 #[.val (.int p1), .val (.int p2)] [])) t → Steps p.tables e below (s₁.setTop (entryFrame m #[(.int p1), (.int p2)] 2)) t := fun t k => castTop (ef_1 m p1 p2) k
  obtain ⟨fs, hr, hrun, hended, hW, hsame⟩ := X0.leave (v := some (.int (own_min p1 p2))) (fun h => by rw [Bd.returns] at h; cases h)
  refine ⟨_, _, pre0 _ ?_, hrun, hended, _, _, rfl, ?_, ⟨_, rfl⟩, hW, hsame.mono (by decide) (by decide)⟩
  · show Steps p.tables e below (s₁.setTop (mkF m 0 #[.val (.int p1), .val (.int p2)] [])) _
    refine XS.iloadN X0.here hx rfl (hb hby d1_0) rfl ?_
    show Steps p.tables e below (s₁.setTop (mkF m 1 #[.val (.int p1), .val (.int p2)] [(.int p1)])) _
    refine XS.iloadN X0.here hx rfl (hb hby d1_1) rfl ?_
    show Steps p.tables e below (s₁.setTop (mkF m 2 #[.val (.int p1), .val (.int p2)] [(.int p2), (.int p1)])) _
    by_cases h2 : p2 < p1
    · refine XS.icmpYes X0.here hx rfl (pc0 := 2) (pc' := 9) rfl (hb hby d1_2) rfl (tlt h2).2.2.1 (by decide) (by decide) ?_
      show Steps p.tables e below (s₁.setTop (mkF m 9 #[.val (.int p1), .val (.int p2)] [])) _
      refine XS.iloadN X0.here hx rfl (hb hby d1_9) rfl ?_
      show Steps p.tables e below (s₁.setTop (mkF m 10 #[.val (.int p1), .val (.int p2)] [(.int p2)])) _
      unfold own_min at hr
      rw [if_pos h2] at hr
      exact retI X0 hx Bd.returns (hb hby d1_10) hr
    · refine XS.icmpNo X0.here hx rfl (hb hby d1_2) rfl (flt h2).2.2.1 ?_
      show Steps p.tables e below (s₁.setTop (mkF m 5 #[.val (.int p1), .val (.int p2)] [])) _
      refine XS.iloadN X0.here hx rfl (hb hby d1_5) rfl ?_
      show Steps p.tables e below (s₁.setTop (mkF m 6 #[.val (.int p1), .val (.int p2)] [(.int p1)])) _
      refine XS.goto X0.here hx rfl (pc0 := 6) (pc' := 10) rfl (hb hby d1_6) (by decide) (by decide) ?_
      show Steps p.tables e below (s₁.setTop (mkF m 10 #[.val (.int p1), .val (.int p2)] [(.int p1)])) _
      unfold own_min at hr
      rw [if_neg h2] at hr
      exact retI X0 hx Bd.returns (hb hby d1_10) hr
  · show Q1 Z p1 p2 h0 n0 _ s₁.heap _
    rw [e0]
    exact ⟨rfl, N0, rfl⟩
theorem d2_0 : decode jdk_29_method_65_code 0 = .ok (.iload_n 0, 1) := by decide +kernel
theorem d2_1 : decode jdk_29_method_65_code 1 = .ok (.iload_n 1, 1) := by decide +kernel
theorem d2_2 : decode jdk_29_method_65_code 2 = .ok (.if_icmp .lt 7, 3) := by decide +kernel
theorem d2_5 : decode jdk_29_method_65_code 5 = .ok (.iload_n 0, 1) := by decide +kernel
theorem d2_6 : decode jdk_29_method_65_code 6 = .ok (.goto 4, 3) := by decide +kernel
theorem d2_9 : decode jdk_29_method_65_code 9 = .ok (.iload_n 1, 1) := by decide +kernel
theorem d2_10 : decode jdk_29_method_65_code 10 = .ok (.ireturn, 1) := by decide +kernel
theorem pd_2 : parseMethodDescriptor "(II)I" = some ⟨[.int, .int], (some .int)⟩ := by decide +kernel
theorem ef_2 (m : MethodId) (p1 : Int32) (p2 : Int32) : entryFrame m #[(.int p1), (.int p2)] 2 = mkF m 0 #[.val (.int p1), .val (.int p2)] [] := by first | (simp [entryFrame, mkF, argsToLocals, Value.category]; done) | rfl
def own_max (p1 p2 : Int32) : Int32 := (if p1 < p2 then p2 else p1)
def Q2 (Z : State) (p1 p2 : Int32) (h0 : Heap) (n0 : Nat) (v : Option Value) (h : Heap) (L : List Loc) : Prop := v = some (.int (own_max p1 p2)) ∧ Fr n0 L ∧ h = h0
set_option maxRecDepth 65536 in
set_option maxHeartbeats 40000000 in
theorem rm2 (l : Launch) (Z : State) (a0 : Array Value) (hw : ∀ d ∈ tables_1, d.before a0 Z = true) (ws : List Jvm.Cond) (p1 : Int32) (p2 : Int32)  (h0 : Heap) (n0 : Nat) (Z0 : n0 ≤ h0.size)  :
    MetFree l (⟨"java/lang/Math", "max", "(II)I"⟩ : MethodName) (head1 (Jvm.Cond.code (⟨"java/lang/Math", "max", "(II)I"⟩ : MethodName) jdk_29_method_65_code 2 (some .int) :: ws) ({ frames := 0, cells := 0, slots := 0, locals := 0 } : Room)) (fun a U => a = #[(.int p1), (.int p2)] ∧ Z.Warmed39 U.vm ∧ U.heap = h0) (fun _ _ _ _ _ => True) (fun _ U o U' => ∃ v L, o = .returned v ∧ Q2 Z p1 p2  h0 n0 v U'.heap L ∧ FrameEnd U o U' L ({ frames := 0, cells := 0, slots := 0, locals := 0 } : Room).cells ({ frames := 0, cells := 0, slots := 0, locals := 0 } : Room).slots) := by
  refine MetFree.of_bodySF (Jvm.Free.JP.mathPlain rfl (by decide +kernel)) hisR ?_
  intro p e s m args below meth c s₁ Bd hml0 hP hK
  obtain ⟨rfl, hZ, hh⟩ := hP
  have hx := Bd.exec
  have hby := Bd.bytes
  have hml : c.maxLocals = 2 := hml0
  have hown : s.vm.findClass "java/lang/Math" = some m.cls := findClass_of_methodNamed Bd.named
  have hnm := (name_of_methodNamed Bd.named Bd.method).1
  have X0 : Stand p l e ({ frames := 0, cells := 0, slots := 0, locals := 0 } : Room) s m #[(.int p1), (.int p2)] below meth c s₁ [] 0 0 := Stand.of_body Bd
  have e0 : s₁.heap = h0 := by rw [← hh, Bd.state]; rfl
  have N0 := Fr.nil n0
  have pre0 : ∀ t, Steps p.tables e below (s₁.setTop (mkF m 0 #[.val (.int p1), .val (.int p2)] [])) t → Steps p.tables e below (s₁.setTop (entryFrame m #[(.int p1), (.int p2)] 2)) t := fun t k => castTop (ef_2 m p1 p2) k
  obtain ⟨fs, hr, hrun, hended, hW, hsame⟩ := X0.leave (v := some (.int (own_max p1 p2))) (fun h => by rw [Bd.returns] at h; cases h)
  refine ⟨_, _, pre0 _ ?_, hrun, hended, _, _, rfl, ?_, ⟨_, rfl⟩, hW, hsame.mono (by decide) (by decide)⟩
  · show Steps p.tables e below (s₁.setTop (mkF m 0 #[.val (.int p1), .val (.int p2)] [])) _
    refine XS.iloadN X0.here hx rfl (hb hby d2_0) rfl ?_
    show Steps p.tables e below (s₁.setTop (mkF m 1 #[.val (.int p1), .val (.int p2)] [(.int p1)])) _
    refine XS.iloadN X0.here hx rfl (hb hby d2_1) rfl ?_
    show Steps p.tables e below (s₁.setTop (mkF m 2 #[.val (.int p1), .val (.int p2)] [(.int p2), (.int p1)])) _
    by_cases h2 : p1 < p2
    · refine XS.icmpYes X0.here hx rfl (pc0 := 2) (pc' := 9) rfl (hb hby d2_2) rfl (tlt h2).1 (by decide) (by decide) ?_
      show Steps p.tables e below (s₁.setTop (mkF m 9 #[.val (.int p1), .val (.int p2)] [])) _
      refine XS.iloadN X0.here hx rfl (hb hby d2_9) rfl ?_
      show Steps p.tables e below (s₁.setTop (mkF m 10 #[.val (.int p1), .val (.int p2)] [(.int p2)])) _
      unfold own_max at hr
      rw [if_pos h2] at hr
      exact retI X0 hx Bd.returns (hb hby d2_10) hr
    · refine XS.icmpNo X0.here hx rfl (hb hby d2_2) rfl (flt h2).1 ?_
      show Steps p.tables e below (s₁.setTop (mkF m 5 #[.val (.int p1), .val (.int p2)] [])) _
      refine XS.iloadN X0.here hx rfl (hb hby d2_5) rfl ?_
      show Steps p.tables e below (s₁.setTop (mkF m 6 #[.val (.int p1), .val (.int p2)] [(.int p1)])) _
      refine XS.goto X0.here hx rfl (pc0 := 6) (pc' := 10) rfl (hb hby d2_6) (by decide) (by decide) ?_
      show Steps p.tables e below (s₁.setTop (mkF m 10 #[.val (.int p1), .val (.int p2)] [(.int p1)])) _
      unfold own_max at hr
      rw [if_neg h2] at hr
      exact retI X0 hx Bd.returns (hb hby d2_10) hr
  · show Q2 Z p1 p2 h0 n0 _ s₁.heap _
    rw [e0]
    exact ⟨rfl, N0, rfl⟩
theorem d4_0 : decode prog_3_method_1_code 0 = .ok (.aload_n 0, 1) := by decide +kernel
theorem d4_1 : decode prog_3_method_1_code 1 = .ok (.invokespecial 1, 3) := by decide +kernel
theorem d4_4 : decode prog_3_method_1_code 4 = .ok (.aload_n 0, 1) := by decide +kernel
theorem d4_5 : decode prog_3_method_1_code 5 = .ok (.aload_n 1, 1) := by decide +kernel
theorem d4_6 : decode prog_3_method_1_code 6 = .ok (.putfield 7, 3) := by decide +kernel
theorem d4_9 : decode prog_3_method_1_code 9 = .ok (.return_, 1) := by decide +kernel
theorem pn_4 : plainName "com/example/quadrille/quadrille/sparql/CodePointSet" = true := by first | (simp [plainName, overriddenIn]; done) | decide +kernel
theorem ef_4 (m : MethodId) (x0 : Addr) (x1 : Addr) : entryFrame m #[(.ref x0), (.ref x1)] 2 = mkF m 0 #[.val (.ref x0), .val (.ref x1)] [] := by first | (simp [entryFrame, mkF, argsToLocals, Value.category]; done) | rfl
def Q4 (Z : State) (a1 : Addr) (a2 : Addr) (u_ranges_a1 : Value) (h0 : Heap) (n0 : Nat) (v : Option Value) (h : Heap) (L : List Loc) : Prop := v = none ∧ Fr n0 L ∧ Keep h0 h [a1] ∧ Exa Z h a1 "com/example/quadrille/quadrille/sparql/CodePointSet" ∧ Fld Z h a1 "com/example/quadrille/quadrille/sparql/CodePointSet" "ranges" "[I" (.ref a2)
set_option maxRecDepth 65536 in
set_option maxHeartbeats 40000000 in
theorem rm4 (l : Launch) (Z : State) (a0 : Array Value) (hw : ∀ d ∈ tables_1, d.before a0 Z = true) (ws : List Jvm.Cond) (a1 : Addr) (a2 : Addr) (u_ranges_a1 : Value) (h0 : Heap) (n0 : Nat) (Z0 : n0 ≤ h0.size) (E_a1 : Exa Z h0 a1 "com/example/quadrille/quadrille/sparql/CodePointSet") (F_ranges_a1 : Fld Z h0 a1 "com/example/quadrille/quadrille/sparql/CodePointSet" "ranges" "[I" u_ranges_a1) (g_a1 : n0 ≤ a1) :
    MetFree l (⟨"com/example/quadrille/quadrille/sparql/CodePointSet", "<init>", "([I)V"⟩ : MethodName) (head1 (Jvm.Cond.code (⟨"com/example/quadrille/quadrille/sparql/CodePointSet", "<init>", "([I)V"⟩ : MethodName) prog_3_method_1_code 2 none :: ws) ({ frames := 1, cells := 0, slots := 0, locals := 12 } : Room)) (fun a U => a = #[(.ref a1), (.ref a2)] ∧ Z.Warmed39 U.vm ∧ U.heap = h0) (fun _ _ _ _ _ => True) (fun _ U o U' => ∃ v L, o = .returned v ∧ Q4 Z a1 a2 u_ranges_a1 h0 n0 v U'.heap L ∧ FrameEnd U o U' L ({ frames := 1, cells := 0, slots := 0, locals := 12 } : Room).cells ({ frames := 1, cells := 0, slots := 0, locals := 12 } : Room).slots) := by
  refine MetFree.of_bodySF (plainFor_of_name pn_4) hisR ?_
  intro p e s m args below meth c s₁ Bd hml0 hP hK
  obtain ⟨rfl, hZ, hh⟩ := hP
  have hx := Bd.exec
  have hby := Bd.bytes
  have hml : c.maxLocals = 2 := hml0
  have hown : s.vm.findClass "com/example/quadrille/quadrille/sparql/CodePointSet" = some m.cls := findClass_of_methodNamed Bd.named
  have hnm := (name_of_methodNamed Bd.named Bd.method).1
  have X0 : Stand p l e ({ frames := 1, cells := 0, slots := 0, locals := 12 } : Room) s m #[(.ref a1), (.ref a2)] below meth c s₁ [] 0 0 := Stand.of_body Bd
  have e0 : s₁.heap = h0 := by rw [← hh, Bd.state]; rfl
  have N0 := Fr.nil n0
  have pre0 : ∀ t, Steps p.tables e below (s₁.setTop (mkF m 0 #[.val (.ref a1), .val (.ref a2)] [])) t → Steps p.tables e below (s₁.setTop (entryFrame m #[(.ref a1), (.ref a2)] 2)) t := fun t k => castTop (ef_4 m a1 a2) k
  obtain ⟨T3, X3, e3, st3⟩ := initO X0 hx hZ hown (hw _ (List.mem_of_getElem? (i := 19) rfl)) (hw _ (List.mem_of_getElem? (i := 20) rfl)) (hw _ (List.mem_of_getElem? (i := 21) rfl)) e0 (g := (mkF m 1 #[.val (.ref a1), .val (.ref a2)] [(.ref a1)])) rfl (by rw [hml]; rfl) rfl (hb hby d4_1) (by decide) (W := 0) (by show 2 * 0 + _ ≤ _; exact Nat.le_of_eq rfl) (by decide)
  obtain ⟨T4, h4, X4, e4, W4, st4⟩ := putF X3 hx hZ hown (host := "") (Or.inl (hw _ (List.mem_of_getElem? (i := 22) rfl))) Via.refl e3 F_ranges_a1 E_a1 (Or.inr ⟨(hw _ (List.mem_of_getElem? (i := 23) rfl)), rfl, hnm⟩) (hw _ (List.mem_of_getElem? (i := 14) rfl)) (ty := (.array .int)) (by decide) rfl rfl (g := (mkF m 6 #[.val (.ref a1), .val (.ref a2)] [(.ref a2), (.ref a1)])) rfl rfl (hb hby d4_6)
  have Fw4 := F_ranges_a1.same W4
  have K4 : Keep h0 h4 [a1] := (Keep.refl h0 [a1]).wr W4 (Or.inl (List.mem_of_getElem? (i := 0) rfl))
  have N4 := Fr.snoc X4 N0 g_a1
  obtain ⟨fs, hr, hrun, hended, hW, hsame⟩ := X4.leave (v := none) (fun _ => rfl)
  refine ⟨_, _, pre0 _ ?_, hrun, hended, _, _, rfl, ?_, ⟨_, rfl⟩, hW, hsame.mono (by decide) (by decide)⟩
  · show Steps p.tables e below (s₁.setTop (mkF m 0 #[.val (.ref a1), .val (.ref a2)] [])) _
    refine XS.aloadN X0.here hx rfl (hb hby d4_0) rfl rfl ?_
    show Steps p.tables e below (s₁.setTop (mkF m 1 #[.val (.ref a1), .val (.ref a2)] [(.ref a1)])) _
    refine st3 _ ?_
    show Steps p.tables e below (T3.setTop (mkF m 4 #[.val (.ref a1), .val (.ref a2)] [])) _
    refine XS.aloadN X3.here hx rfl (hb hby d4_4) rfl rfl ?_
    show Steps p.tables e below (T3.setTop (mkF m 5 #[.val (.ref a1), .val (.ref a2)] [(.ref a1)])) _
    refine XS.aloadN X3.here hx rfl (hb hby d4_5) rfl rfl ?_
    show Steps p.tables e below (T3.setTop (mkF m 6 #[.val (.ref a1), .val (.ref a2)] [(.ref a2), (.ref a1)])) _
    refine st4 _ ?_
    show Steps p.tables e below (T4.setTop (mkF m 9 #[.val (.ref a1), .val (.ref a2)] [])) _
    exact X4.returnOut hx Bd.returns (hb hby d4_9) hr
  · show Q4 Z a1 a2 u_ranges_a1 h0 n0 _ T4.heap _
    rw [e4]
    exact ⟨rfl, N4, K4, (E_a1.wr W4), Fw4⟩
theorem d3_0 : decode prog_3_method_3_code 0 = .ok (.new 8, 3) := by decide +kernel
theorem d3_3 : decode prog_3_method_3_code 3 = .ok (.dup, 1) := by decide +kernel
theorem d3_4 : decode prog_3_method_3_code 4 = .ok (.iconst 2, 1) := by decide +kernel
theorem d3_5 : decode prog_3_method_3_code 5 = .ok (.newarray .int, 2) := by decide +kernel
theorem d3_7 : decode prog_3_method_3_code 7 = .ok (.dup, 1) := by decide +kernel
theorem d3_8 : decode prog_3_method_3_code 8 = .ok (.iconst 0, 1) := by decide +kernel
theorem d3_9 : decode prog_3_method_3_code 9 = .ok (.iload_n 0, 1) := by decide +kernel
theorem d3_10 : decode prog_3_method_3_code 10 = .ok (.iastore, 1) := by decide +kernel
theorem d3_11 : decode prog_3_method_3_code 11 = .ok (.dup, 1) := by decide +kernel
theorem d3_12 : decode prog_3_method_3_code 12 = .ok (.iconst 1, 1) := by decide +kernel
theorem d3_13 : decode prog_3_method_3_code 13 = .ok (.iload_n 1, 1) := by decide +kernel
theorem d3_14 : decode prog_3_method_3_code 14 = .ok (.iastore, 1) := by decide +kernel
theorem d3_15 : decode prog_3_method_3_code 15 = .ok (.invokespecial 17, 3) := by decide +kernel
theorem d3_18 : decode prog_3_method_3_code 18 = .ok (.areturn, 1) := by decide +kernel
theorem pn_3 : plainName "com/example/quadrille/quadrille/sparql/CodePointSet" = true := by first | (simp [plainName, overriddenIn]; done) | decide +kernel
theorem pd_3_2 : parseMethodDescriptor "([I)V" = some ⟨[(.array .int)], none⟩ := by decide +kernel
theorem ef_3 (m : MethodId) (x0 : Int32) (x1 : Int32) : entryFrame m #[(.int x0), (.int x1)] 2 = mkF m 0 #[.val (.int x0), .val (.int x1)] [] := by first | (simp [entryFrame, mkF, argsToLocals, Value.category]; done) | rfl
def Q3 (Z : State) (p1 : Int32) (p2 : Int32) (h0 : Heap) (n0 : Nat) (v : Option Value) (h : Heap) (L : List Loc) : Prop := Fr n0 L ∧ n0 ≤ h.size ∧ ∃ (b3 b4 : Addr) (k4 : ClassId), v = some (.ref b3) ∧ Exa Z h b3 "com/example/quadrille/quadrille/sparql/CodePointSet" ∧ Fld Z h b3 "com/example/quadrille/quadrille/sparql/CodePointSet" "ranges" "[I" (.ref b4) ∧ Arv Z h b4 k4 .int (2 : Int32) [(.int p1), (.int p2)] (.int (0 : Int32))
set_option maxRecDepth 65536 in
set_option maxHeartbeats 40000000 in
theorem rm3 (l : Launch) (Z : State) (a0 : Array Value) (hw : ∀ d ∈ tables_1, d.before a0 Z = true) (ws : List Jvm.Cond) (p1 : Int32) (p2 : Int32) (h0 : Heap) (n0 : Nat) (Z0 : n0 ≤ h0.size) :
    MetFree l (⟨"com/example/quadrille/quadrille/sparql/CodePointSet", "range", "(II)Lcom/example/quadrille/quadrille/sparql/CodePointSet;"⟩ : MethodName) (head1 (Jvm.Cond.code (⟨"com/example/quadrille/quadrille/sparql/CodePointSet", "range", "(II)Lcom/example/quadrille/quadrille/sparql/CodePointSet;"⟩ : MethodName) prog_3_method_3_code 2 (some (.object "com/example/quadrille/quadrille/sparql/CodePointSet")) :: ws) ({ frames := 2, cells := 2, slots := 3, locals := 26 } : Room)) (fun a U => a = #[(.int p1), (.int p2)] ∧ Z.Warmed39 U.vm ∧ U.heap = h0) (fun _ _ _ _ _ => True) (fun _ U o U' => ∃ v L, o = .returned v ∧ Q3 Z p1 p2 h0 n0 v U'.heap L ∧ FrameEnd U o U' L ({ frames := 2, cells := 2, slots := 3, locals := 26 } : Room).cells ({ frames := 2, cells := 2, slots := 3, locals := 26 } : Room).slots) := by
  refine MetFree.of_bodySF (plainFor_of_name pn_3) hisR ?_
  intro p e s m args below meth c s₁ Bd hml0 hP hK
  obtain ⟨rfl, hZ, hh⟩ := hP
  have hx := Bd.exec
  have hby := Bd.bytes
  have hml : c.maxLocals = 2 := hml0
  have hown : s.vm.findClass "com/example/quadrille/quadrille/sparql/CodePointSet" = some m.cls := findClass_of_methodNamed Bd.named
  have hnm := (name_of_methodNamed Bd.named Bd.method).1
  have X0 : Stand p l e ({ frames := 2, cells := 2, slots := 3, locals := 26 } : Room) s m #[(.int p1), (.int p2)] below meth c s₁ [] 0 0 := Stand.of_body Bd
  have e0 : s₁.heap = h0 := by rw [← hh, Bd.state]; rfl
  have N0 := Fr.nil n0
  have pre0 : ∀ t, Steps p.tables e below (s₁.setTop (mkF m 0 #[.val (.int p1), .val (.int p2)] [])) t → Steps p.tables e below (s₁.setTop (entryFrame m #[(.int p1), (.int p2)] 2)) t := fun t k => castTop (ef_3 m p1 p2) k
  obtain ⟨T3, h3, X3, e3, E3, A3, D3, -, st3⟩ := newO X0 hx hZ hown (hw _ (List.mem_of_getElem? (i := 13) rfl)) (hw _ (List.mem_of_getElem? (i := 14) rfl)) (hw _ (List.mem_of_getElem? (i := 11) rfl)) e0 (g := (mkF m 0 #[.val (.int p1), .val (.int p2)] [])) rfl (hb hby d3_0) (by decide) (by decide)
  obtain ⟨b3, g3⟩ : ∃ z, z = h0.size := ⟨_, rfl⟩
  rw [← g3] at A3 D3 st3
  have F_ranges_b3 : Fld Z h3 b3 "com/example/quadrille/quadrille/sparql/CodePointSet" "ranges" "[I" .null := D3 (Or.inr (hw _ (List.mem_of_getElem? (i := 23) rfl))) (ty := (.array .int)) (by decide)
  have E_b3 := A3
  have g_b3 : n0 ≤ b3 := Nat.le_trans Z0 (Nat.le_of_eq g3.symm)
  have sz_b3 : h0.size ≤ b3 := (Nat.le_trans (Keep.refl h0 []).1 (Nat.le_of_eq g3.symm))
  have K3 : Keep h0 h3 [] := (Keep.refl h0 []).ext E3
  obtain ⟨T4, h4, k4, X4, e4, E4, A4, st4⟩ := newP X3 hx hZ (hw _ (List.mem_of_getElem? (i := 15) rfl)) e3 (g := (mkF m 5 #[.val (.int p1), .val (.int p2)] [(.int (2 : Int32)), (.ref b3), (.ref b3)])) rfl (hb hby d3_5) rfl (by decide) (cap := 2) (by decide) (by decide) (by decide) (by decide)
  obtain ⟨b4, g4⟩ : ∃ z, z = h3.size := ⟨_, rfl⟩
  rw [← g4] at A4 st4
  have V_b4 : Arv Z h4 b4 k4 .int (2 : Int32) [(.int (0 : Int32)), (.int (0 : Int32))] (.int (0 : Int32)) := (Arv.new A4 (by decide)).pad (pad_rep [] (.int (0 : Int32)) 2)
  have hne34 : b3 ≠ b4 := Nat.ne_of_lt (Nat.lt_of_lt_of_le A3.lt (Nat.le_of_eq g4.symm))
  have g_b4 : n0 ≤ b4 := Nat.le_trans (Nat.le_trans Z0 E3.1) (Nat.le_of_eq g4.symm)
  have sz_b4 : h0.size ≤ b4 := (Nat.le_trans K3.1 (Nat.le_of_eq g4.symm))
  have K4 : Keep h0 h4 [] := K3.ext E4
  obtain ⟨cl_b4_10, Ar_b4, q_b4, S_b4, N_b4, H_b4, G_b4⟩ := V_b4
  have hin10 : ¬ ((0 : Int32) < 0 ∨ cl_b4_10.slots.size ≤ ((0 : Int32)).toNatClampNeg) := inb_of S_b4 ⟨by decide, by decide⟩
  obtain ⟨T5, h5, X5, e5, W5, st5⟩ := stI X4 hx hZ e4 Ar_b4 (j := (0 : Int32)) hin10 (g := (mkF m 10 #[.val (.int p1), .val (.int p2)] [(.int p1), (.int (0 : Int32)), (.ref b4), (.ref b4), (.ref b3), (.ref b3)])) rfl rfl (hb hby d3_10)
  have V_b4_5 := Arv.set Ar_b4 q_b4 S_b4 N_b4 H_b4 G_b4 rfl W5 0 rfl (Nat.le_of_ble_eq_true rfl)
  have K5 : Keep h0 h5 [] := K4.wr W5 (Or.inr sz_b4)
  have N5 := Fr.snoc X5 N0 g_b4
  obtain ⟨cl_b4_14, Ar_b4, q_b4, S_b4, N_b4, H_b4, G_b4⟩ := V_b4_5
  have hin14 : ¬ ((1 : Int32) < 0 ∨ cl_b4_14.slots.size ≤ ((1 : Int32)).toNatClampNeg) := inb_of S_b4 ⟨by decide, by decide⟩
  obtain ⟨T6, h6, X6, e6, W6, st6⟩ := stI X5 hx hZ e5 Ar_b4 (j := (1 : Int32)) hin14 (g := (mkF m 14 #[.val (.int p1), .val (.int p2)] [(.int p2), (.int (1 : Int32)), (.ref b4), (.ref b4), (.ref b3), (.ref b3)])) rfl rfl (hb hby d3_14)
  have V_b4_6 := Arv.set Ar_b4 q_b4 S_b4 N_b4 H_b4 G_b4 rfl W6 1 rfl (Nat.le_of_ble_eq_true rfl)
  have K6 : Keep h0 h6 [] := K5.wr W6 (Or.inr sz_b4)
  have N6 := Fr.snoc X6 N5 g_b4
  obtain ⟨_, _, ⟨T7, L7, k7, n7⟩, -, X7, ⟨Lc7, hQ7, l7, y7, z7⟩, st7⟩ := X6.specialBack hx (y := (⟨"com/example/quadrille/quadrille/sparql/CodePointSet", "<init>", "([I)V"⟩ : MethodName)) rfl hown (mvT hZ (hw _ (List.mem_of_getElem? (i := 16) rfl))) (mvT hZ (hw _ (List.mem_of_getElem? (i := 17) rfl))) (mvT hZ (hw _ (List.mem_of_getElem? (i := 18) rfl))) (by decide) (backOf (W := 1) (rm4 l Z a0 hw [] b3 b4 .null h6 n0 (Nat.le_trans Z0 K6.1) (((A3.ext E4).wr W5).wr W6) (((F_ranges_b3.ext E4).other W5 (Or.inl hne34)).other W6 (Or.inl hne34)) g_b3) hZ (hw _ (List.mem_of_getElem? (i := 18) rfl)) (hw _ (List.mem_of_getElem? (i := 11) rfl)) (by decide) (by decide)) (g := (mkF m 15 #[.val (.int p1), .val (.int p2)] [(.ref b4), (.ref b3), (.ref b3)])) rfl (by rw [hml]; rfl) (Steps.refl _) (a := b3) (argsL := [(.ref b4)]) (rest := [(.ref b3)]) (lenOf pd_3_2 rfl) rfl (by show 2 * 0 + _ ≤ _; exact Nat.le_of_eq rfl) (hb hby d3_15) (fun _ _ => ⟨rfl, e6, (by decide : 2 + 0 ≤ _), (by decide : 3 + 0 ≤ _)⟩)
  dsimp only [Pt.U, Pt.locs, Pt.cells, Pt.slots] at X7 l7 y7 z7 st7 hQ7
  subst l7 y7 z7
  obtain ⟨rfl, N7q, K7, E7c, F7c⟩ := hQ7
  have N7 := Fr.app N6 N7q
  obtain ⟨fs, hr, hrun, hended, hW, hsame⟩ := X7.leave (v := some (.ref b3)) (fun h => by rw [Bd.returns] at h; cases h)
  refine ⟨_, _, pre0 _ ?_, hrun, hended, _, _, rfl, ?_, ⟨_, rfl⟩, hW, hsame.mono (by decide) (by decide)⟩
  · show Steps p.tables e below (s₁.setTop (mkF m 0 #[.val (.int p1), .val (.int p2)] [])) _
    refine st3 _ ?_
    show Steps p.tables e below (T3.setTop (mkF m 3 #[.val (.int p1), .val (.int p2)] [(.ref b3)])) _
    refine XS.dup X3.here hx rfl (hb hby d3_3) rfl rfl ?_
    show Steps p.tables e below (T3.setTop (mkF m 4 #[.val (.int p1), .val (.int p2)] [(.ref b3), (.ref b3)])) _
    refine XS.iconst X3.here hx rfl (hb hby d3_4) ?_
    show Steps p.tables e below (T3.setTop (mkF m 5 #[.val (.int p1), .val (.int p2)] [(.int (2 : Int32)), (.ref b3), (.ref b3)])) _
    refine st4 _ ?_
    show Steps p.tables e below (T4.setTop (mkF m 7 #[.val (.int p1), .val (.int p2)] [(.ref b4), (.ref b3), (.ref b3)])) _
    refine XS.dup X4.here hx rfl (hb hby d3_7) rfl rfl ?_
    show Steps p.tables e below (T4.setTop (mkF m 8 #[.val (.int p1), .val (.int p2)] [(.ref b4), (.ref b4), (.ref b3), (.ref b3)])) _
    refine XS.iconst X4.here hx rfl (hb hby d3_8) ?_
    show Steps p.tables e below (T4.setTop (mkF m 9 #[.val (.int p1), .val (.int p2)] [(.int (0 : Int32)), (.ref b4), (.ref b4), (.ref b3), (.ref b3)])) _
    refine XS.iloadN X4.here hx rfl (hb hby d3_9) rfl ?_
    show Steps p.tables e below (T4.setTop (mkF m 10 #[.val (.int p1), .val (.int p2)] [(.int p1), (.int (0 : Int32)), (.ref b4), (.ref b4), (.ref b3), (.ref b3)])) _
    refine st5 _ ?_
    show Steps p.tables e below (T5.setTop (mkF m 11 #[.val (.int p1), .val (.int p2)] [(.ref b4), (.ref b3), (.ref b3)])) _
    refine XS.dup X5.here hx rfl (hb hby d3_11) rfl rfl ?_
    show Steps p.tables e below (T5.setTop (mkF m 12 #[.val (.int p1), .val (.int p2)] [(.ref b4), (.ref b4), (.ref b3), (.ref b3)])) _
    refine XS.iconst X5.here hx rfl (hb hby d3_12) ?_
    show Steps p.tables e below (T5.setTop (mkF m 13 #[.val (.int p1), .val (.int p2)] [(.int (1 : Int32)), (.ref b4), (.ref b4), (.ref b3), (.ref b3)])) _
    refine XS.iloadN X5.here hx rfl (hb hby d3_13) rfl ?_
    show Steps p.tables e below (T5.setTop (mkF m 14 #[.val (.int p1), .val (.int p2)] [(.int p2), (.int (1 : Int32)), (.ref b4), (.ref b4), (.ref b3), (.ref b3)])) _
    refine st6 _ ?_
    show Steps p.tables e below (T6.setTop (mkF m 15 #[.val (.int p1), .val (.int p2)] [(.ref b4), (.ref b3), (.ref b3)])) _
    refine st7.trans ?_
    show Steps p.tables e below (T7.setTop (mkF m 18 #[.val (.int p1), .val (.int p2)] [(.ref b3)])) _
    jvm_step X7.here [X7.here.top, hx, (hb hby d3_18), X7.method', Bd.returns, Value.isRef, FieldType.isReference]
    first | (intro acts; rw [hr _ acts rfl rfl rfl]) | rw [hr _ _ rfl rfl rfl]
    exact Steps.refl _
  · show Q3 Z p1 p2 h0 n0 _ T7.heap _
    exact ⟨N7, Nat.le_trans (Nat.le_trans Z0 K6.1) K7.1, b3, b4, k4, rfl, E7c, F7c, Arv.keep V_b4_6 K7 (fun q => hne34 (List.mem_singleton.mp q).symm)⟩
theorem pd_3 : parseMethodDescriptor "(II)Lcom/example/quadrille/quadrille/sparql/CodePointSet;" = some ⟨[.int, .int], (some (.object "com/example/quadrille/quadrille/sparql/CodePointSet"))⟩ := by decide +kernel
theorem d6_0 : decode prog_3_method_10_code 0 = .ok (.iconst 0, 1) := by decide +kernel
theorem d6_1 : decode prog_3_method_10_code 1 = .ok (.istore_n 2, 1) := by decide +kernel
theorem d6_2 : decode prog_3_method_10_code 2 = .ok (.aload_n 0, 1) := by decide +kernel
theorem d6_3 : decode prog_3_method_10_code 3 = .ok (.getfield 7, 3) := by decide +kernel
theorem d6_6 : decode prog_3_method_10_code 6 = .ok (.arraylength, 1) := by decide +kernel
theorem d6_7 : decode prog_3_method_10_code 7 = .ok (.iconst 2, 1) := by decide +kernel
theorem d6_8 : decode prog_3_method_10_code 8 = .ok (.idiv, 1) := by decide +kernel
theorem d6_9 : decode prog_3_method_10_code 9 = .ok (.iconst 1, 1) := by decide +kernel
theorem d6_10 : decode prog_3_method_10_code 10 = .ok (.isub, 1) := by decide +kernel
theorem d6_11 : decode prog_3_method_10_code 11 = .ok (.istore_n 3, 1) := by decide +kernel
theorem d6_12 : decode prog_3_method_10_code 12 = .ok (.iload_n 2, 1) := by decide +kernel
theorem d6_13 : decode prog_3_method_10_code 13 = .ok (.iload_n 3, 1) := by decide +kernel
theorem d6_14 : decode prog_3_method_10_code 14 = .ok (.if_icmp .gt 59, 3) := by decide +kernel
theorem d6_17 : decode prog_3_method_10_code 17 = .ok (.iload_n 2, 1) := by decide +kernel
theorem d6_18 : decode prog_3_method_10_code 18 = .ok (.iload_n 3, 1) := by decide +kernel
theorem d6_19 : decode prog_3_method_10_code 19 = .ok (.iadd, 1) := by decide +kernel
theorem d6_20 : decode prog_3_method_10_code 20 = .ok (.iconst 1, 1) := by decide +kernel
theorem d6_21 : decode prog_3_method_10_code 21 = .ok (.iushr, 1) := by decide +kernel
theorem d6_22 : decode prog_3_method_10_code 22 = .ok (.istore 4, 2) := by decide +kernel
theorem d6_24 : decode prog_3_method_10_code 24 = .ok (.iload_n 1, 1) := by decide +kernel
theorem d6_25 : decode prog_3_method_10_code 25 = .ok (.aload_n 0, 1) := by decide +kernel
theorem d6_26 : decode prog_3_method_10_code 26 = .ok (.getfield 7, 3) := by decide +kernel
theorem d6_29 : decode prog_3_method_10_code 29 = .ok (.iconst 2, 1) := by decide +kernel
theorem d6_30 : decode prog_3_method_10_code 30 = .ok (.iload 4, 2) := by decide +kernel
theorem d6_32 : decode prog_3_method_10_code 32 = .ok (.imul, 1) := by decide +kernel
theorem d6_33 : decode prog_3_method_10_code 33 = .ok (.iaload, 1) := by decide +kernel
theorem d6_34 : decode prog_3_method_10_code 34 = .ok (.if_icmp .ge 11, 3) := by decide +kernel
theorem d6_45 : decode prog_3_method_10_code 45 = .ok (.iload_n 1, 1) := by decide +kernel
theorem d6_46 : decode prog_3_method_10_code 46 = .ok (.aload_n 0, 1) := by decide +kernel
theorem d6_47 : decode prog_3_method_10_code 47 = .ok (.getfield 7, 3) := by decide +kernel
theorem d6_50 : decode prog_3_method_10_code 50 = .ok (.iconst 2, 1) := by decide +kernel
theorem d6_51 : decode prog_3_method_10_code 51 = .ok (.iload 4, 2) := by decide +kernel
theorem d6_53 : decode prog_3_method_10_code 53 = .ok (.imul, 1) := by decide +kernel
theorem d6_54 : decode prog_3_method_10_code 54 = .ok (.iconst 1, 1) := by decide +kernel
theorem d6_55 : decode prog_3_method_10_code 55 = .ok (.iadd, 1) := by decide +kernel
theorem d6_56 : decode prog_3_method_10_code 56 = .ok (.iaload, 1) := by decide +kernel
theorem d6_57 : decode prog_3_method_10_code 57 = .ok (.if_icmp .le 11, 3) := by decide +kernel
theorem d6_68 : decode prog_3_method_10_code 68 = .ok (.iconst 1, 1) := by decide +kernel
theorem d6_69 : decode prog_3_method_10_code 69 = .ok (.ireturn, 1) := by decide +kernel
theorem pn_6 : plainName "com/example/quadrille/quadrille/sparql/CodePointSet" = true := by first | (simp [plainName, overriddenIn]; done) | decide +kernel
theorem ef_6 (m : MethodId) (x0 : Addr) (x1 : Int32) : entryFrame m #[(.ref x0), (.int x1)] 5 = mkF m 0 #[.val (.ref x0), .val (.int x1), .unset, .unset, .unset] [] := by first | (simp [entryFrame, mkF, argsToLocals, Value.category]; done) | rfl
def Q6a (Z : State) (a1 : Addr) (p2 : Int32) (w3 : Addr) (cl_w3 : Cell) (w6 : Int32) (w8 : Int32) (h0 : Heap) (n0 : Nat) (v : Option Value) (h : Heap) (L : List Loc) : Prop := v = some (.int (1 : Int32)) ∧ Fr n0 L ∧ h = h0
set_option maxRecDepth 65536 in
set_option maxHeartbeats 40000000 in
theorem rm6a (l : Launch) (Z : State) (a0 : Array Value) (hw : ∀ d ∈ tables_1, d.before a0 Z = true) (ws : List Jvm.Cond) (a1 : Addr) (p2 : Int32) (w3 : Addr) (cl_w3 : Cell) (w6 : Int32) (w8 : Int32) (h0 : Heap) (n0 : Nat) (Z0 : n0 ≤ h0.size) (F_ranges_a1 : Fld Z h0 a1 "com/example/quadrille/quadrille/sparql/CodePointSet" "ranges" "[I" (.ref w3)) (Ar_w3 : Arr Z h0 w3 cl_w3 .int) (S_w3 : cl_w3.slots.size = (2 : Int32).toNatClampNeg) (N_w3 : ¬ (2 : Int32) < 0) (hin33 : ¬ ((0 : Int32) < 0 ∨ cl_w3.slots.size ≤ ((0 : Int32)).toNatClampNeg)) (hat33 : cl_w3.slots[((0 : Int32)).toNatClampNeg]? = some (.int w6)) (hin56 : ¬ ((1 : Int32) < 0 ∨ cl_w3.slots.size ≤ ((1 : Int32)).toNatClampNeg)) (hat56 : cl_w3.slots[((1 : Int32)).toNatClampNeg]? = some (.int w8)) (hnz8 : ¬ ((2 : Int32) = (0 : Int32))) (hc14 : ¬ ((0 : Int32) < (0 : Int32))) (hc34 : ¬ (p2 < w6)) (hc57 : ¬ (w8 < p2)) :
    MetFree l (⟨"com/example/quadrille/quadrille/sparql/CodePointSet", "contains", "(I)Z"⟩ : MethodName) (head1 (Jvm.Cond.code (⟨"com/example/quadrille/quadrille/sparql/CodePointSet", "contains", "(I)Z"⟩ : MethodName) prog_3_method_10_code 5 (some .boolean) :: ws) ({ frames := 0, cells := 0, slots := 0, locals := 0 } : Room)) (fun a U => a = #[(.ref a1), (.int p2)] ∧ Z.Warmed39 U.vm ∧ U.heap = h0) (fun _ _ _ _ _ => True) (fun _ U o U' => ∃ v L, o = .returned v ∧ Q6a Z a1 p2 w3 cl_w3 w6 w8 h0 n0 v U'.heap L ∧ FrameEnd U o U' L ({ frames := 0, cells := 0, slots := 0, locals := 0 } : Room).cells ({ frames := 0, cells := 0, slots := 0, locals := 0 } : Room).slots) := by
  refine MetFree.of_bodySF (plainFor_of_name pn_6) hisR ?_
  intro p e s m args below meth c s₁ Bd hml0 hP hK
  obtain ⟨rfl, hZ, hh⟩ := hP
  have hx := Bd.exec
  have hby := Bd.bytes
  have hml : c.maxLocals = 5 := hml0
  have hown : s.vm.findClass "com/example/quadrille/quadrille/sparql/CodePointSet" = some m.cls := findClass_of_methodNamed Bd.named
  have hnm := (name_of_methodNamed Bd.named Bd.method).1
  have X0 : Stand p l e ({ frames := 0, cells := 0, slots := 0, locals := 0 } : Room) s m #[(.ref a1), (.int p2)] below meth c s₁ [] 0 0 := Stand.of_body Bd
  have e0 : s₁.heap = h0 := by rw [← hh, Bd.state]; rfl
  have N0 := Fr.nil n0
  have pre0 : ∀ t, Steps p.tables e below (s₁.setTop (mkF m 0 #[.val (.ref a1), .val (.int p2), .unset, .unset, .unset] [])) t → Steps p.tables e below (s₁.setTop (entryFrame m #[(.ref a1), (.int p2)] 5)) t := fun t k => castTop (ef_6 m a1 p2) k
  obtain ⟨T4, X4, e4, st4⟩ := getF X0 hx hZ hown (host := "") (Or.inl (hw _ (List.mem_of_getElem? (i := 22) rfl))) Via.refl e0 F_ranges_a1 (g := (mkF m 3 #[.val (.ref a1), .val (.int p2), .val (.int (0 : Int32)), .unset, .unset] [(.ref a1)])) rfl rfl (hb hby d6_3)
  obtain ⟨T5, X5, e5, st5⟩ := getF X4 hx hZ hown (host := "") (Or.inl (hw _ (List.mem_of_getElem? (i := 22) rfl))) Via.refl e4 F_ranges_a1 (g := (mkF m 26 #[.val (.ref a1), .val (.int p2), .val (.int (0 : Int32)), .val (.int (0 : Int32)), .val (.int (0 : Int32))] [(.ref a1), (.int p2)])) rfl rfl (hb hby d6_26)
  obtain ⟨T7, X7, e7, st7⟩ := getF X5 hx hZ hown (host := "") (Or.inl (hw _ (List.mem_of_getElem? (i := 22) rfl))) Via.refl e5 F_ranges_a1 (g := (mkF m 47 #[.val (.ref a1), .val (.int p2), .val (.int (0 : Int32)), .val (.int (0 : Int32)), .val (.int (0 : Int32))] [(.ref a1), (.int p2)])) rfl rfl (hb hby d6_47)
  obtain ⟨fs, hr, hrun, hended, hW, hsame⟩ := X7.leave (v := some (.int (1 : Int32))) (fun h => by rw [Bd.returns] at h; cases h)
  refine ⟨_, _, pre0 _ ?_, hrun, hended, _, _, rfl, ?_, ⟨_, rfl⟩, hW, hsame.mono (by decide) (by decide)⟩
  · show Steps p.tables e below (s₁.setTop (mkF m 0 #[.val (.ref a1), .val (.int p2), .unset, .unset, .unset] [])) _
    refine XS.iconst X0.here hx rfl (hb hby d6_0) ?_
    show Steps p.tables e below (s₁.setTop (mkF m 1 #[.val (.ref a1), .val (.int p2), .unset, .unset, .unset] [(.int (0 : Int32))])) _
    refine XS.istoreN X0.here hx rfl (hb hby d6_1) rfl (l' := #[.val (.ref a1), .val (.int p2), .val (.int (0 : Int32)), .unset, .unset]) rfl ?_
    show Steps p.tables e below (s₁.setTop (mkF m 2 #[.val (.ref a1), .val (.int p2), .val (.int (0 : Int32)), .unset, .unset] [])) _
    refine XS.aloadN X0.here hx rfl (hb hby d6_2) rfl rfl ?_
    show Steps p.tables e below (s₁.setTop (mkF m 3 #[.val (.ref a1), .val (.int p2), .val (.int (0 : Int32)), .unset, .unset] [(.ref a1)])) _
    refine st4 _ ?_
    show Steps p.tables e below (T4.setTop (mkF m 6 #[.val (.ref a1), .val (.int p2), .val (.int (0 : Int32)), .unset, .unset] [(.ref w3)])) _
    refine X4.arraylength hx (by rw [e4]; exact Ar_w3.1) (State.isArrayOf_alike hZ.alike Ar_w3.2.1) (g := (mkF m 6 #[.val (.ref a1), .val (.int p2), .val (.int (0 : Int32)), .unset, .unset] [(.ref w3)])) rfl rfl (hb hby d6_6) _ ?_
    rw [len_of S_w3 N_w3]
    show Steps p.tables e below (T4.setTop (mkF m 7 #[.val (.ref a1), .val (.int p2), .val (.int (0 : Int32)), .unset, .unset] [(.int (2 : Int32))])) _
    refine XS.iconst X4.here hx rfl (hb hby d6_7) ?_
    show Steps p.tables e below (T4.setTop (mkF m 8 #[.val (.ref a1), .val (.int p2), .val (.int (0 : Int32)), .unset, .unset] [(.int (2 : Int32)), (.int (2 : Int32))])) _
    refine XS.idiv X4.here hx rfl (hb hby d6_8) rfl hnz8 ?_
    show Steps p.tables e below (T4.setTop (mkF m 9 #[.val (.ref a1), .val (.int p2), .val (.int (0 : Int32)), .unset, .unset] [(.int ((2 : Int32) / (2 : Int32)))])) _
    refine XS.iconst X4.here hx rfl (hb hby d6_9) ?_
    show Steps p.tables e below (T4.setTop (mkF m 10 #[.val (.ref a1), .val (.int p2), .val (.int (0 : Int32)), .unset, .unset] [(.int (1 : Int32)), (.int ((2 : Int32) / (2 : Int32)))])) _
    refine XS.isub X4.here hx rfl (hb hby d6_10) rfl ?_
    show Steps p.tables e below (T4.setTop (mkF m 11 #[.val (.ref a1), .val (.int p2), .val (.int (0 : Int32)), .unset, .unset] [(.int (0 : Int32))])) _
    refine XS.istoreN X4.here hx rfl (hb hby d6_11) rfl (l' := #[.val (.ref a1), .val (.int p2), .val (.int (0 : Int32)), .val (.int (0 : Int32)), .unset]) rfl ?_
    show Steps p.tables e below (T4.setTop (mkF m 12 #[.val (.ref a1), .val (.int p2), .val (.int (0 : Int32)), .val (.int (0 : Int32)), .unset] [])) _
    refine XS.iloadN X4.here hx rfl (hb hby d6_12) rfl ?_
    show Steps p.tables e below (T4.setTop (mkF m 13 #[.val (.ref a1), .val (.int p2), .val (.int (0 : Int32)), .val (.int (0 : Int32)), .unset] [(.int (0 : Int32))])) _
    refine XS.iloadN X4.here hx rfl (hb hby d6_13) rfl ?_
    show Steps p.tables e below (T4.setTop (mkF m 14 #[.val (.ref a1), .val (.int p2), .val (.int (0 : Int32)), .val (.int (0 : Int32)), .unset] [(.int (0 : Int32)), (.int (0 : Int32))])) _
    refine XS.icmpNo X4.here hx rfl (hb hby d6_14) rfl (flt (by decide : ¬ ((0 : Int32) < (0 : Int32)))).2.2.1 ?_
    show Steps p.tables e below (T4.setTop (mkF m 17 #[.val (.ref a1), .val (.int p2), .val (.int (0 : Int32)), .val (.int (0 : Int32)), .unset] [])) _
    refine XS.iloadN X4.here hx rfl (hb hby d6_17) rfl ?_
    show Steps p.tables e below (T4.setTop (mkF m 18 #[.val (.ref a1), .val (.int p2), .val (.int (0 : Int32)), .val (.int (0 : Int32)), .unset] [(.int (0 : Int32))])) _
    refine XS.iloadN X4.here hx rfl (hb hby d6_18) rfl ?_
    show Steps p.tables e below (T4.setTop (mkF m 19 #[.val (.ref a1), .val (.int p2), .val (.int (0 : Int32)), .val (.int (0 : Int32)), .unset] [(.int (0 : Int32)), (.int (0 : Int32))])) _
    refine XS.iadd X4.here hx rfl (hb hby d6_19) rfl ?_
    show Steps p.tables e below (T4.setTop (mkF m 20 #[.val (.ref a1), .val (.int p2), .val (.int (0 : Int32)), .val (.int (0 : Int32)), .unset] [(.int ((0 : Int32) + (0 : Int32)))])) _
    refine XS.iconst X4.here hx rfl (hb hby d6_20) ?_
    show Steps p.tables e below (T4.setTop (mkF m 21 #[.val (.ref a1), .val (.int p2), .val (.int (0 : Int32)), .val (.int (0 : Int32)), .unset] [(.int (1 : Int32)), (.int ((0 : Int32) + (0 : Int32)))])) _
    refine XS.iushr X4.here hx rfl (hb hby d6_21) rfl ?_
    show Steps p.tables e below (T4.setTop (mkF m 22 #[.val (.ref a1), .val (.int p2), .val (.int (0 : Int32)), .val (.int (0 : Int32)), .unset] [(.int (0 : Int32))])) _
    refine XS.istore X4.here hx rfl (hb hby d6_22) rfl (l' := #[.val (.ref a1), .val (.int p2), .val (.int (0 : Int32)), .val (.int (0 : Int32)), .val (.int (0 : Int32))]) rfl ?_
    show Steps p.tables e below (T4.setTop (mkF m 24 #[.val (.ref a1), .val (.int p2), .val (.int (0 : Int32)), .val (.int (0 : Int32)), .val (.int (0 : Int32))] [])) _
    refine XS.iloadN X4.here hx rfl (hb hby d6_24) rfl ?_
    show Steps p.tables e below (T4.setTop (mkF m 25 #[.val (.ref a1), .val (.int p2), .val (.int (0 : Int32)), .val (.int (0 : Int32)), .val (.int (0 : Int32))] [(.int p2)])) _
    refine XS.aloadN X4.here hx rfl (hb hby d6_25) rfl rfl ?_
    show Steps p.tables e below (T4.setTop (mkF m 26 #[.val (.ref a1), .val (.int p2), .val (.int (0 : Int32)), .val (.int (0 : Int32)), .val (.int (0 : Int32))] [(.ref a1), (.int p2)])) _
    refine st5 _ ?_
    show Steps p.tables e below (T5.setTop (mkF m 29 #[.val (.ref a1), .val (.int p2), .val (.int (0 : Int32)), .val (.int (0 : Int32)), .val (.int (0 : Int32))] [(.ref w3), (.int p2)])) _
    refine XS.iconst X5.here hx rfl (hb hby d6_29) ?_
    show Steps p.tables e below (T5.setTop (mkF m 30 #[.val (.ref a1), .val (.int p2), .val (.int (0 : Int32)), .val (.int (0 : Int32)), .val (.int (0 : Int32))] [(.int (2 : Int32)), (.ref w3), (.int p2)])) _
    refine XS.iload X5.here hx rfl (hb hby d6_30) rfl ?_
    show Steps p.tables e below (T5.setTop (mkF m 32 #[.val (.ref a1), .val (.int p2), .val (.int (0 : Int32)), .val (.int (0 : Int32)), .val (.int (0 : Int32))] [(.int (0 : Int32)), (.int (2 : Int32)), (.ref w3), (.int p2)])) _
    refine XS.imul X5.here hx rfl (hb hby d6_32) rfl ?_
    show Steps p.tables e below (T5.setTop (mkF m 33 #[.val (.ref a1), .val (.int p2), .val (.int (0 : Int32)), .val (.int (0 : Int32)), .val (.int (0 : Int32))] [(.int (0 : Int32)), (.ref w3), (.int p2)])) _
    refine X5.iaload hx (j := (0 : Int32)) (v := (.int w6)) (by rw [e5]; exact Ar_w3.1) (State.isArrayOf_alike hZ.alike Ar_w3.2.1) Ar_w3.2.2 hin33 hat33 (g := (mkF m 33 #[.val (.ref a1), .val (.int p2), .val (.int (0 : Int32)), .val (.int (0 : Int32)), .val (.int (0 : Int32))] [(.int (0 : Int32)), (.ref w3), (.int p2)])) rfl rfl (hb hby d6_33) _ ?_
    show Steps p.tables e below (T5.setTop (mkF m 34 #[.val (.ref a1), .val (.int p2), .val (.int (0 : Int32)), .val (.int (0 : Int32)), .val (.int (0 : Int32))] [(.int w6), (.int p2)])) _
    refine XS.icmpYes X5.here hx rfl (pc0 := 34) (pc' := 45) rfl (hb hby d6_34) rfl (flt hc34).2.1 (by decide) (by decide) ?_
    show Steps p.tables e below (T5.setTop (mkF m 45 #[.val (.ref a1), .val (.int p2), .val (.int (0 : Int32)), .val (.int (0 : Int32)), .val (.int (0 : Int32))] [])) _
    refine XS.iloadN X5.here hx rfl (hb hby d6_45) rfl ?_
    show Steps p.tables e below (T5.setTop (mkF m 46 #[.val (.ref a1), .val (.int p2), .val (.int (0 : Int32)), .val (.int (0 : Int32)), .val (.int (0 : Int32))] [(.int p2)])) _
    refine XS.aloadN X5.here hx rfl (hb hby d6_46) rfl rfl ?_
    show Steps p.tables e below (T5.setTop (mkF m 47 #[.val (.ref a1), .val (.int p2), .val (.int (0 : Int32)), .val (.int (0 : Int32)), .val (.int (0 : Int32))] [(.ref a1), (.int p2)])) _
    refine st7 _ ?_
    show Steps p.tables e below (T7.setTop (mkF m 50 #[.val (.ref a1), .val (.int p2), .val (.int (0 : Int32)), .val (.int (0 : Int32)), .val (.int (0 : Int32))] [(.ref w3), (.int p2)])) _
    refine XS.iconst X7.here hx rfl (hb hby d6_50) ?_
    show Steps p.tables e below (T7.setTop (mkF m 51 #[.val (.ref a1), .val (.int p2), .val (.int (0 : Int32)), .val (.int (0 : Int32)), .val (.int (0 : Int32))] [(.int (2 : Int32)), (.ref w3), (.int p2)])) _
    refine XS.iload X7.here hx rfl (hb hby d6_51) rfl ?_
    show Steps p.tables e below (T7.setTop (mkF m 53 #[.val (.ref a1), .val (.int p2), .val (.int (0 : Int32)), .val (.int (0 : Int32)), .val (.int (0 : Int32))] [(.int (0 : Int32)), (.int (2 : Int32)), (.ref w3), (.int p2)])) _
    refine XS.imul X7.here hx rfl (hb hby d6_53) rfl ?_
    show Steps p.tables e below (T7.setTop (mkF m 54 #[.val (.ref a1), .val (.int p2), .val (.int (0 : Int32)), .val (.int (0 : Int32)), .val (.int (0 : Int32))] [(.int (0 : Int32)), (.ref w3), (.int p2)])) _
    refine XS.iconst X7.here hx rfl (hb hby d6_54) ?_
    show Steps p.tables e below (T7.setTop (mkF m 55 #[.val (.ref a1), .val (.int p2), .val (.int (0 : Int32)), .val (.int (0 : Int32)), .val (.int (0 : Int32))] [(.int (1 : Int32)), (.int (0 : Int32)), (.ref w3), (.int p2)])) _
    refine XS.iadd X7.here hx rfl (hb hby d6_55) rfl ?_
    show Steps p.tables e below (T7.setTop (mkF m 56 #[.val (.ref a1), .val (.int p2), .val (.int (0 : Int32)), .val (.int (0 : Int32)), .val (.int (0 : Int32))] [(.int (1 : Int32)), (.ref w3), (.int p2)])) _
    refine X7.iaload hx (j := (1 : Int32)) (v := (.int w8)) (by rw [e7]; exact Ar_w3.1) (State.isArrayOf_alike hZ.alike Ar_w3.2.1) Ar_w3.2.2 hin56 hat56 (g := (mkF m 56 #[.val (.ref a1), .val (.int p2), .val (.int (0 : Int32)), .val (.int (0 : Int32)), .val (.int (0 : Int32))] [(.int (1 : Int32)), (.ref w3), (.int p2)])) rfl rfl (hb hby d6_56) _ ?_
    show Steps p.tables e below (T7.setTop (mkF m 57 #[.val (.ref a1), .val (.int p2), .val (.int (0 : Int32)), .val (.int (0 : Int32)), .val (.int (0 : Int32))] [(.int w8), (.int p2)])) _
    refine XS.icmpYes X7.here hx rfl (pc0 := 57) (pc' := 68) rfl (hb hby d6_57) rfl (flt hc57).2.2.2 (by decide) (by decide) ?_
    show Steps p.tables e below (T7.setTop (mkF m 68 #[.val (.ref a1), .val (.int p2), .val (.int (0 : Int32)), .val (.int (0 : Int32)), .val (.int (0 : Int32))] [])) _
    refine XS.iconst X7.here hx rfl (hb hby d6_68) ?_
    show Steps p.tables e below (T7.setTop (mkF m 69 #[.val (.ref a1), .val (.int p2), .val (.int (0 : Int32)), .val (.int (0 : Int32)), .val (.int (0 : Int32))] [(.int (1 : Int32))])) _
    exact retN X7 hx (t := .boolean) Bd.returns (by simp) (hb hby d6_69) hr
  · show Q6a Z a1 p2 w3 cl_w3 w6 w8 h0 n0 _ T7.heap _
    rw [e7]
    exact ⟨rfl, N0, rfl⟩
theorem d6_37 : decode prog_3_method_10_code 37 = .ok (.iload 4, 2) := by decide +kernel
theorem d6_39 : decode prog_3_method_10_code 39 = .ok (.iconst 1, 1) := by decide +kernel
theorem d6_40 : decode prog_3_method_10_code 40 = .ok (.isub, 1) := by decide +kernel
theorem d6_41 : decode prog_3_method_10_code 41 = .ok (.istore_n 3, 1) := by decide +kernel
theorem d6_42 : decode prog_3_method_10_code 42 = .ok (.goto 28, 3) := by decide +kernel
theorem d6_70 : decode prog_3_method_10_code 70 = .ok (.goto (-58), 3) := by decide +kernel
theorem d6_73 : decode prog_3_method_10_code 73 = .ok (.iconst 0, 1) := by decide +kernel
theorem d6_74 : decode prog_3_method_10_code 74 = .ok (.ireturn, 1) := by decide +kernel
def Q6b (Z : State) (a1 : Addr) (p2 : Int32) (w3 : Addr) (cl_w3 : Cell) (w6 : Int32) (h0 : Heap) (n0 : Nat) (v : Option Value) (h : Heap) (L : List Loc) : Prop := v = some (.int (0 : Int32)) ∧ Fr n0 L ∧ h = h0
set_option maxRecDepth 65536 in
set_option maxHeartbeats 40000000 in
theorem rm6b (l : Launch) (Z : State) (a0 : Array Value) (hw : ∀ d ∈ tables_1, d.before a0 Z = true) (ws : List Jvm.Cond) (a1 : Addr) (p2 : Int32) (w3 : Addr) (cl_w3 : Cell) (w6 : Int32) (h0 : Heap) (n0 : Nat) (Z0 : n0 ≤ h0.size) (F_ranges_a1 : Fld Z h0 a1 "com/example/quadrille/quadrille/sparql/CodePointSet" "ranges" "[I" (.ref w3)) (Ar_w3 : Arr Z h0 w3 cl_w3 .int) (S_w3 : cl_w3.slots.size = (2 : Int32).toNatClampNeg) (N_w3 : ¬ (2 : Int32) < 0) (hin33 : ¬ ((0 : Int32) < 0 ∨ cl_w3.slots.size ≤ ((0 : Int32)).toNatClampNeg)) (hat33 : cl_w3.slots[((0 : Int32)).toNatClampNeg]? = some (.int w6)) (hnz8 : ¬ ((2 : Int32) = (0 : Int32))) (hc14 : ¬ ((0 : Int32) < (0 : Int32))) (hc34 : p2 < w6) (hc14 : (-1 : Int32) < (0 : Int32)) :
    MetFree l (⟨"com/example/quadrille/quadrille/sparql/CodePointSet", "contains", "(I)Z"⟩ : MethodName) (head1 (Jvm.Cond.code (⟨"com/example/quadrille/quadrille/sparql/CodePointSet", "contains", "(I)Z"⟩ : MethodName) prog_3_method_10_code 5 (some .boolean) :: ws) ({ frames := 0, cells := 0, slots := 0, locals := 0 } : Room)) (fun a U => a = #[(.ref a1), (.int p2)] ∧ Z.Warmed39 U.vm ∧ U.heap = h0) (fun _ _ _ _ _ => True) (fun _ U o U' => ∃ v L, o = .returned v ∧ Q6b Z a1 p2 w3 cl_w3 w6 h0 n0 v U'.heap L ∧ FrameEnd U o U' L ({ frames := 0, cells := 0, slots := 0, locals := 0 } : Room).cells ({ frames := 0, cells := 0, slots := 0, locals := 0 } : Room).slots) := by
  refine MetFree.of_bodySF (plainFor_of_name pn_6) hisR ?_
  intro p e s m args below meth c s₁ Bd hml0 hP hK
  obtain ⟨rfl, hZ, hh⟩ := hP
  have hx := Bd.exec
  have hby := Bd.bytes
  have hml : c.maxLocals = 5 := hml0
  have hown : s.vm.findClass "com/example/quadrille/quadrille/sparql/CodePointSet" = some m.cls := findClass_of_methodNamed Bd.named
  have hnm := (name_of_methodNamed Bd.named Bd.method).1
  have X0 : Stand p l e ({ frames := 0, cells := 0, slots := 0, locals := 0 } : Room) s m #[(.ref a1), (.int p2)] below meth c s₁ [] 0 0 := Stand.of_body Bd
  have e0 : s₁.heap = h0 := by rw [← hh, Bd.state]; rfl
  have N0 := Fr.nil n0
  have pre0 : ∀ t, Steps p.tables e below (s₁.setTop (mkF m 0 #[.val (.ref a1), .val (.int p2), .unset, .unset, .unset] [])) t → Steps p.tables e below (s₁.setTop (entryFrame m #[(.ref a1), (.int p2)] 5)) t := fun t k => castTop (ef_6 m a1 p2) k
  obtain ⟨T4, X4, e4, st4⟩ := getF X0 hx hZ hown (host := "") (Or.inl (hw _ (List.mem_of_getElem? (i := 22) rfl))) Via.refl e0 F_ranges_a1 (g := (mkF m 3 #[.val (.ref a1), .val (.int p2), .val (.int (0 : Int32)), .unset, .unset] [(.ref a1)])) rfl rfl (hb hby d6_3)
  obtain ⟨T5, X5, e5, st5⟩ := getF X4 hx hZ hown (host := "") (Or.inl (hw _ (List.mem_of_getElem? (i := 22) rfl))) Via.refl e4 F_ranges_a1 (g := (mkF m 26 #[.val (.ref a1), .val (.int p2), .val (.int (0 : Int32)), .val (.int (0 : Int32)), .val (.int (0 : Int32))] [(.ref a1), (.int p2)])) rfl rfl (hb hby d6_26)
  obtain ⟨fs, hr, hrun, hended, hW, hsame⟩ := X5.leave (v := some (.int (0 : Int32))) (fun h => by rw [Bd.returns] at h; cases h)
  refine ⟨_, _, pre0 _ ?_, hrun, hended, _, _, rfl, ?_, ⟨_, rfl⟩, hW, hsame.mono (by decide) (by decide)⟩
  · show Steps p.tables e below (s₁.setTop (mkF m 0 #[.val (.ref a1), .val (.int p2), .unset, .unset, .unset] [])) _
    refine XS.iconst X0.here hx rfl (hb hby d6_0) ?_
    show Steps p.tables e below (s₁.setTop (mkF m 1 #[.val (.ref a1), .val (.int p2), .unset, .unset, .unset] [(.int (0 : Int32))])) _
    refine XS.istoreN X0.here hx rfl (hb hby d6_1) rfl (l' := #[.val (.ref a1), .val (.int p2), .val (.int (0 : Int32)), .unset, .unset]) rfl ?_
    show Steps p.tables e below (s₁.setTop (mkF m 2 #[.val (.ref a1), .val (.int p2), .val (.int (0 : Int32)), .unset, .unset] [])) _
    refine XS.aloadN X0.here hx rfl (hb hby d6_2) rfl rfl ?_
    show Steps p.tables e below (s₁.setTop (mkF m 3 #[.val (.ref a1), .val (.int p2), .val (.int (0 : Int32)), .unset, .unset] [(.ref a1)])) _
    refine st4 _ ?_
    show Steps p.tables e below (T4.setTop (mkF m 6 #[.val (.ref a1), .val (.int p2), .val (.int (0 : Int32)), .unset, .unset] [(.ref w3)])) _
    refine X4.arraylength hx (by rw [e4]; exact Ar_w3.1) (State.isArrayOf_alike hZ.alike Ar_w3.2.1) (g := (mkF m 6 #[.val (.ref a1), .val (.int p2), .val (.int (0 : Int32)), .unset, .unset] [(.ref w3)])) rfl rfl (hb hby d6_6) _ ?_
    rw [len_of S_w3 N_w3]
    show Steps p.tables e below (T4.setTop (mkF m 7 #[.val (.ref a1), .val (.int p2), .val (.int (0 : Int32)), .unset, .unset] [(.int (2 : Int32))])) _
    refine XS.iconst X4.here hx rfl (hb hby d6_7) ?_
    show Steps p.tables e below (T4.setTop (mkF m 8 #[.val (.ref a1), .val (.int p2), .val (.int (0 : Int32)), .unset, .unset] [(.int (2 : Int32)), (.int (2 : Int32))])) _
    refine XS.idiv X4.here hx rfl (hb hby d6_8) rfl hnz8 ?_
    show Steps p.tables e below (T4.setTop (mkF m 9 #[.val (.ref a1), .val (.int p2), .val (.int (0 : Int32)), .unset, .unset] [(.int ((2 : Int32) / (2 : Int32)))])) _
    refine XS.iconst X4.here hx rfl (hb hby d6_9) ?_
    show Steps p.tables e below (T4.setTop (mkF m 10 #[.val (.ref a1), .val (.int p2), .val (.int (0 : Int32)), .unset, .unset] [(.int (1 : Int32)), (.int ((2 : Int32) / (2 : Int32)))])) _
    refine XS.isub X4.here hx rfl (hb hby d6_10) rfl ?_
    show Steps p.tables e below (T4.setTop (mkF m 11 #[.val (.ref a1), .val (.int p2), .val (.int (0 : Int32)), .unset, .unset] [(.int (0 : Int32))])) _
    refine XS.istoreN X4.here hx rfl (hb hby d6_11) rfl (l' := #[.val (.ref a1), .val (.int p2), .val (.int (0 : Int32)), .val (.int (0 : Int32)), .unset]) rfl ?_
    show Steps p.tables e below (T4.setTop (mkF m 12 #[.val (.ref a1), .val (.int p2), .val (.int (0 : Int32)), .val (.int (0 : Int32)), .unset] [])) _
    refine XS.iloadN X4.here hx rfl (hb hby d6_12) rfl ?_
    show Steps p.tables e below (T4.setTop (mkF m 13 #[.val (.ref a1), .val (.int p2), .val (.int (0 : Int32)), .val (.int (0 : Int32)), .unset] [(.int (0 : Int32))])) _
    refine XS.iloadN X4.here hx rfl (hb hby d6_13) rfl ?_
    show Steps p.tables e below (T4.setTop (mkF m 14 #[.val (.ref a1), .val (.int p2), .val (.int (0 : Int32)), .val (.int (0 : Int32)), .unset] [(.int (0 : Int32)), (.int (0 : Int32))])) _
    refine XS.icmpNo X4.here hx rfl (hb hby d6_14) rfl (flt (by decide : ¬ ((0 : Int32) < (0 : Int32)))).2.2.1 ?_
    show Steps p.tables e below (T4.setTop (mkF m 17 #[.val (.ref a1), .val (.int p2), .val (.int (0 : Int32)), .val (.int (0 : Int32)), .unset] [])) _
    refine XS.iloadN X4.here hx rfl (hb hby d6_17) rfl ?_
    show Steps p.tables e below (T4.setTop (mkF m 18 #[.val (.ref a1), .val (.int p2), .val (.int (0 : Int32)), .val (.int (0 : Int32)), .unset] [(.int (0 : Int32))])) _
    refine XS.iloadN X4.here hx rfl (hb hby d6_18) rfl ?_
    show Steps p.tables e below (T4.setTop (mkF m 19 #[.val (.ref a1), .val (.int p2), .val (.int (0 : Int32)), .val (.int (0 : Int32)), .unset] [(.int (0 : Int32)), (.int (0 : Int32))])) _
    refine XS.iadd X4.here hx rfl (hb hby d6_19) rfl ?_
    show Steps p.tables e below (T4.setTop (mkF m 20 #[.val (.ref a1), .val (.int p2), .val (.int (0 : Int32)), .val (.int (0 : Int32)), .unset] [(.int ((0 : Int32) + (0 : Int32)))])) _
    refine XS.iconst X4.here hx rfl (hb hby d6_20) ?_
    show Steps p.tables e below (T4.setTop (mkF m 21 #[.val (.ref a1), .val (.int p2), .val (.int (0 : Int32)), .val (.int (0 : Int32)), .unset] [(.int (1 : Int32)), (.int ((0 : Int32) + (0 : Int32)))])) _
    refine XS.iushr X4.here hx rfl (hb hby d6_21) rfl ?_
    show Steps p.tables e below (T4.setTop (mkF m 22 #[.val (.ref a1), .val (.int p2), .val (.int (0 : Int32)), .val (.int (0 : Int32)), .unset] [(.int (0 : Int32))])) _
    refine XS.istore X4.here hx rfl (hb hby d6_22) rfl (l' := #[.val (.ref a1), .val (.int p2), .val (.int (0 : Int32)), .val (.int (0 : Int32)), .val (.int (0 : Int32))]) rfl ?_
    show Steps p.tables e below (T4.setTop (mkF m 24 #[.val (.ref a1), .val (.int p2), .val (.int (0 : Int32)), .val (.int (0 : Int32)), .val (.int (0 : Int32))] [])) _
    refine XS.iloadN X4.here hx rfl (hb hby d6_24) rfl ?_
    show Steps p.tables e below (T4.setTop (mkF m 25 #[.val (.ref a1), .val (.int p2), .val (.int (0 : Int32)), .val (.int (0 : Int32)), .val (.int (0 : Int32))] [(.int p2)])) _
    refine XS.aloadN X4.here hx rfl (hb hby d6_25) rfl rfl ?_
    show Steps p.tables e below (T4.setTop (mkF m 26 #[.val (.ref a1), .val (.int p2), .val (.int (0 : Int32)), .val (.int (0 : Int32)), .val (.int (0 : Int32))] [(.ref a1), (.int p2)])) _
    refine st5 _ ?_
    show Steps p.tables e below (T5.setTop (mkF m 29 #[.val (.ref a1), .val (.int p2), .val (.int (0 : Int32)), .val (.int (0 : Int32)), .val (.int (0 : Int32))] [(.ref w3), (.int p2)])) _
    refine XS.iconst X5.here hx rfl (hb hby d6_29) ?_
    show Steps p.tables e below (T5.setTop (mkF m 30 #[.val (.ref a1), .val (.int p2), .val (.int (0 : Int32)), .val (.int (0 : Int32)), .val (.int (0 : Int32))] [(.int (2 : Int32)), (.ref w3), (.int p2)])) _
    refine XS.iload X5.here hx rfl (hb hby d6_30) rfl ?_
    show Steps p.tables e below (T5.setTop (mkF m 32 #[.val (.ref a1), .val (.int p2), .val (.int (0 : Int32)), .val (.int (0 : Int32)), .val (.int (0 : Int32))] [(.int (0 : Int32)), (.int (2 : Int32)), (.ref w3), (.int p2)])) _
    refine XS.imul X5.here hx rfl (hb hby d6_32) rfl ?_
    show Steps p.tables e below (T5.setTop (mkF m 33 #[.val (.ref a1), .val (.int p2), .val (.int (0 : Int32)), .val (.int (0 : Int32)), .val (.int (0 : Int32))] [(.int (0 : Int32)), (.ref w3), (.int p2)])) _
    refine X5.iaload hx (j := (0 : Int32)) (v := (.int w6)) (by rw [e5]; exact Ar_w3.1) (State.isArrayOf_alike hZ.alike Ar_w3.2.1) Ar_w3.2.2 hin33 hat33 (g := (mkF m 33 #[.val (.ref a1), .val (.int p2), .val (.int (0 : Int32)), .val (.int (0 : Int32)), .val (.int (0 : Int32))] [(.int (0 : Int32)), (.ref w3), (.int p2)])) rfl rfl (hb hby d6_33) _ ?_
    show Steps p.tables e below (T5.setTop (mkF m 34 #[.val (.ref a1), .val (.int p2), .val (.int (0 : Int32)), .val (.int (0 : Int32)), .val (.int (0 : Int32))] [(.int w6), (.int p2)])) _
    refine XS.icmpNo X5.here hx rfl (hb hby d6_34) rfl (tlt hc34).2.1 ?_
    show Steps p.tables e below (T5.setTop (mkF m 37 #[.val (.ref a1), .val (.int p2), .val (.int (0 : Int32)), .val (.int (0 : Int32)), .val (.int (0 : Int32))] [])) _
    refine XS.iload X5.here hx rfl (hb hby d6_37) rfl ?_
    show Steps p.tables e below (T5.setTop (mkF m 39 #[.val (.ref a1), .val (.int p2), .val (.int (0 : Int32)), .val (.int (0 : Int32)), .val (.int (0 : Int32))] [(.int (0 : Int32))])) _
    refine XS.iconst X5.here hx rfl (hb hby d6_39) ?_
    show Steps p.tables e below (T5.setTop (mkF m 40 #[.val (.ref a1), .val (.int p2), .val (.int (0 : Int32)), .val (.int (0 : Int32)), .val (.int (0 : Int32))] [(.int (1 : Int32)), (.int (0 : Int32))])) _
    refine XS.isub X5.here hx rfl (hb hby d6_40) rfl ?_
    show Steps p.tables e below (T5.setTop (mkF m 41 #[.val (.ref a1), .val (.int p2), .val (.int (0 : Int32)), .val (.int (0 : Int32)), .val (.int (0 : Int32))] [(.int (-1 : Int32))])) _
    refine XS.istoreN X5.here hx rfl (hb hby d6_41) rfl (l' := #[.val (.ref a1), .val (.int p2), .val (.int (0 : Int32)), .val (.int (-1 : Int32)), .val (.int (0 : Int32))]) rfl ?_
    show Steps p.tables e below (T5.setTop (mkF m 42 #[.val (.ref a1), .val (.int p2), .val (.int (0 : Int32)), .val (.int (-1 : Int32)), .val (.int (0 : Int32))] [])) _
    refine XS.goto X5.here hx rfl (pc0 := 42) (pc' := 70) rfl (hb hby d6_42) (by decide) (by decide) ?_
    show Steps p.tables e below (T5.setTop (mkF m 70 #[.val (.ref a1), .val (.int p2), .val (.int (0 : Int32)), .val (.int (-1 : Int32)), .val (.int (0 : Int32))] [])) _
    refine XS.goto X5.here hx rfl (pc0 := 70) (pc' := 12) rfl (hb hby d6_70) (by decide) (by decide) ?_
    show Steps p.tables e below (T5.setTop (mkF m 12 #[.val (.ref a1), .val (.int p2), .val (.int (0 : Int32)), .val (.int (-1 : Int32)), .val (.int (0 : Int32))] [])) _
    refine XS.iloadN X5.here hx rfl (hb hby d6_12) rfl ?_
    show Steps p.tables e below (T5.setTop (mkF m 13 #[.val (.ref a1), .val (.int p2), .val (.int (0 : Int32)), .val (.int (-1 : Int32)), .val (.int (0 : Int32))] [(.int (0 : Int32))])) _
    refine XS.iloadN X5.here hx rfl (hb hby d6_13) rfl ?_
    show Steps p.tables e below (T5.setTop (mkF m 14 #[.val (.ref a1), .val (.int p2), .val (.int (0 : Int32)), .val (.int (-1 : Int32)), .val (.int (0 : Int32))] [(.int (-1 : Int32)), (.int (0 : Int32))])) _
    refine XS.icmpYes X5.here hx rfl (pc0 := 14) (pc' := 73) rfl (hb hby d6_14) rfl (tlt hc14).2.2.1 (by decide) (by decide) ?_
    show Steps p.tables e below (T5.setTop (mkF m 73 #[.val (.ref a1), .val (.int p2), .val (.int (0 : Int32)), .val (.int (-1 : Int32)), .val (.int (0 : Int32))] [])) _
    refine XS.iconst X5.here hx rfl (hb hby d6_73) ?_
    show Steps p.tables e below (T5.setTop (mkF m 74 #[.val (.ref a1), .val (.int p2), .val (.int (0 : Int32)), .val (.int (-1 : Int32)), .val (.int (0 : Int32))] [(.int (0 : Int32))])) _
    exact retN X5 hx (t := .boolean) Bd.returns (by simp) (hb hby d6_74) hr
  · show Q6b Z a1 p2 w3 cl_w3 w6 h0 n0 _ T5.heap _
    rw [e5]
    exact ⟨rfl, N0, rfl⟩
theorem d6_60 : decode prog_3_method_10_code 60 = .ok (.iload 4, 2) := by decide +kernel
theorem d6_62 : decode prog_3_method_10_code 62 = .ok (.iconst 1, 1) := by decide +kernel
theorem d6_63 : decode prog_3_method_10_code 63 = .ok (.iadd, 1) := by decide +kernel
theorem d6_64 : decode prog_3_method_10_code 64 = .ok (.istore_n 2, 1) := by decide +kernel
theorem d6_65 : decode prog_3_method_10_code 65 = .ok (.goto 5, 3) := by decide +kernel
def Q6c (Z : State) (a1 : Addr) (p2 : Int32) (w3 : Addr) (cl_w3 : Cell) (w6 : Int32) (w8 : Int32) (h0 : Heap) (n0 : Nat) (v : Option Value) (h : Heap) (L : List Loc) : Prop := v = some (.int (0 : Int32)) ∧ Fr n0 L ∧ h = h0
set_option maxRecDepth 65536 in
set_option maxHeartbeats 40000000 in
theorem rm6c (l : Launch) (Z : State) (a0 : Array Value) (hw : ∀ d ∈ tables_1, d.before a0 Z = true) (ws : List Jvm.Cond) (a1 : Addr) (p2 : Int32) (w3 : Addr) (cl_w3 : Cell) (w6 : Int32) (w8 : Int32) (h0 : Heap) (n0 : Nat) (Z0 : n0 ≤ h0.size) (F_ranges_a1 : Fld Z h0 a1 "com/example/quadrille/quadrille/sparql/CodePointSet" "ranges" "[I" (.ref w3)) (Ar_w3 : Arr Z h0 w3 cl_w3 .int) (S_w3 : cl_w3.slots.size = (2 : Int32).toNatClampNeg) (N_w3 : ¬ (2 : Int32) < 0) (hin33 : ¬ ((0 : Int32) < 0 ∨ cl_w3.slots.size ≤ ((0 : Int32)).toNatClampNeg)) (hat33 : cl_w3.slots[((0 : Int32)).toNatClampNeg]? = some (.int w6)) (hin56 : ¬ ((1 : Int32) < 0 ∨ cl_w3.slots.size ≤ ((1 : Int32)).toNatClampNeg)) (hat56 : cl_w3.slots[((1 : Int32)).toNatClampNeg]? = some (.int w8)) (hnz8 : ¬ ((2 : Int32) = (0 : Int32))) (hc14 : ¬ ((0 : Int32) < (0 : Int32))) (hc34 : ¬ (p2 < w6)) (hc57 : w8 < p2) (hc14 : (0 : Int32) < (1 : Int32)) :
    MetFree l (⟨"com/example/quadrille/quadrille/sparql/CodePointSet", "contains", "(I)Z"⟩ : MethodName) (head1 (Jvm.Cond.code (⟨"com/example/quadrille/quadrille/sparql/CodePointSet", "contains", "(I)Z"⟩ : MethodName) prog_3_method_10_code 5 (some .boolean) :: ws) ({ frames := 0, cells := 0, slots := 0, locals := 0 } : Room)) (fun a U => a = #[(.ref a1), (.int p2)] ∧ Z.Warmed39 U.vm ∧ U.heap = h0) (fun _ _ _ _ _ => True) (fun _ U o U' => ∃ v L, o = .returned v ∧ Q6c Z a1 p2 w3 cl_w3 w6 w8 h0 n0 v U'.heap L ∧ FrameEnd U o U' L ({ frames := 0, cells := 0, slots := 0, locals := 0 } : Room).cells ({ frames := 0, cells := 0, slots := 0, locals := 0 } : Room).slots) := by
  refine MetFree.of_bodySF (plainFor_of_name pn_6) hisR ?_
  intro p e s m args below meth c s₁ Bd hml0 hP hK
  obtain ⟨rfl, hZ, hh⟩ := hP
  have hx := Bd.exec
  have hby := Bd.bytes
  have hml : c.maxLocals = 5 := hml0
  have hown : s.vm.findClass "com/example/quadrille/quadrille/sparql/CodePointSet" = some m.cls := findClass_of_methodNamed Bd.named
  have hnm := (name_of_methodNamed Bd.named Bd.method).1
  have X0 : Stand p l e ({ frames := 0, cells := 0, slots := 0, locals := 0 } : Room) s m #[(.ref a1), (.int p2)] below meth c s₁ [] 0 0 := Stand.of_body Bd
  have e0 : s₁.heap = h0 := by rw [← hh, Bd.state]; rfl
  have N0 := Fr.nil n0
  have pre0 : ∀ t, Steps p.tables e below (s₁.setTop (mkF m 0 #[.val (.ref a1), .val (.int p2), .unset, .unset, .unset] [])) t → Steps p.tables e below (s₁.setTop (entryFrame m #[(.ref a1), (.int p2)] 5)) t := fun t k => castTop (ef_6 m a1 p2) k
  obtain ⟨T4, X4, e4, st4⟩ := getF X0 hx hZ hown (host := "") (Or.inl (hw _ (List.mem_of_getElem? (i := 22) rfl))) Via.refl e0 F_ranges_a1 (g := (mkF m 3 #[.val (.ref a1), .val (.int p2), .val (.int (0 : Int32)), .unset, .unset] [(.ref a1)])) rfl rfl (hb hby d6_3)
  obtain ⟨T5, X5, e5, st5⟩ := getF X4 hx hZ hown (host := "") (Or.inl (hw _ (List.mem_of_getElem? (i := 22) rfl))) Via.refl e4 F_ranges_a1 (g := (mkF m 26 #[.val (.ref a1), .val (.int p2), .val (.int (0 : Int32)), .val (.int (0 : Int32)), .val (.int (0 : Int32))] [(.ref a1), (.int p2)])) rfl rfl (hb hby d6_26)
  obtain ⟨T7, X7, e7, st7⟩ := getF X5 hx hZ hown (host := "") (Or.inl (hw _ (List.mem_of_getElem? (i := 22) rfl))) Via.refl e5 F_ranges_a1 (g := (mkF m 47 #[.val (.ref a1), .val (.int p2), .val (.int (0 : Int32)), .val (.int (0 : Int32)), .val (.int (0 : Int32))] [(.ref a1), (.int p2)])) rfl rfl (hb hby d6_47)
  obtain ⟨fs, hr, hrun, hended, hW, hsame⟩ := X7.leave (v := some (.int (0 : Int32))) (fun h => by rw [Bd.returns] at h; cases h)
  refine ⟨_, _, pre0 _ ?_, hrun, hended, _, _, rfl, ?_, ⟨_, rfl⟩, hW, hsame.mono (by decide) (by decide)⟩
  · show Steps p.tables e below (s₁.setTop (mkF m 0 #[.val (.ref a1), .val (.int p2), .unset, .unset, .unset] [])) _
    refine XS.iconst X0.here hx rfl (hb hby d6_0) ?_
    show Steps p.tables e below (s₁.setTop (mkF m 1 #[.val (.ref a1), .val (.int p2), .unset, .unset, .unset] [(.int (0 : Int32))])) _
    refine XS.istoreN X0.here hx rfl (hb hby d6_1) rfl (l' := #[.val (.ref a1), .val (.int p2), .val (.int (0 : Int32)), .unset, .unset]) rfl ?_
    show Steps p.tables e below (s₁.setTop (mkF m 2 #[.val (.ref a1), .val (.int p2), .val (.int (0 : Int32)), .unset, .unset] [])) _
    refine XS.aloadN X0.here hx rfl (hb hby d6_2) rfl rfl ?_
    show Steps p.tables e below (s₁.setTop (mkF m 3 #[.val (.ref a1), .val (.int p2), .val (.int (0 : Int32)), .unset, .unset] [(.ref a1)])) _
    refine st4 _ ?_
    show Steps p.tables e below (T4.setTop (mkF m 6 #[.val (.ref a1), .val (.int p2), .val (.int (0 : Int32)), .unset, .unset] [(.ref w3)])) _
    refine X4.arraylength hx (by rw [e4]; exact Ar_w3.1) (State.isArrayOf_alike hZ.alike Ar_w3.2.1) (g := (mkF m 6 #[.val (.ref a1), .val (.int p2), .val (.int (0 : Int32)), .unset, .unset] [(.ref w3)])) rfl rfl (hb hby d6_6) _ ?_
    rw [len_of S_w3 N_w3]
    show Steps p.tables e below (T4.setTop (mkF m 7 #[.val (.ref a1), .val (.int p2), .val (.int (0 : Int32)), .unset, .unset] [(.int (2 : Int32))])) _
    refine XS.iconst X4.here hx rfl (hb hby d6_7) ?_
    show Steps p.tables e below (T4.setTop (mkF m 8 #[.val (.ref a1), .val (.int p2), .val (.int (0 : Int32)), .unset, .unset] [(.int (2 : Int32)), (.int (2 : Int32))])) _
    refine XS.idiv X4.here hx rfl (hb hby d6_8) rfl hnz8 ?_
    show Steps p.tables e below (T4.setTop (mkF m 9 #[.val (.ref a1), .val (.int p2), .val (.int (0 : Int32)), .unset, .unset] [(.int ((2 : Int32) / (2 : Int32)))])) _
    refine XS.iconst X4.here hx rfl (hb hby d6_9) ?_
    show Steps p.tables e below (T4.setTop (mkF m 10 #[.val (.ref a1), .val (.int p2), .val (.int (0 : Int32)), .unset, .unset] [(.int (1 : Int32)), (.int ((2 : Int32) / (2 : Int32)))])) _
    refine XS.isub X4.here hx rfl (hb hby d6_10) rfl ?_
    show Steps p.tables e below (T4.setTop (mkF m 11 #[.val (.ref a1), .val (.int p2), .val (.int (0 : Int32)), .unset, .unset] [(.int (0 : Int32))])) _
    refine XS.istoreN X4.here hx rfl (hb hby d6_11) rfl (l' := #[.val (.ref a1), .val (.int p2), .val (.int (0 : Int32)), .val (.int (0 : Int32)), .unset]) rfl ?_
    show Steps p.tables e below (T4.setTop (mkF m 12 #[.val (.ref a1), .val (.int p2), .val (.int (0 : Int32)), .val (.int (0 : Int32)), .unset] [])) _
    refine XS.iloadN X4.here hx rfl (hb hby d6_12) rfl ?_
    show Steps p.tables e below (T4.setTop (mkF m 13 #[.val (.ref a1), .val (.int p2), .val (.int (0 : Int32)), .val (.int (0 : Int32)), .unset] [(.int (0 : Int32))])) _
    refine XS.iloadN X4.here hx rfl (hb hby d6_13) rfl ?_
    show Steps p.tables e below (T4.setTop (mkF m 14 #[.val (.ref a1), .val (.int p2), .val (.int (0 : Int32)), .val (.int (0 : Int32)), .unset] [(.int (0 : Int32)), (.int (0 : Int32))])) _
    refine XS.icmpNo X4.here hx rfl (hb hby d6_14) rfl (flt (by decide : ¬ ((0 : Int32) < (0 : Int32)))).2.2.1 ?_
    show Steps p.tables e below (T4.setTop (mkF m 17 #[.val (.ref a1), .val (.int p2), .val (.int (0 : Int32)), .val (.int (0 : Int32)), .unset] [])) _
    refine XS.iloadN X4.here hx rfl (hb hby d6_17) rfl ?_
    show Steps p.tables e below (T4.setTop (mkF m 18 #[.val (.ref a1), .val (.int p2), .val (.int (0 : Int32)), .val (.int (0 : Int32)), .unset] [(.int (0 : Int32))])) _
    refine XS.iloadN X4.here hx rfl (hb hby d6_18) rfl ?_
    show Steps p.tables e below (T4.setTop (mkF m 19 #[.val (.ref a1), .val (.int p2), .val (.int (0 : Int32)), .val (.int (0 : Int32)), .unset] [(.int (0 : Int32)), (.int (0 : Int32))])) _
    refine XS.iadd X4.here hx rfl (hb hby d6_19) rfl ?_
    show Steps p.tables e below (T4.setTop (mkF m 20 #[.val (.ref a1), .val (.int p2), .val (.int (0 : Int32)), .val (.int (0 : Int32)), .unset] [(.int ((0 : Int32) + (0 : Int32)))])) _
    refine XS.iconst X4.here hx rfl (hb hby d6_20) ?_
    show Steps p.tables e below (T4.setTop (mkF m 21 #[.val (.ref a1), .val (.int p2), .val (.int (0 : Int32)), .val (.int (0 : Int32)), .unset] [(.int (1 : Int32)), (.int ((0 : Int32) + (0 : Int32)))])) _
    refine XS.iushr X4.here hx rfl (hb hby d6_21) rfl ?_
    show Steps p.tables e below (T4.setTop (mkF m 22 #[.val (.ref a1), .val (.int p2), .val (.int (0 : Int32)), .val (.int (0 : Int32)), .unset] [(.int (0 : Int32))])) _
    refine XS.istore X4.here hx rfl (hb hby d6_22) rfl (l' := #[.val (.ref a1), .val (.int p2), .val (.int (0 : Int32)), .val (.int (0 : Int32)), .val (.int (0 : Int32))]) rfl ?_
    show Steps p.tables e below (T4.setTop (mkF m 24 #[.val (.ref a1), .val (.int p2), .val (.int (0 : Int32)), .val (.int (0 : Int32)), .val (.int (0 : Int32))] [])) _
    refine XS.iloadN X4.here hx rfl (hb hby d6_24) rfl ?_
    show Steps p.tables e below (T4.setTop (mkF m 25 #[.val (.ref a1), .val (.int p2), .val (.int (0 : Int32)), .val (.int (0 : Int32)), .val (.int (0 : Int32))] [(.int p2)])) _
    refine XS.aloadN X4.here hx rfl (hb hby d6_25) rfl rfl ?_
    show Steps p.tables e below (T4.setTop (mkF m 26 #[.val (.ref a1), .val (.int p2), .val (.int (0 : Int32)), .val (.int (0 : Int32)), .val (.int (0 : Int32))] [(.ref a1), (.int p2)])) _
    refine st5 _ ?_
    show Steps p.tables e below (T5.setTop (mkF m 29 #[.val (.ref a1), .val (.int p2), .val (.int (0 : Int32)), .val (.int (0 : Int32)), .val (.int (0 : Int32))] [(.ref w3), (.int p2)])) _
    refine XS.iconst X5.here hx rfl (hb hby d6_29) ?_
    show Steps p.tables e below (T5.setTop (mkF m 30 #[.val (.ref a1), .val (.int p2), .val (.int (0 : Int32)), .val (.int (0 : Int32)), .val (.int (0 : Int32))] [(.int (2 : Int32)), (.ref w3), (.int p2)])) _
    refine XS.iload X5.here hx rfl (hb hby d6_30) rfl ?_
    show Steps p.tables e below (T5.setTop (mkF m 32 #[.val (.ref a1), .val (.int p2), .val (.int (0 : Int32)), .val (.int (0 : Int32)), .val (.int (0 : Int32))] [(.int (0 : Int32)), (.int (2 : Int32)), (.ref w3), (.int p2)])) _
    refine XS.imul X5.here hx rfl (hb hby d6_32) rfl ?_
    show Steps p.tables e below (T5.setTop (mkF m 33 #[.val (.ref a1), .val (.int p2), .val (.int (0 : Int32)), .val (.int (0 : Int32)), .val (.int (0 : Int32))] [(.int (0 : Int32)), (.ref w3), (.int p2)])) _
    refine X5.iaload hx (j := (0 : Int32)) (v := (.int w6)) (by rw [e5]; exact Ar_w3.1) (State.isArrayOf_alike hZ.alike Ar_w3.2.1) Ar_w3.2.2 hin33 hat33 (g := (mkF m 33 #[.val (.ref a1), .val (.int p2), .val (.int (0 : Int32)), .val (.int (0 : Int32)), .val (.int (0 : Int32))] [(.int (0 : Int32)), (.ref w3), (.int p2)])) rfl rfl (hb hby d6_33) _ ?_
    show Steps p.tables e below (T5.setTop (mkF m 34 #[.val (.ref a1), .val (.int p2), .val (.int (0 : Int32)), .val (.int (0 : Int32)), .val (.int (0 : Int32))] [(.int w6), (.int p2)])) _
    refine XS.icmpYes X5.here hx rfl (pc0 := 34) (pc' := 45) rfl (hb hby d6_34) rfl (flt hc34).2.1 (by decide) (by decide) ?_
    show Steps p.tables e below (T5.setTop (mkF m 45 #[.val (.ref a1), .val (.int p2), .val (.int (0 : Int32)), .val (.int (0 : Int32)), .val (.int (0 : Int32))] [])) _
    refine XS.iloadN X5.here hx rfl (hb hby d6_45) rfl ?_
    show Steps p.tables e below (T5.setTop (mkF m 46 #[.val (.ref a1), .val (.int p2), .val (.int (0 : Int32)), .val (.int (0 : Int32)), .val (.int (0 : Int32))] [(.int p2)])) _
    refine XS.aloadN X5.here hx rfl (hb hby d6_46) rfl rfl ?_
    show Steps p.tables e below (T5.setTop (mkF m 47 #[.val (.ref a1), .val (.int p2), .val (.int (0 : Int32)), .val (.int (0 : Int32)), .val (.int (0 : Int32))] [(.ref a1), (.int p2)])) _
    refine st7 _ ?_
    show Steps p.tables e below (T7.setTop (mkF m 50 #[.val (.ref a1), .val (.int p2), .val (.int (0 : Int32)), .val (.int (0 : Int32)), .val (.int (0 : Int32))] [(.ref w3), (.int p2)])) _
    refine XS.iconst X7.here hx rfl (hb hby d6_50) ?_
    show Steps p.tables e below (T7.setTop (mkF m 51 #[.val (.ref a1), .val (.int p2), .val (.int (0 : Int32)), .val (.int (0 : Int32)), .val (.int (0 : Int32))] [(.int (2 : Int32)), (.ref w3), (.int p2)])) _
    refine XS.iload X7.here hx rfl (hb hby d6_51) rfl ?_
    show Steps p.tables e below (T7.setTop (mkF m 53 #[.val (.ref a1), .val (.int p2), .val (.int (0 : Int32)), .val (.int (0 : Int32)), .val (.int (0 : Int32))] [(.int (0 : Int32)), (.int (2 : Int32)), (.ref w3), (.int p2)])) _
    refine XS.imul X7.here hx rfl (hb hby d6_53) rfl ?_
    show Steps p.tables e below (T7.setTop (mkF m 54 #[.val (.ref a1), .val (.int p2), .val (.int (0 : Int32)), .val (.int (0 : Int32)), .val (.int (0 : Int32))] [(.int (0 : Int32)), (.ref w3), (.int p2)])) _
    refine XS.iconst X7.here hx rfl (hb hby d6_54) ?_
    show Steps p.tables e below (T7.setTop (mkF m 55 #[.val (.ref a1), .val (.int p2), .val (.int (0 : Int32)), .val (.int (0 : Int32)), .val (.int (0 : Int32))] [(.int (1 : Int32)), (.int (0 : Int32)), (.ref w3), (.int p2)])) _
    refine XS.iadd X7.here hx rfl (hb hby d6_55) rfl ?_
    show Steps p.tables e below (T7.setTop (mkF m 56 #[.val (.ref a1), .val (.int p2), .val (.int (0 : Int32)), .val (.int (0 : Int32)), .val (.int (0 : Int32))] [(.int (1 : Int32)), (.ref w3), (.int p2)])) _
    refine X7.iaload hx (j := (1 : Int32)) (v := (.int w8)) (by rw [e7]; exact Ar_w3.1) (State.isArrayOf_alike hZ.alike Ar_w3.2.1) Ar_w3.2.2 hin56 hat56 (g := (mkF m 56 #[.val (.ref a1), .val (.int p2), .val (.int (0 : Int32)), .val (.int (0 : Int32)), .val (.int (0 : Int32))] [(.int (1 : Int32)), (.ref w3), (.int p2)])) rfl rfl (hb hby d6_56) _ ?_
    show Steps p.tables e below (T7.setTop (mkF m 57 #[.val (.ref a1), .val (.int p2), .val (.int (0 : Int32)), .val (.int (0 : Int32)), .val (.int (0 : Int32))] [(.int w8), (.int p2)])) _
    refine XS.icmpNo X7.here hx rfl (hb hby d6_57) rfl (tlt hc57).2.2.2 ?_
    show Steps p.tables e below (T7.setTop (mkF m 60 #[.val (.ref a1), .val (.int p2), .val (.int (0 : Int32)), .val (.int (0 : Int32)), .val (.int (0 : Int32))] [])) _
    refine XS.iload X7.here hx rfl (hb hby d6_60) rfl ?_
    show Steps p.tables e below (T7.setTop (mkF m 62 #[.val (.ref a1), .val (.int p2), .val (.int (0 : Int32)), .val (.int (0 : Int32)), .val (.int (0 : Int32))] [(.int (0 : Int32))])) _
    refine XS.iconst X7.here hx rfl (hb hby d6_62) ?_
    show Steps p.tables e below (T7.setTop (mkF m 63 #[.val (.ref a1), .val (.int p2), .val (.int (0 : Int32)), .val (.int (0 : Int32)), .val (.int (0 : Int32))] [(.int (1 : Int32)), (.int (0 : Int32))])) _
    refine XS.iadd X7.here hx rfl (hb hby d6_63) rfl ?_
    show Steps p.tables e below (T7.setTop (mkF m 64 #[.val (.ref a1), .val (.int p2), .val (.int (0 : Int32)), .val (.int (0 : Int32)), .val (.int (0 : Int32))] [(.int (1 : Int32))])) _
    refine XS.istoreN X7.here hx rfl (hb hby d6_64) rfl (l' := #[.val (.ref a1), .val (.int p2), .val (.int (1 : Int32)), .val (.int (0 : Int32)), .val (.int (0 : Int32))]) rfl ?_
    show Steps p.tables e below (T7.setTop (mkF m 65 #[.val (.ref a1), .val (.int p2), .val (.int (1 : Int32)), .val (.int (0 : Int32)), .val (.int (0 : Int32))] [])) _
    refine XS.goto X7.here hx rfl (pc0 := 65) (pc' := 70) rfl (hb hby d6_65) (by decide) (by decide) ?_
    show Steps p.tables e below (T7.setTop (mkF m 70 #[.val (.ref a1), .val (.int p2), .val (.int (1 : Int32)), .val (.int (0 : Int32)), .val (.int (0 : Int32))] [])) _
    refine XS.goto X7.here hx rfl (pc0 := 70) (pc' := 12) rfl (hb hby d6_70) (by decide) (by decide) ?_
    show Steps p.tables e below (T7.setTop (mkF m 12 #[.val (.ref a1), .val (.int p2), .val (.int (1 : Int32)), .val (.int (0 : Int32)), .val (.int (0 : Int32))] [])) _
    refine XS.iloadN X7.here hx rfl (hb hby d6_12) rfl ?_
    show Steps p.tables e below (T7.setTop (mkF m 13 #[.val (.ref a1), .val (.int p2), .val (.int (1 : Int32)), .val (.int (0 : Int32)), .val (.int (0 : Int32))] [(.int (1 : Int32))])) _
    refine XS.iloadN X7.here hx rfl (hb hby d6_13) rfl ?_
    show Steps p.tables e below (T7.setTop (mkF m 14 #[.val (.ref a1), .val (.int p2), .val (.int (1 : Int32)), .val (.int (0 : Int32)), .val (.int (0 : Int32))] [(.int (0 : Int32)), (.int (1 : Int32))])) _
    refine XS.icmpYes X7.here hx rfl (pc0 := 14) (pc' := 73) rfl (hb hby d6_14) rfl (tlt hc14).2.2.1 (by decide) (by decide) ?_
    show Steps p.tables e below (T7.setTop (mkF m 73 #[.val (.ref a1), .val (.int p2), .val (.int (1 : Int32)), .val (.int (0 : Int32)), .val (.int (0 : Int32))] [])) _
    refine XS.iconst X7.here hx rfl (hb hby d6_73) ?_
    show Steps p.tables e below (T7.setTop (mkF m 74 #[.val (.ref a1), .val (.int p2), .val (.int (1 : Int32)), .val (.int (0 : Int32)), .val (.int (0 : Int32))] [(.int (0 : Int32))])) _
    exact retN X7 hx (t := .boolean) Bd.returns (by simp) (hb hby d6_74) hr
  · show Q6c Z a1 p2 w3 cl_w3 w6 w8 h0 n0 _ T7.heap _
    rw [e7]
    exact ⟨rfl, N0, rfl⟩
theorem pd_6 : parseMethodDescriptor "(I)Z" = some ⟨[.int], (some .boolean)⟩ := by decide +kernel
def own_q (pp : Int32) (qq : Int32) (pm : Int32) : Int32 := (if (pm &&& (1 : Int32)) = (0 : Int32) then qq else pp)
theorem own_cp (x : Int32) : 0 ≤ ((x &&& (2097151 : Int32)) - (x &&& (2097151 : Int32)) / (1114112 : Int32) * (1114112 : Int32)).toInt ∧ ((x &&& (2097151 : Int32)) - (x &&& (2097151 : Int32)) / (1114112 : Int32) * (1114112 : Int32)).toInt ≤ 1114111 := by
  have a := c_mask x 2097151 21 (by decide) (by decide)
  generalize x &&& (2097151 : Int32) = y at *
  have k : (1114112 : Int32).toInt = 1114112 := by decide
  have d := (c_idiv y 1114112 1114112 k (by decide)).1
  have m := c_imul (y / 1114112) 1114112
  have s := c_isub y (y / 1114112 * 1114112)
  have r1 := rng32 (y / 1114112 * 1114112)
  have r2 := rng32 (y - y / 1114112 * 1114112)
  have d1 := d (by omega)
  rw [k, d1] at m
  omega
theorem own_q_rng {pp qq pm : Int32} (h1 : 0 ≤ pp.toInt ∧ pp.toInt ≤ 1114111) (h2 : 0 ≤ qq.toInt ∧ qq.toInt ≤ 1114111) : 0 ≤ (own_q pp qq pm).toInt ∧ (own_q pp qq pm).toInt ≤ 1114111 := by
  unfold own_q
  split
  · exact h2
  · exact h1
theorem own_min_max {a b : Int32} (h1 : 0 ≤ a.toInt ∧ a.toInt ≤ 1114111) (h2 : 0 ≤ b.toInt ∧ b.toInt ≤ 1114111) : 0 ≤ (own_min a b).toInt ∧ (own_min a b).toInt ≤ (own_max a b).toInt ∧ (own_max a b).toInt ≤ 1114111 := by
  by_cases h : b < a
  · have g := h
    rw [Int32.lt_iff_toInt_lt] at g
    have n : ¬ a < b := by rw [Int32.lt_iff_toInt_lt]; omega
    have e1 : own_min a b = b := by unfold own_min; rw [if_pos h]
    have e2 : own_max a b = a := by unfold own_max; rw [if_neg n]
    rw [e1, e2]; omega
  · have g := h
    rw [Int32.lt_iff_toInt_lt] at g
    have e1 : own_min a b = a := by unfold own_min; rw [if_neg h]
    by_cases n : a < b
    · have e2 : own_max a b = b := by unfold own_max; rw [if_pos n]
      rw [e1, e2]; omega
    · have e2 : own_max a b = a := by unfold own_max; rw [if_neg n]
      rw [e1, e2]; omega
theorem own_mid {a b : Int32} (h1 : 0 ≤ a.toInt) (h2 : a.toInt ≤ b.toInt) (h3 : b.toInt ≤ 1114111) : a.toInt ≤ (a + (b - a) / (2 : Int32)).toInt ∧ (a + (b - a) / (2 : Int32)).toInt ≤ b.toInt := by
  have s := c_isub b a
  have r1 := rng32 (b - a)
  have d := (c_idiv (b - a) 2 2 (by decide) (by decide)).1
  have d1 := d (by omega)
  have t := c_iadd a ((b - a) / 2)
  have r2 := rng32 (a + (b - a) / 2)
  rw [d1] at t
  omega
theorem own_lt {x y : Int32} (h : x.toInt < y.toInt) : x < y := by rw [Int32.lt_iff_toInt_lt]; exact h
theorem own_nlt {x y : Int32} (h : y.toInt ≤ x.toInt) : ¬ x < y := by rw [Int32.lt_iff_toInt_lt]; omega
theorem own_le {x y : Int32} (h : ¬ x < y) : y.toInt ≤ x.toInt := by rw [Int32.lt_iff_toInt_lt] at h; omega
theorem own_dec {x : Int32} (h : 0 ≤ x.toInt) : (x - (1 : Int32)).toInt = x.toInt - 1 := by
  have a := c_isub x 1
  have b := rng32 (x - 1)
  have d := rng32 x
  have k : (1 : Int32).toInt = 1 := by decide
  rw [k] at a
  omega
theorem own_inc {x : Int32} (h : x.toInt ≤ 1114111) : (x + (1 : Int32)).toInt = x.toInt + 1 := by
  have a := c_iadd x 1
  have b := rng32 (x + 1)
  have d := rng32 x
  have k : (1 : Int32).toInt = 1 := by decide
  rw [k] at a
  omega
theorem pn_0 : plainName "com/example/quadrille/quadrille/sparql/CodePointSetRangePinLaw" = true := by first | (simp [plainName, overriddenIn]; done) | decide +kernel
theorem ef_0 (m : MethodId) (pa : Int32) (pb : Int32) (px : Int32) (pm : Int32) : entryFrame m #[(.int pa), (.int pb), (.int px), (.int pm)] maxLocals = mkF m 0 #[.val (.int pa), .val (.int pb), .val (.int px), .val (.int pm), .unset, .unset, .unset, .unset, .unset, .unset, .unset, .unset] [] := by first | (simp [entryFrame, mkF, argsToLocals, Value.category, maxLocals]; done) | rfl
def Q0 (Z : State) (pa : Int32) (pb : Int32) (px : Int32) (pm : Int32) (h0 : Heap) (n0 : Nat) (v : Option Value) (h : Heap) (L : List Loc) : Prop := v = some (.int 1) ∧ Fr n0 L
set_option maxRecDepth 65536 in
set_option maxHeartbeats 40000000 in
theorem rm0 (l : Launch) (Z : State) (a0 : Array Value) (hw : ∀ d ∈ tables_1, d.before a0 Z = true) (ws : List Jvm.Cond) (pa : Int32) (pb : Int32) (px : Int32) (pm : Int32)  (h0 : Heap) (n0 : Nat) (Z0 : n0 ≤ h0.size)  :
    MetFree l x (head1 (Jvm.Cond.code x code maxLocals ret :: ws) room_1) (fun a U => a = #[(.int pa), (.int pb), (.int px), (.int pm)] ∧ Z.Warmed39 U.vm ∧ U.heap = h0) (fun _ _ _ _ _ => True) (fun _ U o U' => ∃ v L, o = .returned v ∧ Q0 Z pa pb px pm  h0 n0 v U'.heap L ∧ FrameEnd U o U' L room_1.cells room_1.slots) := by
  refine MetFree.of_bodySF (plainFor_of_name pn_0) hisR ?_
  intro p e s m args below meth c s₁ Bd hml0 hP hK
  obtain ⟨rfl, hZ, hh⟩ := hP
  have hx := Bd.exec
  have hby := Bd.bytes
  have hml : c.maxLocals = 12 := hml0
  have hown : s.vm.findClass "com/example/quadrille/quadrille/sparql/CodePointSetRangePinLaw" = some m.cls := findClass_of_methodNamed Bd.named
  have hnm := (name_of_methodNamed Bd.named Bd.method).1
  have X0 : Stand p l e room_1 s m #[(.int pa), (.int pb), (.int px), (.int pm)] below meth c s₁ [] 0 0 := Stand.of_body Bd
  have e0 : s₁.heap = h0 := by rw [← hh, Bd.state]; rfl
  have N0 := Fr.nil n0
  have pre0 : ∀ t, Steps p.tables e below (s₁.setTop (mkF m 0 #[.val (.int pa), .val (.int pb), .val (.int px), .val (.int pm), .unset, .unset, .unset, .unset, .unset, .unset, .unset, .unset] [])) t → Steps p.tables e below (s₁.setTop (entryFrame m #[(.int pa), (.int pb), (.int px), (.int pm)] maxLocals)) t := fun t k => castTop (ef_0 m pa pb px pm) k
  obtain ⟨pp, hpp⟩ : ∃ z, z = ((pa &&& (2097151 : Int32)) - (pa &&& (2097151 : Int32)) / (1114112 : Int32) * (1114112 : Int32)) := ⟨_, rfl⟩
  obtain ⟨qq, hqq⟩ : ∃ z, z = ((pb &&& (2097151 : Int32)) - (pb &&& (2097151 : Int32)) / (1114112 : Int32) * (1114112 : Int32)) := ⟨_, rfl⟩
  have bp := own_cp pa
  rw [← hpp] at bp
  have bq := own_cp pb
  rw [← hqq] at bq
  have s18 : ∀ t, Steps p.tables e below (s₁.setTop (mkF m 28 #[.val (.int pa), .val (.int pb), .val (.int px), .val (.int pm), .val (.int pp), .val (.int (own_q pp qq pm)), .unset, .unset, .unset, .unset, .unset, .unset] [])) t → Steps p.tables e below (s₁.setTop (mkF m 18 #[.val (.int pa), .val (.int pb), .val (.int px), .val (.int pm), .val (.int pp), .val (.int qq), .unset, .unset, .unset, .unset, .unset, .unset] [])) t := by
    intro t k
    refine XS.iloadN X0.here hx rfl (hb hby at_18) rfl ?_
    show Steps p.tables e below (s₁.setTop (mkF m 19 #[.val (.int pa), .val (.int pb), .val (.int px), .val (.int pm), .val (.int pp), .val (.int qq), .unset, .unset, .unset, .unset, .unset, .unset] [(.int pm)])) _
    refine XS.iconst X0.here hx rfl (hb hby at_19) ?_
    show Steps p.tables e below (s₁.setTop (mkF m 20 #[.val (.int pa), .val (.int pb), .val (.int px), .val (.int pm), .val (.int pp), .val (.int qq), .unset, .unset, .unset, .unset, .unset, .unset] [(.int (1 : Int32)), (.int pm)])) _
    refine XS.iand X0.here hx rfl (hb hby at_20) rfl ?_
    show Steps p.tables e below (s₁.setTop (mkF m 21 #[.val (.int pa), .val (.int pb), .val (.int px), .val (.int pm), .val (.int pp), .val (.int qq), .unset, .unset, .unset, .unset, .unset, .unset] [(.int (pm &&& (1 : Int32)))])) _
    by_cases h21 : (pm &&& (1 : Int32)) = (0 : Int32)
    · refine XS.ifYes X0.here hx rfl (pc0 := 21) (pc' := 28) rfl (hb hby at_21) rfl ((if0 _ _).trans (teq h21).1) (by decide) (by decide) ?_
      show Steps p.tables e below (s₁.setTop (mkF m 28 #[.val (.int pa), .val (.int pb), .val (.int px), .val (.int pm), .val (.int pp), .val (.int qq), .unset, .unset, .unset, .unset, .unset, .unset] [])) _
      unfold own_q at k
      rw [if_pos h21] at k
      exact k
    · refine XS.ifNo X0.here hx rfl (hb hby at_21) rfl ((if0 _ _).trans (feq h21).1) ?_
      show Steps p.tables e below (s₁.setTop (mkF m 24 #[.val (.int pa), .val (.int pb), .val (.int px), .val (.int pm), .val (.int pp), .val (.int qq), .unset, .unset, .unset, .unset, .unset, .unset] [])) _
      refine XS.iload X0.here hx rfl (hb hby at_24) rfl ?_
      show Steps p.tables e below (s₁.setTop (mkF m 26 #[.val (.int pa), .val (.int pb), .val (.int px), .val (.int pm), .val (.int pp), .val (.int qq), .unset, .unset, .unset, .unset, .unset, .unset] [(.int pp)])) _
      refine XS.istore X0.here hx rfl (hb hby at_26) rfl (l' := #[.val (.int pa), .val (.int pb), .val (.int px), .val (.int pm), .val (.int pp), .val (.int pp), .unset, .unset, .unset, .unset, .unset, .unset]) rfl ?_
      show Steps p.tables e below (s₁.setTop (mkF m 28 #[.val (.int pa), .val (.int pb), .val (.int px), .val (.int pm), .val (.int pp), .val (.int pp), .unset, .unset, .unset, .unset, .unset, .unset] [])) _
      unfold own_q at k
      rw [if_neg h21] at k
      exact k
  obtain ⟨q2, hq2⟩ : ∃ z, z = own_q pp qq pm := ⟨_, rfl⟩
  have bq2 := own_q_rng (pm := pm) bp bq
  rw [← hq2] at bq2 s18
  obtain ⟨_, _, ⟨T1, L1, k1, n1⟩, -, X1, ⟨Lc1, hQ1, l1, y1, z1⟩, st1⟩ := Jvm.LawKit.callS X0 hx (y := (⟨"java/lang/Math", "min", "(II)I"⟩ : MethodName)) hown (mvT hZ (hw _ (List.mem_of_getElem? (i := 2) rfl))) (mvT hZ (hw _ (List.mem_of_getElem? (i := 3) rfl))) (mvT hZ (hw _ (List.mem_of_getElem? (i := 4) rfl))) (mvT hZ (hw _ (List.mem_of_getElem? (i := 5) rfl))) (by decide) (backOf (W := 0) (rm1 l Z a0 hw [] pp q2 h0 n0 Z0) hZ (hw _ (List.mem_of_getElem? (i := 5) rfl)) (hw _ (List.mem_of_getElem? (i := 4) rfl)) (by decide) (by decide)) (g := (mkF m 32 #[.val (.int pa), .val (.int pb), .val (.int px), .val (.int pm), .val (.int pp), .val (.int q2), .unset, .unset, .unset, .unset, .unset, .unset] [(.int q2), (.int pp)])) rfl (by rw [hml]; rfl) (argsL := [(.int pp), (.int q2)]) (rest := []) (lenOf pd_1 rfl) rfl (by show 2 * 0 + _ ≤ _; exact Nat.le_of_eq rfl) (hb hby at_32) (fun _ _ => ⟨rfl, e0, (by decide : 0 + 0 ≤ _), (by decide : 0 + 0 ≤ _)⟩)
  dsimp only [Pt.U, Pt.locs, Pt.cells, Pt.slots] at X1 l1 y1 z1 st1 hQ1
  subst l1 y1 z1
  obtain ⟨rfl, Nq1, e1⟩ := hQ1
  have N1 := Fr.app N0 Nq1
  obtain ⟨fi, hfi⟩ : ∃ z, z = own_min pp q2 := ⟨_, rfl⟩
  obtain ⟨_, _, ⟨T2, L2, k2, n2⟩, -, X2, ⟨Lc2, hQ2, l2, y2, z2⟩, st2⟩ := Jvm.LawKit.callS X1 hx (y := (⟨"java/lang/Math", "max", "(II)I"⟩ : MethodName)) hown (mvT hZ (hw _ (List.mem_of_getElem? (i := 6) rfl))) (mvT hZ (hw _ (List.mem_of_getElem? (i := 7) rfl))) (mvT hZ (hw _ (List.mem_of_getElem? (i := 4) rfl))) (mvT hZ (hw _ (List.mem_of_getElem? (i := 8) rfl))) (by decide) (backOf (W := 0) (rm2 l Z a0 hw [] pp q2 h0 n0 Z0) hZ (hw _ (List.mem_of_getElem? (i := 8) rfl)) (hw _ (List.mem_of_getElem? (i := 4) rfl)) (by decide) (by decide)) (g := (mkF m 41 #[.val (.int pa), .val (.int pb), .val (.int px), .val (.int pm), .val (.int pp), .val (.int q2), .val (.int fi), .unset, .unset, .unset, .unset, .unset] [(.int q2), (.int pp)])) rfl (by rw [hml]; rfl) (argsL := [(.int pp), (.int q2)]) (rest := []) (lenOf pd_2 rfl) rfl (by show 2 * 0 + _ ≤ _; exact Nat.le_of_eq rfl) (hb hby at_41) (fun _ _ => ⟨rfl, e1, (by decide : 0 + 0 ≤ _), (by decide : 0 + 0 ≤ _)⟩)
  dsimp only [Pt.U, Pt.locs, Pt.cells, Pt.slots] at X2 l2 y2 z2 st2 hQ2
  subst l2 y2 z2
  obtain ⟨rfl, Nq2, e2⟩ := hQ2
  have N2 := Fr.app N1 Nq2
  obtain ⟨la, hla⟩ : ∃ z, z = own_max pp q2 := ⟨_, rfl⟩
  have bm := own_min_max bp bq2
  rw [← hfi, ← hla] at bm
  obtain ⟨_, _, ⟨T3, L3, k3, n3⟩, -, X3, ⟨Lc3, hQ3, l3, y3, z3⟩, st3⟩ := Jvm.LawKit.callS X2 hx (y := (⟨"com/example/quadrille/quadrille/sparql/CodePointSet", "range", "(II)Lcom/example/quadrille/quadrille/sparql/CodePointSet;"⟩ : MethodName)) hown (mvT hZ (hw _ (List.mem_of_getElem? (i := 9) rfl))) (mvT hZ (hw _ (List.mem_of_getElem? (i := 10) rfl))) (mvT hZ (hw _ (List.mem_of_getElem? (i := 11) rfl))) (mvT hZ (hw _ (List.mem_of_getElem? (i := 12) rfl))) (by decide) (backOf (W := 0) (rm3 l Z a0 hw [] fi la h0 n0 Z0) hZ (hw _ (List.mem_of_getElem? (i := 12) rfl)) (hw _ (List.mem_of_getElem? (i := 11) rfl)) (by decide) (by decide)) (g := (mkF m 50 #[.val (.int pa), .val (.int pb), .val (.int px), .val (.int pm), .val (.int pp), .val (.int q2), .val (.int fi), .val (.int la), .unset, .unset, .unset, .unset] [(.int la), (.int fi)])) rfl (by rw [hml]; rfl) (argsL := [(.int fi), (.int la)]) (rest := []) (lenOf pd_3 rfl) rfl (by show 2 * 0 + _ ≤ _; exact Nat.le_of_eq rfl) (hb hby at_50) (fun _ _ => ⟨rfl, e2, (by decide : 0 + 2 ≤ _), (by decide : 0 + 3 ≤ _)⟩)
  dsimp only [Pt.U, Pt.locs, Pt.cells, Pt.slots] at X3 l3 y3 z3 st3 hQ3
  subst l3 y3 z3
  obtain ⟨Nq3, Z3, ob, oa, kk, rfl, Ex3, Fd3, V3⟩ := hQ3
  have N3 := Fr.app N2 Nq3
  obtain ⟨hh3, ehh3⟩ : ∃ z, z = T3.heap := ⟨_, rfl⟩
  rw [← ehh3] at Z3 Ex3 Fd3 V3
  have e3 : T3.heap = hh3 := ehh3.symm
  obtain ⟨cl, Ar3, qc3, S3, M3, H3, G3⟩ := V3
  have hinA : ¬ ((0 : Int32) < 0 ∨ cl.slots.size ≤ ((0 : Int32)).toNatClampNeg) := inb_of S3 ⟨by decide, by decide⟩
  have hinB : ¬ ((1 : Int32) < 0 ∨ cl.slots.size ≤ ((1 : Int32)).toNatClampNeg) := inb_of S3 ⟨by decide, by decide⟩
  have hatA : cl.slots[((0 : Int32)).toNatClampNeg]? = some (.int fi) := H3.at hinA rfl
  have hatB : cl.slots[((1 : Int32)).toNatClampNeg]? = some (.int la) := H3.at hinB rfl
  obtain ⟨md, hmd⟩ : ∃ z, z = (fi + ((la - fi) / (2 : Int32))) := ⟨_, rfl⟩
  have bd : fi.toInt ≤ md.toInt ∧ md.toInt ≤ la.toInt := by rw [hmd]; exact own_mid bm.1 bm.2.1 bm.2.2
  have bf := own_dec bm.1
  have bl := own_inc bm.2.2
  obtain ⟨cq4, kq4, qa4, qb4, qc4⟩ := isOf hZ e3 Ex3
  obtain ⟨_, _, ⟨T4, L4, k4, n4⟩, -, X4, ⟨Lc4, hQ4, l4, y4, z4⟩, st4⟩ := X3.virtualBack hx (y := (⟨"com/example/quadrille/quadrille/sparql/CodePointSet", "contains", "(I)Z"⟩ : MethodName)) (z := (⟨"com/example/quadrille/quadrille/sparql/CodePointSet", "contains", "(I)Z"⟩ : MethodName)) hown (mvT hZ (hw _ (List.mem_of_getElem? (i := 24) rfl))) (mvT hZ (hw _ (List.mem_of_getElem? (i := 25) rfl))) (notFace_of_selects (args := #[]) (mvT hZ (hw _ (List.mem_of_getElem? (i := 27) rfl)))) (mvT hZ (hw _ (List.mem_of_getElem? (i := 27) rfl))) (mvT hZ (hw _ (List.mem_of_getElem? (i := 26) rfl))) (by decide) (backOf (W := 0) (rm6a l Z a0 hw [] ob fi oa cl fi la hh3 n0 Z3 Fd3 Ar3 S3 M3 hinA hatA hinB hatB (by decide) (by decide) (own_nlt (by omega)) (own_nlt (by omega))) hZ (hw _ (List.mem_of_getElem? (i := 28) rfl)) (hw _ (List.mem_of_getElem? (i := 11) rfl)) (by decide) (by decide)) qa4 qc4 (g := (mkF m 71 #[.val (.int pa), .val (.int pb), .val (.int px), .val (.int pm), .val (.int pp), .val (.int q2), .val (.int fi), .val (.int la), .val (.ref ob), .val (.int md), .unset, .unset] [(.int fi), (.ref ob)])) rfl (by rw [hml]; rfl) (Steps.refl _) (argsL := [(.int fi)]) (rest := []) (lenOf pd_6 rfl) rfl (by show 2 * 0 + _ ≤ _; exact Nat.le_of_eq rfl) (hb hby at_71) (fun _ _ => ⟨rfl, e3, (by decide : 2 + 0 ≤ _), (by decide : 3 + 0 ≤ _)⟩)
  dsimp only [Pt.U, Pt.locs, Pt.cells, Pt.slots] at X4 l4 y4 z4 st4 hQ4
  subst l4 y4 z4
  obtain ⟨rfl, Nq4, e4⟩ := hQ4
  have N4 := Fr.app N3 Nq4
  obtain ⟨cq5, kq5, qa5, qb5, qc5⟩ := isOf hZ e4 Ex3
  obtain ⟨_, _, ⟨T5, L5, k5, n5⟩, -, X5, ⟨Lc5, hQ5, l5, y5, z5⟩, st5⟩ := X4.virtualBack hx (y := (⟨"com/example/quadrille/quadrille/sparql/CodePointSet", "contains", "(I)Z"⟩ : MethodName)) (z := (⟨"com/example/quadrille/quadrille/sparql/CodePointSet", "contains", "(I)Z"⟩ : MethodName)) hown (mvT hZ (hw _ (List.mem_of_getElem? (i := 24) rfl))) (mvT hZ (hw _ (List.mem_of_getElem? (i := 25) rfl))) (notFace_of_selects (args := #[]) (mvT hZ (hw _ (List.mem_of_getElem? (i := 27) rfl)))) (mvT hZ (hw _ (List.mem_of_getElem? (i := 27) rfl))) (mvT hZ (hw _ (List.mem_of_getElem? (i := 26) rfl))) (by decide) (backOf (W := 0) (rm6a l Z a0 hw [] ob la oa cl fi la hh3 n0 Z3 Fd3 Ar3 S3 M3 hinA hatA hinB hatB (by decide) (by decide) (own_nlt (by omega)) (own_nlt (by omega))) hZ (hw _ (List.mem_of_getElem? (i := 28) rfl)) (hw _ (List.mem_of_getElem? (i := 11) rfl)) (by decide) (by decide)) qa5 qc5 (g := (mkF m 81 #[.val (.int pa), .val (.int pb), .val (.int px), .val (.int pm), .val (.int pp), .val (.int q2), .val (.int fi), .val (.int la), .val (.ref ob), .val (.int md), .unset, .unset] [(.int la), (.ref ob)])) rfl (by rw [hml]; rfl) (Steps.refl _) (argsL := [(.int la)]) (rest := []) (lenOf pd_6 rfl) rfl (by show 2 * 0 + _ ≤ _; exact Nat.le_of_eq rfl) (hb hby at_81) (fun _ _ => ⟨rfl, e4, (by decide : 2 + 0 ≤ _), (by decide : 3 + 0 ≤ _)⟩)
  dsimp only [Pt.U, Pt.locs, Pt.cells, Pt.slots] at X5 l5 y5 z5 st5 hQ5
  subst l5 y5 z5
  obtain ⟨rfl, Nq5, e5⟩ := hQ5
  have N5 := Fr.app N4 Nq5
  obtain ⟨cq6, kq6, qa6, qb6, qc6⟩ := isOf hZ e5 Ex3
  obtain ⟨_, _, ⟨T6, L6, k6, n6⟩, -, X6, ⟨Lc6, hQ6, l6, y6, z6⟩, st6⟩ := X5.virtualBack hx (y := (⟨"com/example/quadrille/quadrille/sparql/CodePointSet", "contains", "(I)Z"⟩ : MethodName)) (z := (⟨"com/example/quadrille/quadrille/sparql/CodePointSet", "contains", "(I)Z"⟩ : MethodName)) hown (mvT hZ (hw _ (List.mem_of_getElem? (i := 24) rfl))) (mvT hZ (hw _ (List.mem_of_getElem? (i := 25) rfl))) (notFace_of_selects (args := #[]) (mvT hZ (hw _ (List.mem_of_getElem? (i := 27) rfl)))) (mvT hZ (hw _ (List.mem_of_getElem? (i := 27) rfl))) (mvT hZ (hw _ (List.mem_of_getElem? (i := 26) rfl))) (by decide) (backOf (W := 0) (rm6a l Z a0 hw [] ob md oa cl fi la hh3 n0 Z3 Fd3 Ar3 S3 M3 hinA hatA hinB hatB (by decide) (by decide) (own_nlt (by omega)) (own_nlt (by omega))) hZ (hw _ (List.mem_of_getElem? (i := 28) rfl)) (hw _ (List.mem_of_getElem? (i := 11) rfl)) (by decide) (by decide)) qa6 qc6 (g := (mkF m 91 #[.val (.int pa), .val (.int pb), .val (.int px), .val (.int pm), .val (.int pp), .val (.int q2), .val (.int fi), .val (.int la), .val (.ref ob), .val (.int md), .unset, .unset] [(.int md), (.ref ob)])) rfl (by rw [hml]; rfl) (Steps.refl _) (argsL := [(.int md)]) (rest := []) (lenOf pd_6 rfl) rfl (by show 2 * 0 + _ ≤ _; exact Nat.le_of_eq rfl) (hb hby at_91) (fun _ _ => ⟨rfl, e5, (by decide : 2 + 0 ≤ _), (by decide : 3 + 0 ≤ _)⟩)
  dsimp only [Pt.U, Pt.locs, Pt.cells, Pt.slots] at X6 l6 y6 z6 st6 hQ6
  subst l6 y6 z6
  obtain ⟨rfl, Nq6, e6⟩ := hQ6
  have N6 := Fr.app N5 Nq6
  obtain ⟨cq7, kq7, qa7, qb7, qc7⟩ := isOf hZ e6 Ex3
  obtain ⟨_, _, ⟨T7, L7, k7, n7⟩, -, X7, ⟨Lc7, hQ7, l7, y7, z7⟩, st7⟩ := X6.virtualBack hx (y := (⟨"com/example/quadrille/quadrille/sparql/CodePointSet", "contains", "(I)Z"⟩ : MethodName)) (z := (⟨"com/example/quadrille/quadrille/sparql/CodePointSet", "contains", "(I)Z"⟩ : MethodName)) hown (mvT hZ (hw _ (List.mem_of_getElem? (i := 24) rfl))) (mvT hZ (hw _ (List.mem_of_getElem? (i := 25) rfl))) (notFace_of_selects (args := #[]) (mvT hZ (hw _ (List.mem_of_getElem? (i := 27) rfl)))) (mvT hZ (hw _ (List.mem_of_getElem? (i := 27) rfl))) (mvT hZ (hw _ (List.mem_of_getElem? (i := 26) rfl))) (by decide) (backOf (W := 0) (rm6b l Z a0 hw [] ob (fi - (1 : Int32)) oa cl fi hh3 n0 Z3 Fd3 Ar3 S3 M3 hinA hatA (by decide) (by decide) (own_lt (by omega)) (by decide)) hZ (hw _ (List.mem_of_getElem? (i := 28) rfl)) (hw _ (List.mem_of_getElem? (i := 11) rfl)) (by decide) (by decide)) qa7 qc7 (g := (mkF m 103 #[.val (.int pa), .val (.int pb), .val (.int px), .val (.int pm), .val (.int pp), .val (.int q2), .val (.int fi), .val (.int la), .val (.ref ob), .val (.int md), .unset, .unset] [(.int (fi - (1 : Int32))), (.ref ob)])) rfl (by rw [hml]; rfl) (Steps.refl _) (argsL := [(.int (fi - (1 : Int32)))]) (rest := []) (lenOf pd_6 rfl) rfl (by show 2 * 0 + _ ≤ _; exact Nat.le_of_eq rfl) (hb hby at_103) (fun _ _ => ⟨rfl, e6, (by decide : 2 + 0 ≤ _), (by decide : 3 + 0 ≤ _)⟩)
  dsimp only [Pt.U, Pt.locs, Pt.cells, Pt.slots] at X7 l7 y7 z7 st7 hQ7
  subst l7 y7 z7
  obtain ⟨rfl, Nq7, e7⟩ := hQ7
  have N7 := Fr.app N6 Nq7
  obtain ⟨cq8, kq8, qa8, qb8, qc8⟩ := isOf hZ e7 Ex3
  obtain ⟨_, _, ⟨T8, L8, k8, n8⟩, -, X8, ⟨Lc8, hQ8, l8, y8, z8⟩, st8⟩ := X7.virtualBack hx (y := (⟨"com/example/quadrille/quadrille/sparql/CodePointSet", "contains", "(I)Z"⟩ : MethodName)) (z := (⟨"com/example/quadrille/quadrille/sparql/CodePointSet", "contains", "(I)Z"⟩ : MethodName)) hown (mvT hZ (hw _ (List.mem_of_getElem? (i := 24) rfl))) (mvT hZ (hw _ (List.mem_of_getElem? (i := 25) rfl))) (notFace_of_selects (args := #[]) (mvT hZ (hw _ (List.mem_of_getElem? (i := 27) rfl)))) (mvT hZ (hw _ (List.mem_of_getElem? (i := 27) rfl))) (mvT hZ (hw _ (List.mem_of_getElem? (i := 26) rfl))) (by decide) (backOf (W := 0) (rm6c l Z a0 hw [] ob (la + (1 : Int32)) oa cl fi la hh3 n0 Z3 Fd3 Ar3 S3 M3 hinA hatA hinB hatB (by decide) (by decide) (own_nlt (by omega)) (own_lt (by omega)) (by decide)) hZ (hw _ (List.mem_of_getElem? (i := 28) rfl)) (hw _ (List.mem_of_getElem? (i := 11) rfl)) (by decide) (by decide)) qa8 qc8 (g := (mkF m 115 #[.val (.int pa), .val (.int pb), .val (.int px), .val (.int pm), .val (.int pp), .val (.int q2), .val (.int fi), .val (.int la), .val (.ref ob), .val (.int md), .unset, .unset] [(.int (la + (1 : Int32))), (.ref ob)])) rfl (by rw [hml]; rfl) (Steps.refl _) (argsL := [(.int (la + (1 : Int32)))]) (rest := []) (lenOf pd_6 rfl) rfl (by show 2 * 0 + _ ≤ _; exact Nat.le_of_eq rfl) (hb hby at_115) (fun _ _ => ⟨rfl, e7, (by decide : 2 + 0 ≤ _), (by decide : 3 + 0 ≤ _)⟩)
  dsimp only [Pt.U, Pt.locs, Pt.cells, Pt.slots] at X8 l8 y8 z8 st8 hQ8
  subst l8 y8 z8
  obtain ⟨rfl, Nq8, e8⟩ := hQ8
  have N8 := Fr.app N7 Nq8
  have preA : ∀ t, Steps p.tables e below (T8.setTop (mkF m 131 #[.val (.int pa), .val (.int pb), .val (.int px), .val (.int pm), .val (.int pp), .val (.int q2), .val (.int fi), .val (.int la), .val (.ref ob), .val (.int md), .val (.int (1 : Int32)), .unset] [(.int px), (.int fi)])) t → Steps p.tables e below (s₁.setTop (mkF m 0 #[.val (.int pa), .val (.int pb), .val (.int px), .val (.int pm), .unset, .unset, .unset, .unset, .unset, .unset, .unset, .unset] [])) t := by
    intro t k
    show Steps p.tables e below (s₁.setTop (mkF m 0 #[.val (.int pa), .val (.int pb), .val (.int px), .val (.int pm), .unset, .unset, .unset, .unset, .unset, .unset, .unset, .unset] [])) _
    refine XS.iloadN X0.here hx rfl (hb hby at_0) rfl ?_
    show Steps p.tables e below (s₁.setTop (mkF m 1 #[.val (.int pa), .val (.int pb), .val (.int px), .val (.int pm), .unset, .unset, .unset, .unset, .unset, .unset, .unset, .unset] [(.int pa)])) _
    refine X0.ldcInt hx hown (mvT hZ (hw _ (List.mem_of_getElem? (i := 0) rfl))) (g := (mkF m 1 #[.val (.int pa), .val (.int pb), .val (.int px), .val (.int pm), .unset, .unset, .unset, .unset, .unset, .unset, .unset, .unset] [(.int pa)])) rfl (hb hby at_1) _ ?_
    show Steps p.tables e below (s₁.setTop (mkF m 3 #[.val (.int pa), .val (.int pb), .val (.int px), .val (.int pm), .unset, .unset, .unset, .unset, .unset, .unset, .unset, .unset] [(.int (2097151 : Int32)), (.int pa)])) _
    refine XS.iand X0.here hx rfl (hb hby at_3) rfl ?_
    show Steps p.tables e below (s₁.setTop (mkF m 4 #[.val (.int pa), .val (.int pb), .val (.int px), .val (.int pm), .unset, .unset, .unset, .unset, .unset, .unset, .unset, .unset] [(.int (pa &&& (2097151 : Int32)))])) _
    refine X0.ldcInt hx hown (mvT hZ (hw _ (List.mem_of_getElem? (i := 1) rfl))) (g := (mkF m 4 #[.val (.int pa), .val (.int pb), .val (.int px), .val (.int pm), .unset, .unset, .unset, .unset, .unset, .unset, .unset, .unset] [(.int (pa &&& (2097151 : Int32)))])) rfl (hb hby at_4) _ ?_
    show Steps p.tables e below (s₁.setTop (mkF m 6 #[.val (.int pa), .val (.int pb), .val (.int px), .val (.int pm), .unset, .unset, .unset, .unset, .unset, .unset, .unset, .unset] [(.int (1114112 : Int32)), (.int (pa &&& (2097151 : Int32)))])) _
    refine XS.irem X0.here hx rfl (hb hby at_6) rfl (by decide) ?_
    show Steps p.tables e below (s₁.setTop (mkF m 7 #[.val (.int pa), .val (.int pb), .val (.int px), .val (.int pm), .unset, .unset, .unset, .unset, .unset, .unset, .unset, .unset] [(.int ((pa &&& (2097151 : Int32)) - (pa &&& (2097151 : Int32)) / (1114112 : Int32) * (1114112 : Int32)))])) _
    rw [← hpp]
    show Steps p.tables e below (s₁.setTop (mkF m 7 #[.val (.int pa), .val (.int pb), .val (.int px), .val (.int pm), .unset, .unset, .unset, .unset, .unset, .unset, .unset, .unset] [(.int pp)])) _
    refine XS.istore X0.here hx rfl (hb hby at_7) rfl (l' := #[.val (.int pa), .val (.int pb), .val (.int px), .val (.int pm), .val (.int pp), .unset, .unset, .unset, .unset, .unset, .unset, .unset]) rfl ?_
    show Steps p.tables e below (s₁.setTop (mkF m 9 #[.val (.int pa), .val (.int pb), .val (.int px), .val (.int pm), .val (.int pp), .unset, .unset, .unset, .unset, .unset, .unset, .unset] [])) _
    refine XS.iloadN X0.here hx rfl (hb hby at_9) rfl ?_
    show Steps p.tables e below (s₁.setTop (mkF m 10 #[.val (.int pa), .val (.int pb), .val (.int px), .val (.int pm), .val (.int pp), .unset, .unset, .unset, .unset, .unset, .unset, .unset] [(.int pb)])) _
    refine X0.ldcInt hx hown (mvT hZ (hw _ (List.mem_of_getElem? (i := 0) rfl))) (g := (mkF m 10 #[.val (.int pa), .val (.int pb), .val (.int px), .val (.int pm), .val (.int pp), .unset, .unset, .unset, .unset, .unset, .unset, .unset] [(.int pb)])) rfl (hb hby at_10) _ ?_
    show Steps p.tables e below (s₁.setTop (mkF m 12 #[.val (.int pa), .val (.int pb), .val (.int px), .val (.int pm), .val (.int pp), .unset, .unset, .unset, .unset, .unset, .unset, .unset] [(.int (2097151 : Int32)), (.int pb)])) _
    refine XS.iand X0.here hx rfl (hb hby at_12) rfl ?_
    show Steps p.tables e below (s₁.setTop (mkF m 13 #[.val (.int pa), .val (.int pb), .val (.int px), .val (.int pm), .val (.int pp), .unset, .unset, .unset, .unset, .unset, .unset, .unset] [(.int (pb &&& (2097151 : Int32)))])) _
    refine X0.ldcInt hx hown (mvT hZ (hw _ (List.mem_of_getElem? (i := 1) rfl))) (g := (mkF m 13 #[.val (.int pa), .val (.int pb), .val (.int px), .val (.int pm), .val (.int pp), .unset, .unset, .unset, .unset, .unset, .unset, .unset] [(.int (pb &&& (2097151 : Int32)))])) rfl (hb hby at_13) _ ?_
    show Steps p.tables e below (s₁.setTop (mkF m 15 #[.val (.int pa), .val (.int pb), .val (.int px), .val (.int pm), .val (.int pp), .unset, .unset, .unset, .unset, .unset, .unset, .unset] [(.int (1114112 : Int32)), (.int (pb &&& (2097151 : Int32)))])) _
    refine XS.irem X0.here hx rfl (hb hby at_15) rfl (by decide) ?_
    show Steps p.tables e below (s₁.setTop (mkF m 16 #[.val (.int pa), .val (.int pb), .val (.int px), .val (.int pm), .val (.int pp), .unset, .unset, .unset, .unset, .unset, .unset, .unset] [(.int ((pb &&& (2097151 : Int32)) - (pb &&& (2097151 : Int32)) / (1114112 : Int32) * (1114112 : Int32)))])) _
    rw [← hqq]
    show Steps p.tables e below (s₁.setTop (mkF m 16 #[.val (.int pa), .val (.int pb), .val (.int px), .val (.int pm), .val (.int pp), .unset, .unset, .unset, .unset, .unset, .unset, .unset] [(.int qq)])) _
    refine XS.istore X0.here hx rfl (hb hby at_16) rfl (l' := #[.val (.int pa), .val (.int pb), .val (.int px), .val (.int pm), .val (.int pp), .val (.int qq), .unset, .unset, .unset, .unset, .unset, .unset]) rfl ?_
    show Steps p.tables e below (s₁.setTop (mkF m 18 #[.val (.int pa), .val (.int pb), .val (.int px), .val (.int pm), .val (.int pp), .val (.int qq), .unset, .unset, .unset, .unset, .unset, .unset] [])) _
    refine s18 _ ?_
    show Steps p.tables e below (s₁.setTop (mkF m 28 #[.val (.int pa), .val (.int pb), .val (.int px), .val (.int pm), .val (.int pp), .val (.int q2), .unset, .unset, .unset, .unset, .unset, .unset] [])) _
    refine XS.iload X0.here hx rfl (hb hby at_28) rfl ?_
    show Steps p.tables e below (s₁.setTop (mkF m 30 #[.val (.int pa), .val (.int pb), .val (.int px), .val (.int pm), .val (.int pp), .val (.int q2), .unset, .unset, .unset, .unset, .unset, .unset] [(.int pp)])) _
    refine XS.iload X0.here hx rfl (hb hby at_30) rfl ?_
    show Steps p.tables e below (s₁.setTop (mkF m 32 #[.val (.int pa), .val (.int pb), .val (.int px), .val (.int pm), .val (.int pp), .val (.int q2), .unset, .unset, .unset, .unset, .unset, .unset] [(.int q2), (.int pp)])) _
    refine st1 _ ?_
    show Steps p.tables e below (T1.setTop (mkF m 35 #[.val (.int pa), .val (.int pb), .val (.int px), .val (.int pm), .val (.int pp), .val (.int q2), .unset, .unset, .unset, .unset, .unset, .unset] [(.int (own_min pp q2))])) _
    rw [← hfi]
    show Steps p.tables e below (T1.setTop (mkF m 35 #[.val (.int pa), .val (.int pb), .val (.int px), .val (.int pm), .val (.int pp), .val (.int q2), .unset, .unset, .unset, .unset, .unset, .unset] [(.int fi)])) _
    refine XS.istore X1.here hx rfl (hb hby at_35) rfl (l' := #[.val (.int pa), .val (.int pb), .val (.int px), .val (.int pm), .val (.int pp), .val (.int q2), .val (.int fi), .unset, .unset, .unset, .unset, .unset]) rfl ?_
    show Steps p.tables e below (T1.setTop (mkF m 37 #[.val (.int pa), .val (.int pb), .val (.int px), .val (.int pm), .val (.int pp), .val (.int q2), .val (.int fi), .unset, .unset, .unset, .unset, .unset] [])) _
    refine XS.iload X1.here hx rfl (hb hby at_37) rfl ?_
    show Steps p.tables e below (T1.setTop (mkF m 39 #[.val (.int pa), .val (.int pb), .val (.int px), .val (.int pm), .val (.int pp), .val (.int q2), .val (.int fi), .unset, .unset, .unset, .unset, .unset] [(.int pp)])) _
    refine XS.iload X1.here hx rfl (hb hby at_39) rfl ?_
    show Steps p.tables e below (T1.setTop (mkF m 41 #[.val (.int pa), .val (.int pb), .val (.int px), .val (.int pm), .val (.int pp), .val (.int q2), .val (.int fi), .unset, .unset, .unset, .unset, .unset] [(.int q2), (.int pp)])) _
    refine st2 _ ?_
    show Steps p.tables e below (T2.setTop (mkF m 44 #[.val (.int pa), .val (.int pb), .val (.int px), .val (.int pm), .val (.int pp), .val (.int q2), .val (.int fi), .unset, .unset, .unset, .unset, .unset] [(.int (own_max pp q2))])) _
    rw [← hla]
    show Steps p.tables e below (T2.setTop (mkF m 44 #[.val (.int pa), .val (.int pb), .val (.int px), .val (.int pm), .val (.int pp), .val (.int q2), .val (.int fi), .unset, .unset, .unset, .unset, .unset] [(.int la)])) _
    refine XS.istore X2.here hx rfl (hb hby at_44) rfl (l' := #[.val (.int pa), .val (.int pb), .val (.int px), .val (.int pm), .val (.int pp), .val (.int q2), .val (.int fi), .val (.int la), .unset, .unset, .unset, .unset]) rfl ?_
    show Steps p.tables e below (T2.setTop (mkF m 46 #[.val (.int pa), .val (.int pb), .val (.int px), .val (.int pm), .val (.int pp), .val (.int q2), .val (.int fi), .val (.int la), .unset, .unset, .unset, .unset] [])) _
    refine XS.iload X2.here hx rfl (hb hby at_46) rfl ?_
    show Steps p.tables e below (T2.setTop (mkF m 48 #[.val (.int pa), .val (.int pb), .val (.int px), .val (.int pm), .val (.int pp), .val (.int q2), .val (.int fi), .val (.int la), .unset, .unset, .unset, .unset] [(.int fi)])) _
    refine XS.iload X2.here hx rfl (hb hby at_48) rfl ?_
    show Steps p.tables e below (T2.setTop (mkF m 50 #[.val (.int pa), .val (.int pb), .val (.int px), .val (.int pm), .val (.int pp), .val (.int q2), .val (.int fi), .val (.int la), .unset, .unset, .unset, .unset] [(.int la), (.int fi)])) _
    refine st3 _ ?_
    show Steps p.tables e below (T3.setTop (mkF m 53 #[.val (.int pa), .val (.int pb), .val (.int px), .val (.int pm), .val (.int pp), .val (.int q2), .val (.int fi), .val (.int la), .unset, .unset, .unset, .unset] [(.ref ob)])) _
    refine XS.astore X3.here hx rfl (hb hby at_53) rfl rfl (l' := #[.val (.int pa), .val (.int pb), .val (.int px), .val (.int pm), .val (.int pp), .val (.int q2), .val (.int fi), .val (.int la), .val (.ref ob), .unset, .unset, .unset]) rfl ?_
    show Steps p.tables e below (T3.setTop (mkF m 55 #[.val (.int pa), .val (.int pb), .val (.int px), .val (.int pm), .val (.int pp), .val (.int q2), .val (.int fi), .val (.int la), .val (.ref ob), .unset, .unset, .unset] [])) _
    refine XS.iload X3.here hx rfl (hb hby at_55) rfl ?_
    show Steps p.tables e below (T3.setTop (mkF m 57 #[.val (.int pa), .val (.int pb), .val (.int px), .val (.int pm), .val (.int pp), .val (.int q2), .val (.int fi), .val (.int la), .val (.ref ob), .unset, .unset, .unset] [(.int fi)])) _
    refine XS.iload X3.here hx rfl (hb hby at_57) rfl ?_
    show Steps p.tables e below (T3.setTop (mkF m 59 #[.val (.int pa), .val (.int pb), .val (.int px), .val (.int pm), .val (.int pp), .val (.int q2), .val (.int fi), .val (.int la), .val (.ref ob), .unset, .unset, .unset] [(.int la), (.int fi)])) _
    refine XS.iload X3.here hx rfl (hb hby at_59) rfl ?_
    show Steps p.tables e below (T3.setTop (mkF m 61 #[.val (.int pa), .val (.int pb), .val (.int px), .val (.int pm), .val (.int pp), .val (.int q2), .val (.int fi), .val (.int la), .val (.ref ob), .unset, .unset, .unset] [(.int fi), (.int la), (.int fi)])) _
    refine XS.isub X3.here hx rfl (hb hby at_61) rfl ?_
    show Steps p.tables e below (T3.setTop (mkF m 62 #[.val (.int pa), .val (.int pb), .val (.int px), .val (.int pm), .val (.int pp), .val (.int q2), .val (.int fi), .val (.int la), .val (.ref ob), .unset, .unset, .unset] [(.int (la - fi)), (.int fi)])) _
    refine XS.iconst X3.here hx rfl (hb hby at_62) ?_
    show Steps p.tables e below (T3.setTop (mkF m 63 #[.val (.int pa), .val (.int pb), .val (.int px), .val (.int pm), .val (.int pp), .val (.int q2), .val (.int fi), .val (.int la), .val (.ref ob), .unset, .unset, .unset] [(.int (2 : Int32)), (.int (la - fi)), (.int fi)])) _
    refine XS.idiv X3.here hx rfl (hb hby at_63) rfl (by decide) ?_
    show Steps p.tables e below (T3.setTop (mkF m 64 #[.val (.int pa), .val (.int pb), .val (.int px), .val (.int pm), .val (.int pp), .val (.int q2), .val (.int fi), .val (.int la), .val (.ref ob), .unset, .unset, .unset] [(.int ((la - fi) / (2 : Int32))), (.int fi)])) _
    refine XS.iadd X3.here hx rfl (hb hby at_64) rfl ?_
    show Steps p.tables e below (T3.setTop (mkF m 65 #[.val (.int pa), .val (.int pb), .val (.int px), .val (.int pm), .val (.int pp), .val (.int q2), .val (.int fi), .val (.int la), .val (.ref ob), .unset, .unset, .unset] [(.int (fi + ((la - fi) / (2 : Int32))))])) _
    rw [← hmd]
    show Steps p.tables e below (T3.setTop (mkF m 65 #[.val (.int pa), .val (.int pb), .val (.int px), .val (.int pm), .val (.int pp), .val (.int q2), .val (.int fi), .val (.int la), .val (.ref ob), .unset, .unset, .unset] [(.int md)])) _
    refine XS.istore X3.here hx rfl (hb hby at_65) rfl (l' := #[.val (.int pa), .val (.int pb), .val (.int px), .val (.int pm), .val (.int pp), .val (.int q2), .val (.int fi), .val (.int la), .val (.ref ob), .val (.int md), .unset, .unset]) rfl ?_
    show Steps p.tables e below (T3.setTop (mkF m 67 #[.val (.int pa), .val (.int pb), .val (.int px), .val (.int pm), .val (.int pp), .val (.int q2), .val (.int fi), .val (.int la), .val (.ref ob), .val (.int md), .unset, .unset] [])) _
    refine XS.aload X3.here hx rfl (hb hby at_67) rfl rfl ?_
    show Steps p.tables e below (T3.setTop (mkF m 69 #[.val (.int pa), .val (.int pb), .val (.int px), .val (.int pm), .val (.int pp), .val (.int q2), .val (.int fi), .val (.int la), .val (.ref ob), .val (.int md), .unset, .unset] [(.ref ob)])) _
    refine XS.iload X3.here hx rfl (hb hby at_69) rfl ?_
    show Steps p.tables e below (T3.setTop (mkF m 71 #[.val (.int pa), .val (.int pb), .val (.int px), .val (.int pm), .val (.int pp), .val (.int q2), .val (.int fi), .val (.int la), .val (.ref ob), .val (.int md), .unset, .unset] [(.int fi), (.ref ob)])) _
    refine st4.trans ?_
    show Steps p.tables e below (T4.setTop (mkF m 74 #[.val (.int pa), .val (.int pb), .val (.int px), .val (.int pm), .val (.int pp), .val (.int q2), .val (.int fi), .val (.int la), .val (.ref ob), .val (.int md), .unset, .unset] [(.int (1 : Int32))])) _
    refine XS.ifNo X4.here hx rfl (hb hby at_74) rfl ((if0 _ _).trans (feq (by decide : ¬ ((1 : Int32) = (0 : Int32)))).1) ?_
    show Steps p.tables e below (T4.setTop (mkF m 77 #[.val (.int pa), .val (.int pb), .val (.int px), .val (.int pm), .val (.int pp), .val (.int q2), .val (.int fi), .val (.int la), .val (.ref ob), .val (.int md), .unset, .unset] [])) _
    refine XS.aload X4.here hx rfl (hb hby at_77) rfl rfl ?_
    show Steps p.tables e below (T4.setTop (mkF m 79 #[.val (.int pa), .val (.int pb), .val (.int px), .val (.int pm), .val (.int pp), .val (.int q2), .val (.int fi), .val (.int la), .val (.ref ob), .val (.int md), .unset, .unset] [(.ref ob)])) _
    refine XS.iload X4.here hx rfl (hb hby at_79) rfl ?_
    show Steps p.tables e below (T4.setTop (mkF m 81 #[.val (.int pa), .val (.int pb), .val (.int px), .val (.int pm), .val (.int pp), .val (.int q2), .val (.int fi), .val (.int la), .val (.ref ob), .val (.int md), .unset, .unset] [(.int la), (.ref ob)])) _
    refine st5.trans ?_
    show Steps p.tables e below (T5.setTop (mkF m 84 #[.val (.int pa), .val (.int pb), .val (.int px), .val (.int pm), .val (.int pp), .val (.int q2), .val (.int fi), .val (.int la), .val (.ref ob), .val (.int md), .unset, .unset] [(.int (1 : Int32))])) _
    refine XS.ifNo X5.here hx rfl (hb hby at_84) rfl ((if0 _ _).trans (feq (by decide : ¬ ((1 : Int32) = (0 : Int32)))).1) ?_
    show Steps p.tables e below (T5.setTop (mkF m 87 #[.val (.int pa), .val (.int pb), .val (.int px), .val (.int pm), .val (.int pp), .val (.int q2), .val (.int fi), .val (.int la), .val (.ref ob), .val (.int md), .unset, .unset] [])) _
    refine XS.aload X5.here hx rfl (hb hby at_87) rfl rfl ?_
    show Steps p.tables e below (T5.setTop (mkF m 89 #[.val (.int pa), .val (.int pb), .val (.int px), .val (.int pm), .val (.int pp), .val (.int q2), .val (.int fi), .val (.int la), .val (.ref ob), .val (.int md), .unset, .unset] [(.ref ob)])) _
    refine XS.iload X5.here hx rfl (hb hby at_89) rfl ?_
    show Steps p.tables e below (T5.setTop (mkF m 91 #[.val (.int pa), .val (.int pb), .val (.int px), .val (.int pm), .val (.int pp), .val (.int q2), .val (.int fi), .val (.int la), .val (.ref ob), .val (.int md), .unset, .unset] [(.int md), (.ref ob)])) _
    refine st6.trans ?_
    show Steps p.tables e below (T6.setTop (mkF m 94 #[.val (.int pa), .val (.int pb), .val (.int px), .val (.int pm), .val (.int pp), .val (.int q2), .val (.int fi), .val (.int la), .val (.ref ob), .val (.int md), .unset, .unset] [(.int (1 : Int32))])) _
    refine XS.ifNo X6.here hx rfl (hb hby at_94) rfl ((if0 _ _).trans (feq (by decide : ¬ ((1 : Int32) = (0 : Int32)))).1) ?_
    show Steps p.tables e below (T6.setTop (mkF m 97 #[.val (.int pa), .val (.int pb), .val (.int px), .val (.int pm), .val (.int pp), .val (.int q2), .val (.int fi), .val (.int la), .val (.ref ob), .val (.int md), .unset, .unset] [])) _
    refine XS.aload X6.here hx rfl (hb hby at_97) rfl rfl ?_
    show Steps p.tables e below (T6.setTop (mkF m 99 #[.val (.int pa), .val (.int pb), .val (.int px), .val (.int pm), .val (.int pp), .val (.int q2), .val (.int fi), .val (.int la), .val (.ref ob), .val (.int md), .unset, .unset] [(.ref ob)])) _
    refine XS.iload X6.here hx rfl (hb hby at_99) rfl ?_
    show Steps p.tables e below (T6.setTop (mkF m 101 #[.val (.int pa), .val (.int pb), .val (.int px), .val (.int pm), .val (.int pp), .val (.int q2), .val (.int fi), .val (.int la), .val (.ref ob), .val (.int md), .unset, .unset] [(.int fi), (.ref ob)])) _
    refine XS.iconst X6.here hx rfl (hb hby at_101) ?_
    show Steps p.tables e below (T6.setTop (mkF m 102 #[.val (.int pa), .val (.int pb), .val (.int px), .val (.int pm), .val (.int pp), .val (.int q2), .val (.int fi), .val (.int la), .val (.ref ob), .val (.int md), .unset, .unset] [(.int (1 : Int32)), (.int fi), (.ref ob)])) _
    refine XS.isub X6.here hx rfl (hb hby at_102) rfl ?_
    show Steps p.tables e below (T6.setTop (mkF m 103 #[.val (.int pa), .val (.int pb), .val (.int px), .val (.int pm), .val (.int pp), .val (.int q2), .val (.int fi), .val (.int la), .val (.ref ob), .val (.int md), .unset, .unset] [(.int (fi - (1 : Int32))), (.ref ob)])) _
    refine st7.trans ?_
    show Steps p.tables e below (T7.setTop (mkF m 106 #[.val (.int pa), .val (.int pb), .val (.int px), .val (.int pm), .val (.int pp), .val (.int q2), .val (.int fi), .val (.int la), .val (.ref ob), .val (.int md), .unset, .unset] [(.int (0 : Int32))])) _
    refine XS.ifNo X7.here hx rfl (hb hby at_106) rfl ((if0 _ _).trans (teq (by decide : (0 : Int32) = (0 : Int32))).2) ?_
    show Steps p.tables e below (T7.setTop (mkF m 109 #[.val (.int pa), .val (.int pb), .val (.int px), .val (.int pm), .val (.int pp), .val (.int q2), .val (.int fi), .val (.int la), .val (.ref ob), .val (.int md), .unset, .unset] [])) _
    refine XS.aload X7.here hx rfl (hb hby at_109) rfl rfl ?_
    show Steps p.tables e below (T7.setTop (mkF m 111 #[.val (.int pa), .val (.int pb), .val (.int px), .val (.int pm), .val (.int pp), .val (.int q2), .val (.int fi), .val (.int la), .val (.ref ob), .val (.int md), .unset, .unset] [(.ref ob)])) _
    refine XS.iload X7.here hx rfl (hb hby at_111) rfl ?_
    show Steps p.tables e below (T7.setTop (mkF m 113 #[.val (.int pa), .val (.int pb), .val (.int px), .val (.int pm), .val (.int pp), .val (.int q2), .val (.int fi), .val (.int la), .val (.ref ob), .val (.int md), .unset, .unset] [(.int la), (.ref ob)])) _
    refine XS.iconst X7.here hx rfl (hb hby at_113) ?_
    show Steps p.tables e below (T7.setTop (mkF m 114 #[.val (.int pa), .val (.int pb), .val (.int px), .val (.int pm), .val (.int pp), .val (.int q2), .val (.int fi), .val (.int la), .val (.ref ob), .val (.int md), .unset, .unset] [(.int (1 : Int32)), (.int la), (.ref ob)])) _
    refine XS.iadd X7.here hx rfl (hb hby at_114) rfl ?_
    show Steps p.tables e below (T7.setTop (mkF m 115 #[.val (.int pa), .val (.int pb), .val (.int px), .val (.int pm), .val (.int pp), .val (.int q2), .val (.int fi), .val (.int la), .val (.ref ob), .val (.int md), .unset, .unset] [(.int (la + (1 : Int32))), (.ref ob)])) _
    refine st8.trans ?_
    show Steps p.tables e below (T8.setTop (mkF m 118 #[.val (.int pa), .val (.int pb), .val (.int px), .val (.int pm), .val (.int pp), .val (.int q2), .val (.int fi), .val (.int la), .val (.ref ob), .val (.int md), .unset, .unset] [(.int (0 : Int32))])) _
    refine XS.ifNo X8.here hx rfl (hb hby at_118) rfl ((if0 _ _).trans (teq (by decide : (0 : Int32) = (0 : Int32))).2) ?_
    show Steps p.tables e below (T8.setTop (mkF m 121 #[.val (.int pa), .val (.int pb), .val (.int px), .val (.int pm), .val (.int pp), .val (.int q2), .val (.int fi), .val (.int la), .val (.ref ob), .val (.int md), .unset, .unset] [])) _
    refine XS.iconst X8.here hx rfl (hb hby at_121) ?_
    show Steps p.tables e below (T8.setTop (mkF m 122 #[.val (.int pa), .val (.int pb), .val (.int px), .val (.int pm), .val (.int pp), .val (.int q2), .val (.int fi), .val (.int la), .val (.ref ob), .val (.int md), .unset, .unset] [(.int (1 : Int32))])) _
    refine XS.goto X8.here hx rfl (pc0 := 122) (pc' := 126) rfl (hb hby at_122) (by decide) (by decide) ?_
    show Steps p.tables e below (T8.setTop (mkF m 126 #[.val (.int pa), .val (.int pb), .val (.int px), .val (.int pm), .val (.int pp), .val (.int q2), .val (.int fi), .val (.int la), .val (.ref ob), .val (.int md), .unset, .unset] [(.int (1 : Int32))])) _
    refine XS.istore X8.here hx rfl (hb hby at_126) rfl (l' := #[.val (.int pa), .val (.int pb), .val (.int px), .val (.int pm), .val (.int pp), .val (.int q2), .val (.int fi), .val (.int la), .val (.ref ob), .val (.int md), .val (.int (1 : Int32)), .unset]) rfl ?_
    show Steps p.tables e below (T8.setTop (mkF m 128 #[.val (.int pa), .val (.int pb), .val (.int px), .val (.int pm), .val (.int pp), .val (.int q2), .val (.int fi), .val (.int la), .val (.ref ob), .val (.int md), .val (.int (1 : Int32)), .unset] [])) _
    refine XS.iload X8.here hx rfl (hb hby at_128) rfl ?_
    show Steps p.tables e below (T8.setTop (mkF m 130 #[.val (.int pa), .val (.int pb), .val (.int px), .val (.int pm), .val (.int pp), .val (.int q2), .val (.int fi), .val (.int la), .val (.ref ob), .val (.int md), .val (.int (1 : Int32)), .unset] [(.int fi)])) _
    refine XS.iloadN X8.here hx rfl (hb hby at_130) rfl ?_
    show Steps p.tables e below (T8.setTop (mkF m 131 #[.val (.int pa), .val (.int pb), .val (.int px), .val (.int pm), .val (.int pp), .val (.int q2), .val (.int fi), .val (.int la), .val (.ref ob), .val (.int md), .val (.int (1 : Int32)), .unset] [(.int px), (.int fi)])) _
    exact k
  by_cases h1 : px < fi
  · obtain ⟨cq9, kq9, qa9, qb9, qc9⟩ := isOf hZ e8 Ex3
    obtain ⟨_, _, ⟨T9, L9, k9, n9⟩, -, X9, ⟨Lc9, hQ9, l9, y9, z9⟩, st9⟩ := X8.virtualBack hx (y := (⟨"com/example/quadrille/quadrille/sparql/CodePointSet", "contains", "(I)Z"⟩ : MethodName)) (z := (⟨"com/example/quadrille/quadrille/sparql/CodePointSet", "contains", "(I)Z"⟩ : MethodName)) hown (mvT hZ (hw _ (List.mem_of_getElem? (i := 24) rfl))) (mvT hZ (hw _ (List.mem_of_getElem? (i := 25) rfl))) (notFace_of_selects (args := #[]) (mvT hZ (hw _ (List.mem_of_getElem? (i := 27) rfl)))) (mvT hZ (hw _ (List.mem_of_getElem? (i := 27) rfl))) (mvT hZ (hw _ (List.mem_of_getElem? (i := 26) rfl))) (by decide) (backOf (W := 0) (rm6b l Z a0 hw [] ob px oa cl fi hh3 n0 Z3 Fd3 Ar3 S3 M3 hinA hatA (by decide) (by decide) (h1) (by decide)) hZ (hw _ (List.mem_of_getElem? (i := 28) rfl)) (hw _ (List.mem_of_getElem? (i := 11) rfl)) (by decide) (by decide)) qa9 qc9 (g := (mkF m 155 #[.val (.int pa), .val (.int pb), .val (.int px), .val (.int pm), .val (.int pp), .val (.int q2), .val (.int fi), .val (.int la), .val (.ref ob), .val (.int md), .val (.int (1 : Int32)), .val (.int (0 : Int32))] [(.int px), (.ref ob)])) rfl (by rw [hml]; rfl) (Steps.refl _) (argsL := [(.int px)]) (rest := []) (lenOf pd_6 rfl) rfl (by show 2 * 0 + _ ≤ _; exact Nat.le_of_eq rfl) (hb hby at_155) (fun _ _ => ⟨rfl, e8, (by decide : 2 + 0 ≤ _), (by decide : 3 + 0 ≤ _)⟩)
    dsimp only [Pt.U, Pt.locs, Pt.cells, Pt.slots] at X9 l9 y9 z9 st9 hQ9
    subst l9 y9 z9
    obtain ⟨rfl, Nq9, e9⟩ := hQ9
    have N9 := Fr.app N8 Nq9
    obtain ⟨fs, hr, hrun, hended, hW, hsame⟩ := X9.leave (v := some (.int (1 : Int32))) (fun h => by rw [Bd.returns] at h; cases h)
    refine ⟨_, _, pre0 _ (preA _ ?_), hrun, hended, _, _, rfl, ?_, ⟨_, rfl⟩, hW, hsame.mono (by decide) (by decide)⟩
    · show Steps p.tables e below (T8.setTop (mkF m 131 #[.val (.int pa), .val (.int pb), .val (.int px), .val (.int pm), .val (.int pp), .val (.int q2), .val (.int fi), .val (.int la), .val (.ref ob), .val (.int md), .val (.int (1 : Int32)), .unset] [(.int px), (.int fi)])) _
      refine XS.icmpYes X8.here hx rfl (pc0 := 131) (pc' := 144) rfl (hb hby at_131) rfl (tlt h1).2.2.1 (by decide) (by decide) ?_
      show Steps p.tables e below (T8.setTop (mkF m 144 #[.val (.int pa), .val (.int pb), .val (.int px), .val (.int pm), .val (.int pp), .val (.int q2), .val (.int fi), .val (.int la), .val (.ref ob), .val (.int md), .val (.int (1 : Int32)), .unset] [])) _
      refine XS.iconst X8.here hx rfl (hb hby at_144) ?_
      show Steps p.tables e below (T8.setTop (mkF m 145 #[.val (.int pa), .val (.int pb), .val (.int px), .val (.int pm), .val (.int pp), .val (.int q2), .val (.int fi), .val (.int la), .val (.ref ob), .val (.int md), .val (.int (1 : Int32)), .unset] [(.int (0 : Int32))])) _
      refine XS.istore X8.here hx rfl (hb hby at_145) rfl (l' := #[.val (.int pa), .val (.int pb), .val (.int px), .val (.int pm), .val (.int pp), .val (.int q2), .val (.int fi), .val (.int la), .val (.ref ob), .val (.int md), .val (.int (1 : Int32)), .val (.int (0 : Int32))]) rfl ?_
      show Steps p.tables e below (T8.setTop (mkF m 147 #[.val (.int pa), .val (.int pb), .val (.int px), .val (.int pm), .val (.int pp), .val (.int q2), .val (.int fi), .val (.int la), .val (.ref ob), .val (.int md), .val (.int (1 : Int32)), .val (.int (0 : Int32))] [])) _
      refine XS.iload X8.here hx rfl (hb hby at_147) rfl ?_
      show Steps p.tables e below (T8.setTop (mkF m 149 #[.val (.int pa), .val (.int pb), .val (.int px), .val (.int pm), .val (.int pp), .val (.int q2), .val (.int fi), .val (.int la), .val (.ref ob), .val (.int md), .val (.int (1 : Int32)), .val (.int (0 : Int32))] [(.int (1 : Int32))])) _
      refine XS.ifNo X8.here hx rfl (hb hby at_149) rfl ((if0 _ _).trans (feq (by decide : ¬ ((1 : Int32) = (0 : Int32)))).1) ?_
      show Steps p.tables e below (T8.setTop (mkF m 152 #[.val (.int pa), .val (.int pb), .val (.int px), .val (.int pm), .val (.int pp), .val (.int q2), .val (.int fi), .val (.int la), .val (.ref ob), .val (.int md), .val (.int (1 : Int32)), .val (.int (0 : Int32))] [])) _
      refine XS.aload X8.here hx rfl (hb hby at_152) rfl rfl ?_
      show Steps p.tables e below (T8.setTop (mkF m 154 #[.val (.int pa), .val (.int pb), .val (.int px), .val (.int pm), .val (.int pp), .val (.int q2), .val (.int fi), .val (.int la), .val (.ref ob), .val (.int md), .val (.int (1 : Int32)), .val (.int (0 : Int32))] [(.ref ob)])) _
      refine XS.iloadN X8.here hx rfl (hb hby at_154) rfl ?_
      show Steps p.tables e below (T8.setTop (mkF m 155 #[.val (.int pa), .val (.int pb), .val (.int px), .val (.int pm), .val (.int pp), .val (.int q2), .val (.int fi), .val (.int la), .val (.ref ob), .val (.int md), .val (.int (1 : Int32)), .val (.int (0 : Int32))] [(.int px), (.ref ob)])) _
      refine st9.trans ?_
      show Steps p.tables e below (T9.setTop (mkF m 158 #[.val (.int pa), .val (.int pb), .val (.int px), .val (.int pm), .val (.int pp), .val (.int q2), .val (.int fi), .val (.int la), .val (.ref ob), .val (.int md), .val (.int (1 : Int32)), .val (.int (0 : Int32))] [(.int (0 : Int32))])) _
      refine XS.iload X9.here hx rfl (hb hby at_158) rfl ?_
      show Steps p.tables e below (T9.setTop (mkF m 160 #[.val (.int pa), .val (.int pb), .val (.int px), .val (.int pm), .val (.int pp), .val (.int q2), .val (.int fi), .val (.int la), .val (.ref ob), .val (.int md), .val (.int (1 : Int32)), .val (.int (0 : Int32))] [(.int (0 : Int32)), (.int (0 : Int32))])) _
      refine XS.icmpNo X9.here hx rfl (hb hby at_160) rfl (teq (by decide : (0 : Int32) = (0 : Int32))).2 ?_
      show Steps p.tables e below (T9.setTop (mkF m 163 #[.val (.int pa), .val (.int pb), .val (.int px), .val (.int pm), .val (.int pp), .val (.int q2), .val (.int fi), .val (.int la), .val (.ref ob), .val (.int md), .val (.int (1 : Int32)), .val (.int (0 : Int32))] [])) _
      refine XS.iconst X9.here hx rfl (hb hby at_163) ?_
      show Steps p.tables e below (T9.setTop (mkF m 164 #[.val (.int pa), .val (.int pb), .val (.int px), .val (.int pm), .val (.int pp), .val (.int q2), .val (.int fi), .val (.int la), .val (.ref ob), .val (.int md), .val (.int (1 : Int32)), .val (.int (0 : Int32))] [(.int (1 : Int32))])) _
      refine XS.goto X9.here hx rfl (pc0 := 164) (pc' := 168) rfl (hb hby at_164) (by decide) (by decide) ?_
      show Steps p.tables e below (T9.setTop (mkF m 168 #[.val (.int pa), .val (.int pb), .val (.int px), .val (.int pm), .val (.int pp), .val (.int q2), .val (.int fi), .val (.int la), .val (.ref ob), .val (.int md), .val (.int (1 : Int32)), .val (.int (0 : Int32))] [(.int (1 : Int32))])) _
      exact retN X9 hx (t := .boolean) Bd.returns (by simp) (hb hby at_168) hr
    · show Q0 Z pa pb px pm h0 n0 _ T9.heap _
      rw [e9]
      exact ⟨rfl, N9⟩
  · by_cases h2 : la < px
    · obtain ⟨cq9, kq9, qa9, qb9, qc9⟩ := isOf hZ e8 Ex3
      obtain ⟨_, _, ⟨T9, L9, k9, n9⟩, -, X9, ⟨Lc9, hQ9, l9, y9, z9⟩, st9⟩ := X8.virtualBack hx (y := (⟨"com/example/quadrille/quadrille/sparql/CodePointSet", "contains", "(I)Z"⟩ : MethodName)) (z := (⟨"com/example/quadrille/quadrille/sparql/CodePointSet", "contains", "(I)Z"⟩ : MethodName)) hown (mvT hZ (hw _ (List.mem_of_getElem? (i := 24) rfl))) (mvT hZ (hw _ (List.mem_of_getElem? (i := 25) rfl))) (notFace_of_selects (args := #[]) (mvT hZ (hw _ (List.mem_of_getElem? (i := 27) rfl)))) (mvT hZ (hw _ (List.mem_of_getElem? (i := 27) rfl))) (mvT hZ (hw _ (List.mem_of_getElem? (i := 26) rfl))) (by decide) (backOf (W := 0) (rm6c l Z a0 hw [] ob px oa cl fi la hh3 n0 Z3 Fd3 Ar3 S3 M3 hinA hatA hinB hatB (by decide) (by decide) (h1) (h2) (by decide)) hZ (hw _ (List.mem_of_getElem? (i := 28) rfl)) (hw _ (List.mem_of_getElem? (i := 11) rfl)) (by decide) (by decide)) qa9 qc9 (g := (mkF m 155 #[.val (.int pa), .val (.int pb), .val (.int px), .val (.int pm), .val (.int pp), .val (.int q2), .val (.int fi), .val (.int la), .val (.ref ob), .val (.int md), .val (.int (1 : Int32)), .val (.int (0 : Int32))] [(.int px), (.ref ob)])) rfl (by rw [hml]; rfl) (Steps.refl _) (argsL := [(.int px)]) (rest := []) (lenOf pd_6 rfl) rfl (by show 2 * 0 + _ ≤ _; exact Nat.le_of_eq rfl) (hb hby at_155) (fun _ _ => ⟨rfl, e8, (by decide : 2 + 0 ≤ _), (by decide : 3 + 0 ≤ _)⟩)
      dsimp only [Pt.U, Pt.locs, Pt.cells, Pt.slots] at X9 l9 y9 z9 st9 hQ9
      subst l9 y9 z9
      obtain ⟨rfl, Nq9, e9⟩ := hQ9
      have N9 := Fr.app N8 Nq9
      obtain ⟨fs, hr, hrun, hended, hW, hsame⟩ := X9.leave (v := some (.int (1 : Int32))) (fun h => by rw [Bd.returns] at h; cases h)
      refine ⟨_, _, pre0 _ (preA _ ?_), hrun, hended, _, _, rfl, ?_, ⟨_, rfl⟩, hW, hsame.mono (by decide) (by decide)⟩
      · show Steps p.tables e below (T8.setTop (mkF m 131 #[.val (.int pa), .val (.int pb), .val (.int px), .val (.int pm), .val (.int pp), .val (.int q2), .val (.int fi), .val (.int la), .val (.ref ob), .val (.int md), .val (.int (1 : Int32)), .unset] [(.int px), (.int fi)])) _
        refine XS.icmpNo X8.here hx rfl (hb hby at_131) rfl (flt h1).2.2.1 ?_
        show Steps p.tables e below (T8.setTop (mkF m 134 #[.val (.int pa), .val (.int pb), .val (.int px), .val (.int pm), .val (.int pp), .val (.int q2), .val (.int fi), .val (.int la), .val (.ref ob), .val (.int md), .val (.int (1 : Int32)), .unset] [])) _
        refine XS.iloadN X8.here hx rfl (hb hby at_134) rfl ?_
        show Steps p.tables e below (T8.setTop (mkF m 135 #[.val (.int pa), .val (.int pb), .val (.int px), .val (.int pm), .val (.int pp), .val (.int q2), .val (.int fi), .val (.int la), .val (.ref ob), .val (.int md), .val (.int (1 : Int32)), .unset] [(.int px)])) _
        refine XS.iload X8.here hx rfl (hb hby at_135) rfl ?_
        show Steps p.tables e below (T8.setTop (mkF m 137 #[.val (.int pa), .val (.int pb), .val (.int px), .val (.int pm), .val (.int pp), .val (.int q2), .val (.int fi), .val (.int la), .val (.ref ob), .val (.int md), .val (.int (1 : Int32)), .unset] [(.int la), (.int px)])) _
        refine XS.icmpYes X8.here hx rfl (pc0 := 137) (pc' := 144) rfl (hb hby at_137) rfl (tlt h2).2.2.1 (by decide) (by decide) ?_
        show Steps p.tables e below (T8.setTop (mkF m 144 #[.val (.int pa), .val (.int pb), .val (.int px), .val (.int pm), .val (.int pp), .val (.int q2), .val (.int fi), .val (.int la), .val (.ref ob), .val (.int md), .val (.int (1 : Int32)), .unset] [])) _
        refine XS.iconst X8.here hx rfl (hb hby at_144) ?_
        show Steps p.tables e below (T8.setTop (mkF m 145 #[.val (.int pa), .val (.int pb), .val (.int px), .val (.int pm), .val (.int pp), .val (.int q2), .val (.int fi), .val (.int la), .val (.ref ob), .val (.int md), .val (.int (1 : Int32)), .unset] [(.int (0 : Int32))])) _
        refine XS.istore X8.here hx rfl (hb hby at_145) rfl (l' := #[.val (.int pa), .val (.int pb), .val (.int px), .val (.int pm), .val (.int pp), .val (.int q2), .val (.int fi), .val (.int la), .val (.ref ob), .val (.int md), .val (.int (1 : Int32)), .val (.int (0 : Int32))]) rfl ?_
        show Steps p.tables e below (T8.setTop (mkF m 147 #[.val (.int pa), .val (.int pb), .val (.int px), .val (.int pm), .val (.int pp), .val (.int q2), .val (.int fi), .val (.int la), .val (.ref ob), .val (.int md), .val (.int (1 : Int32)), .val (.int (0 : Int32))] [])) _
        refine XS.iload X8.here hx rfl (hb hby at_147) rfl ?_
        show Steps p.tables e below (T8.setTop (mkF m 149 #[.val (.int pa), .val (.int pb), .val (.int px), .val (.int pm), .val (.int pp), .val (.int q2), .val (.int fi), .val (.int la), .val (.ref ob), .val (.int md), .val (.int (1 : Int32)), .val (.int (0 : Int32))] [(.int (1 : Int32))])) _
        refine XS.ifNo X8.here hx rfl (hb hby at_149) rfl ((if0 _ _).trans (feq (by decide : ¬ ((1 : Int32) = (0 : Int32)))).1) ?_
        show Steps p.tables e below (T8.setTop (mkF m 152 #[.val (.int pa), .val (.int pb), .val (.int px), .val (.int pm), .val (.int pp), .val (.int q2), .val (.int fi), .val (.int la), .val (.ref ob), .val (.int md), .val (.int (1 : Int32)), .val (.int (0 : Int32))] [])) _
        refine XS.aload X8.here hx rfl (hb hby at_152) rfl rfl ?_
        show Steps p.tables e below (T8.setTop (mkF m 154 #[.val (.int pa), .val (.int pb), .val (.int px), .val (.int pm), .val (.int pp), .val (.int q2), .val (.int fi), .val (.int la), .val (.ref ob), .val (.int md), .val (.int (1 : Int32)), .val (.int (0 : Int32))] [(.ref ob)])) _
        refine XS.iloadN X8.here hx rfl (hb hby at_154) rfl ?_
        show Steps p.tables e below (T8.setTop (mkF m 155 #[.val (.int pa), .val (.int pb), .val (.int px), .val (.int pm), .val (.int pp), .val (.int q2), .val (.int fi), .val (.int la), .val (.ref ob), .val (.int md), .val (.int (1 : Int32)), .val (.int (0 : Int32))] [(.int px), (.ref ob)])) _
        refine st9.trans ?_
        show Steps p.tables e below (T9.setTop (mkF m 158 #[.val (.int pa), .val (.int pb), .val (.int px), .val (.int pm), .val (.int pp), .val (.int q2), .val (.int fi), .val (.int la), .val (.ref ob), .val (.int md), .val (.int (1 : Int32)), .val (.int (0 : Int32))] [(.int (0 : Int32))])) _
        refine XS.iload X9.here hx rfl (hb hby at_158) rfl ?_
        show Steps p.tables e below (T9.setTop (mkF m 160 #[.val (.int pa), .val (.int pb), .val (.int px), .val (.int pm), .val (.int pp), .val (.int q2), .val (.int fi), .val (.int la), .val (.ref ob), .val (.int md), .val (.int (1 : Int32)), .val (.int (0 : Int32))] [(.int (0 : Int32)), (.int (0 : Int32))])) _
        refine XS.icmpNo X9.here hx rfl (hb hby at_160) rfl (teq (by decide : (0 : Int32) = (0 : Int32))).2 ?_
        show Steps p.tables e below (T9.setTop (mkF m 163 #[.val (.int pa), .val (.int pb), .val (.int px), .val (.int pm), .val (.int pp), .val (.int q2), .val (.int fi), .val (.int la), .val (.ref ob), .val (.int md), .val (.int (1 : Int32)), .val (.int (0 : Int32))] [])) _
        refine XS.iconst X9.here hx rfl (hb hby at_163) ?_
        show Steps p.tables e below (T9.setTop (mkF m 164 #[.val (.int pa), .val (.int pb), .val (.int px), .val (.int pm), .val (.int pp), .val (.int q2), .val (.int fi), .val (.int la), .val (.ref ob), .val (.int md), .val (.int (1 : Int32)), .val (.int (0 : Int32))] [(.int (1 : Int32))])) _
        refine XS.goto X9.here hx rfl (pc0 := 164) (pc' := 168) rfl (hb hby at_164) (by decide) (by decide) ?_
        show Steps p.tables e below (T9.setTop (mkF m 168 #[.val (.int pa), .val (.int pb), .val (.int px), .val (.int pm), .val (.int pp), .val (.int q2), .val (.int fi), .val (.int la), .val (.ref ob), .val (.int md), .val (.int (1 : Int32)), .val (.int (0 : Int32))] [(.int (1 : Int32))])) _
        exact retN X9 hx (t := .boolean) Bd.returns (by simp) (hb hby at_168) hr
      · show Q0 Z pa pb px pm h0 n0 _ T9.heap _
        rw [e9]
        exact ⟨rfl, N9⟩
    · obtain ⟨cq9, kq9, qa9, qb9, qc9⟩ := isOf hZ e8 Ex3
      obtain ⟨_, _, ⟨T9, L9, k9, n9⟩, -, X9, ⟨Lc9, hQ9, l9, y9, z9⟩, st9⟩ := X8.virtualBack hx (y := (⟨"com/example/quadrille/quadrille/sparql/CodePointSet", "contains", "(I)Z"⟩ : MethodName)) (z := (⟨"com/example/quadrille/quadrille/sparql/CodePointSet", "contains", "(I)Z"⟩ : MethodName)) hown (mvT hZ (hw _ (List.mem_of_getElem? (i := 24) rfl))) (mvT hZ (hw _ (List.mem_of_getElem? (i := 25) rfl))) (notFace_of_selects (args := #[]) (mvT hZ (hw _ (List.mem_of_getElem? (i := 27) rfl)))) (mvT hZ (hw _ (List.mem_of_getElem? (i := 27) rfl))) (mvT hZ (hw _ (List.mem_of_getElem? (i := 26) rfl))) (by decide) (backOf (W := 0) (rm6a l Z a0 hw [] ob px oa cl fi la hh3 n0 Z3 Fd3 Ar3 S3 M3 hinA hatA hinB hatB (by decide) (by decide) (h1) (h2)) hZ (hw _ (List.mem_of_getElem? (i := 28) rfl)) (hw _ (List.mem_of_getElem? (i := 11) rfl)) (by decide) (by decide)) qa9 qc9 (g := (mkF m 155 #[.val (.int pa), .val (.int pb), .val (.int px), .val (.int pm), .val (.int pp), .val (.int q2), .val (.int fi), .val (.int la), .val (.ref ob), .val (.int md), .val (.int (1 : Int32)), .val (.int (1 : Int32))] [(.int px), (.ref ob)])) rfl (by rw [hml]; rfl) (Steps.refl _) (argsL := [(.int px)]) (rest := []) (lenOf pd_6 rfl) rfl (by show 2 * 0 + _ ≤ _; exact Nat.le_of_eq rfl) (hb hby at_155) (fun _ _ => ⟨rfl, e8, (by decide : 2 + 0 ≤ _), (by decide : 3 + 0 ≤ _)⟩)
      dsimp only [Pt.U, Pt.locs, Pt.cells, Pt.slots] at X9 l9 y9 z9 st9 hQ9
      subst l9 y9 z9
      obtain ⟨rfl, Nq9, e9⟩ := hQ9
      have N9 := Fr.app N8 Nq9
      obtain ⟨fs, hr, hrun, hended, hW, hsame⟩ := X9.leave (v := some (.int (1 : Int32))) (fun h => by rw [Bd.returns] at h; cases h)
      refine ⟨_, _, pre0 _ (preA _ ?_), hrun, hended, _, _, rfl, ?_, ⟨_, rfl⟩, hW, hsame.mono (by decide) (by decide)⟩
      · show Steps p.tables e below (T8.setTop (mkF m 131 #[.val (.int pa), .val (.int pb), .val (.int px), .val (.int pm), .val (.int pp), .val (.int q2), .val (.int fi), .val (.int la), .val (.ref ob), .val (.int md), .val (.int (1 : Int32)), .unset] [(.int px), (.int fi)])) _
        refine XS.icmpNo X8.here hx rfl (hb hby at_131) rfl (flt h1).2.2.1 ?_
        show Steps p.tables e below (T8.setTop (mkF m 134 #[.val (.int pa), .val (.int pb), .val (.int px), .val (.int pm), .val (.int pp), .val (.int q2), .val (.int fi), .val (.int la), .val (.ref ob), .val (.int md), .val (.int (1 : Int32)), .unset] [])) _
        refine XS.iloadN X8.here hx rfl (hb hby at_134) rfl ?_
        show Steps p.tables e below (T8.setTop (mkF m 135 #[.val (.int pa), .val (.int pb), .val (.int px), .val (.int pm), .val (.int pp), .val (.int q2), .val (.int fi), .val (.int la), .val (.ref ob), .val (.int md), .val (.int (1 : Int32)), .unset] [(.int px)])) _
        refine XS.iload X8.here hx rfl (hb hby at_135) rfl ?_
        show Steps p.tables e below (T8.setTop (mkF m 137 #[.val (.int pa), .val (.int pb), .val (.int px), .val (.int pm), .val (.int pp), .val (.int q2), .val (.int fi), .val (.int la), .val (.ref ob), .val (.int md), .val (.int (1 : Int32)), .unset] [(.int la), (.int px)])) _
        refine XS.icmpNo X8.here hx rfl (hb hby at_137) rfl (flt h2).2.2.1 ?_
        show Steps p.tables e below (T8.setTop (mkF m 140 #[.val (.int pa), .val (.int pb), .val (.int px), .val (.int pm), .val (.int pp), .val (.int q2), .val (.int fi), .val (.int la), .val (.ref ob), .val (.int md), .val (.int (1 : Int32)), .unset] [])) _
        refine XS.iconst X8.here hx rfl (hb hby at_140) ?_
        show Steps p.tables e below (T8.setTop (mkF m 141 #[.val (.int pa), .val (.int pb), .val (.int px), .val (.int pm), .val (.int pp), .val (.int q2), .val (.int fi), .val (.int la), .val (.ref ob), .val (.int md), .val (.int (1 : Int32)), .unset] [(.int (1 : Int32))])) _
        refine XS.goto X8.here hx rfl (pc0 := 141) (pc' := 145) rfl (hb hby at_141) (by decide) (by decide) ?_
        show Steps p.tables e below (T8.setTop (mkF m 145 #[.val (.int pa), .val (.int pb), .val (.int px), .val (.int pm), .val (.int pp), .val (.int q2), .val (.int fi), .val (.int la), .val (.ref ob), .val (.int md), .val (.int (1 : Int32)), .unset] [(.int (1 : Int32))])) _
        refine XS.istore X8.here hx rfl (hb hby at_145) rfl (l' := #[.val (.int pa), .val (.int pb), .val (.int px), .val (.int pm), .val (.int pp), .val (.int q2), .val (.int fi), .val (.int la), .val (.ref ob), .val (.int md), .val (.int (1 : Int32)), .val (.int (1 : Int32))]) rfl ?_
        show Steps p.tables e below (T8.setTop (mkF m 147 #[.val (.int pa), .val (.int pb), .val (.int px), .val (.int pm), .val (.int pp), .val (.int q2), .val (.int fi), .val (.int la), .val (.ref ob), .val (.int md), .val (.int (1 : Int32)), .val (.int (1 : Int32))] [])) _
        refine XS.iload X8.here hx rfl (hb hby at_147) rfl ?_
        show Steps p.tables e below (T8.setTop (mkF m 149 #[.val (.int pa), .val (.int pb), .val (.int px), .val (.int pm), .val (.int pp), .val (.int q2), .val (.int fi), .val (.int la), .val (.ref ob), .val (.int md), .val (.int (1 : Int32)), .val (.int (1 : Int32))] [(.int (1 : Int32))])) _
        refine XS.ifNo X8.here hx rfl (hb hby at_149) rfl ((if0 _ _).trans (feq (by decide : ¬ ((1 : Int32) = (0 : Int32)))).1) ?_
        show Steps p.tables e below (T8.setTop (mkF m 152 #[.val (.int pa), .val (.int pb), .val (.int px), .val (.int pm), .val (.int pp), .val (.int q2), .val (.int fi), .val (.int la), .val (.ref ob), .val (.int md), .val (.int (1 : Int32)), .val (.int (1 : Int32))] [])) _
        refine XS.aload X8.here hx rfl (hb hby at_152) rfl rfl ?_
        show Steps p.tables e below (T8.setTop (mkF m 154 #[.val (.int pa), .val (.int pb), .val (.int px), .val (.int pm), .val (.int pp), .val (.int q2), .val (.int fi), .val (.int la), .val (.ref ob), .val (.int md), .val (.int (1 : Int32)), .val (.int (1 : Int32))] [(.ref ob)])) _
        refine XS.iloadN X8.here hx rfl (hb hby at_154) rfl ?_
        show Steps p.tables e below (T8.setTop (mkF m 155 #[.val (.int pa), .val (.int pb), .val (.int px), .val (.int pm), .val (.int pp), .val (.int q2), .val (.int fi), .val (.int la), .val (.ref ob), .val (.int md), .val (.int (1 : Int32)), .val (.int (1 : Int32))] [(.int px), (.ref ob)])) _
        refine st9.trans ?_
        show Steps p.tables e below (T9.setTop (mkF m 158 #[.val (.int pa), .val (.int pb), .val (.int px), .val (.int pm), .val (.int pp), .val (.int q2), .val (.int fi), .val (.int la), .val (.ref ob), .val (.int md), .val (.int (1 : Int32)), .val (.int (1 : Int32))] [(.int (1 : Int32))])) _
        refine XS.iload X9.here hx rfl (hb hby at_158) rfl ?_
        show Steps p.tables e below (T9.setTop (mkF m 160 #[.val (.int pa), .val (.int pb), .val (.int px), .val (.int pm), .val (.int pp), .val (.int q2), .val (.int fi), .val (.int la), .val (.ref ob), .val (.int md), .val (.int (1 : Int32)), .val (.int (1 : Int32))] [(.int (1 : Int32)), (.int (1 : Int32))])) _
        refine XS.icmpNo X9.here hx rfl (hb hby at_160) rfl (teq (by decide : (1 : Int32) = (1 : Int32))).2 ?_
        show Steps p.tables e below (T9.setTop (mkF m 163 #[.val (.int pa), .val (.int pb), .val (.int px), .val (.int pm), .val (.int pp), .val (.int q2), .val (.int fi), .val (.int la), .val (.ref ob), .val (.int md), .val (.int (1 : Int32)), .val (.int (1 : Int32))] [])) _
        refine XS.iconst X9.here hx rfl (hb hby at_163) ?_
        show Steps p.tables e below (T9.setTop (mkF m 164 #[.val (.int pa), .val (.int pb), .val (.int px), .val (.int pm), .val (.int pp), .val (.int q2), .val (.int fi), .val (.int la), .val (.ref ob), .val (.int md), .val (.int (1 : Int32)), .val (.int (1 : Int32))] [(.int (1 : Int32))])) _
        refine XS.goto X9.here hx rfl (pc0 := 164) (pc' := 168) rfl (hb hby at_164) (by decide) (by decide) ?_
        show Steps p.tables e below (T9.setTop (mkF m 168 #[.val (.int pa), .val (.int pb), .val (.int px), .val (.int pm), .val (.int pp), .val (.int q2), .val (.int fi), .val (.int la), .val (.ref ob), .val (.int md), .val (.int (1 : Int32)), .val (.int (1 : Int32))] [(.int (1 : Int32))])) _
        exact retN X9 hx (t := .boolean) Bd.returns (by simp) (hb hby at_168) hr
      · show Q0 Z pa pb px pm h0 n0 _ T9.heap _
        rw [e9]
        exact ⟨rfl, N9⟩
set_option maxRecDepth 65536 in
set_option maxHeartbeats 40000000 in
theorem comes_1 {Post : Tables → Env → Array Value → State → Outcome → State → Prop} (hpost : ∀ tb e args s v u, (limb_1_1.after args s (.returned v) u = true ∧ limb_1_2.after args s (.returned v) u = true ∧ True) → FrameEnd s (.returned v) u (Jvm.fieldLocs frame_1_writes args s ++ Jvm.arrayLocs frame_1_arrays args s ++ Jvm.staticLocs frame_1_statics s) 16 128 → Post tb e args s (.returned v) u) :
    ArmFor flags0 classFile x code maxLocals ret World_1 tables_1 room_1 Calls_1 rest_1 Pre_1 Post := by
  intro l hfl _ _ p e ha hc hk s m args below hf hA hF happ hP
  obtain ⟨hcalls, hrest, hpre⟩ := hP
  obtain ⟨-, -, -, hnamed, -, -, -, hat⟩ := (Spec.applies_iff hf).mp happ
  obtain ⟨hg, hn⟩ := and_e (Cond.before_iff.mp (show (Jvm.Cond.and given_1 narrow_1).before args s = true from hpre))
  obtain ⟨hc0, hk0⟩ := and_e hg
  obtain ⟨hv0, hk1⟩ := and_e hk0
  obtain ⟨hv1, hk2⟩ := and_e hk1
  obtain ⟨hv2, hk3⟩ := and_e hk2
  obtain ⟨w0, w1, w2, w3, rfl⟩ : ∃ w0 w1 w2 w3 : Value, args = #[w0, w1, w2, w3] := by
    have hs : args.size = 4 := by simpa [Cond.value, given_1] using hc0
    obtain ⟨L⟩ := args
    match L, hs with
    | [w0, w1, w2, w3], _ => exact ⟨w0, w1, w2, w3, rfl⟩
  have hw := fun d (hd : d ∈ tables_1) => atoms_spec (ws := Jvm.Cond.code x code maxLocals ret :: tables_1) hat d (List.mem_cons_of_mem _ hd)
  obtain ⟨i0, e0⟩ := is_v hv0
  obtain rfl : w0 = (.int i0) := Option.some.inj e0
  obtain ⟨i1, e1⟩ := is_v hv1
  obtain rfl : w1 = (.int i1) := Option.some.inj e1
  obtain ⟨i2, e2⟩ := is_v hv2
  obtain rfl : w2 = (.int i2) := Option.some.inj e2
  obtain ⟨i3, e3⟩ := is_v hk3
  obtain rfl : w3 = (.int i3) := Option.some.inj e3
  obtain ⟨n, o, h1, h2, h3, _, L, rfl, ⟨rfl, N⟩, hq⟩ := rm0 l s _ hw tables_1 i0 i1 i2 i3 s.heap s.heap.size (Nat.le_refl _)  p e ha hc hk s m _ below hf ((Spec.applies_iff_loose hf).mp happ).1 ⟨rfl, State.Warmed39.refl s, rfl⟩ trivial
  refine ⟨n, _, h1, h2, h3, hpost _ _ _ _ _ _ ⟨Cond.after_iff.mpr rfl, Cond.after_iff.mpr (eq_i res_at (Term.int_eval (1)) rfl), trivial⟩ ⟨hq.1, hq.2.1, (hq.2.2.sift fun y hy => Or.inr (N y hy)).mono (by decide) (by decide)⟩⟩
theorem main_1_1 : Claimed_1_1 := comes_1 fun _ _ _ _ _ _ h hF => ⟨h.1, hF⟩
theorem main_1_2 : Claimed_1_2 := comes_1 fun _ _ _ _ _ _ h hF => ⟨h.2.1, hF⟩
end Jvm.Pilot.@@N@@
namespace Jvm.Pilot.@@N@@
open Jvm Jvm.ClassFile Sem Op Lib Jvm.Free Jvm.Stand Jvm.Pilot.@@N@@.Jvm.D
/-! MADE BY PROGRAM (witnessworld.py) out of the Statement's table words and the real class files: 10 classes; the members and pool entries that the words name. The judged class is class 1, her method 1. -/
namespace start1
open Jvm.ClassFile
def u (s : String) : CpInfo := .utf8 (stringToUtf16 s)
/-- a pool by its gaps: so many unusable entries, then the entry; so many at the end -/
def gap : Nat → List CpInfo → List CpInfo
  | 0, r => r
  | n + 1, r => .unusable :: gap n r
def poolList (es : List (Nat × CpInfo)) (last : Nat) : List CpInfo := es.foldr (fun e r => gap e.1 (e.2 :: r)) (gap last [])
def pool (es : List (Nat × CpInfo)) (last : Nat) : Array CpInfo := ⟨poolList es last⟩
def fileOf (pool : Array CpInfo) (this : Nat) (attrs : Array Attribute := #[]) (ms : Array MethodInfo := #[]) (fl : Nat := 33) (sup : Nat := 0) (ifs : Array Nat := #[]) (fds : Array FieldInfo := #[]) : ClassFile where
  minorVersion := 0
  majorVersion := 65
  constantPool := pool
  accessFlags := fl
  thisClass := this
  superClass := sup
  interfaces := ifs
  fields := fds
  methods := ms
  attributes := attrs
def plain (name : String) (sup : Option ClassId) : Class where
  name := name
  kind := .ordinary
  loader := none
  accessFlags := 33
  super := sup
  interfaces := #[]
  cf := none
  fields := #[]
  methods := #[]
  instanceTypes := #[]
  staticTypes := #[]
  resolved := #[]
  callSites := []
  init := .initialized
  statics := none
  mirror := none

def pool0 : Array CpInfo := pool [(5, u "<init>"), (0, u "()V"), (1, .class_ 10), (1, u "java/lang/Object")] 113

def k0c0 : Code := { maxStack := 0, maxLocals := 1, code := object_method_1_code, exceptionTable := #[], attributes := #[] }
def k0m0 : Method := { name := "<init>", desc := "()V", sig := { parameters := [], returnType := none }, accessFlags := 1, code := some k0c0 }
/-- java/lang/Object -/
def k0 : Class := { plain "java/lang/Object" none with
  accessFlags := 33
  interfaces := #[]
  cf := some (fileOf pool0 8 #[] #[{ accessFlags := 1, nameIndex := 5, descriptorIndex := 6, attributes := #[] }] 33 0 #[] #[])
  fields := #[]
  methods := #[k0m0]
  instanceTypes := #[]
  staticTypes := #[]
  resolved := Array.replicate 124 none
  statics := none }

def pool1 : Array CpInfo := pool [(2, .class_ 4), (1, u "java/lang/Object"), (0, u "<init>"), (0, u "()V"), (0, .integer 2097151), (0, .integer 1114112), (0, .methodref 10 11), (0, .class_ 12), (0, .nameAndType 13 14), (0, u "java/lang/Math"), (0, u "min"), (0, u "(II)I"), (0, .methodref 10 16), (0, .nameAndType 17 14), (0, u "max"), (0, .methodref 19 20), (0, .class_ 21), (0, .nameAndType 22 23), (0, u "com/example/quadrille/quadrille/sparql/CodePointSet"), (0, u "range"), (0, u "(II)Lcom/example/quadrille/quadrille/sparql/CodePointSet;"), (0, .methodref 19 25), (0, .nameAndType 26 27), (0, u "contains"), (0, u "(I)Z"), (0, .class_ 29), (0, u "com/example/quadrille/quadrille/sparql/CodePointSetRangePinLaw"), (2, u "law"), (0, u "(IIII)Z")] 3

def k1m0 : Method := { name := "<init>", desc := "()V", sig := { parameters := [], returnType := none }, accessFlags := 1, code := none }
def k1c1 : Code := { maxStack := 3, maxLocals := 12, code := code, exceptionTable := #[], attributes := #[] }
def k1m1 : Method := { name := "law", desc := "(IIII)Z", sig := { parameters := [.int, .int, .int, .int], returnType := some .boolean }, accessFlags := 9, code := some k1c1 }
/-- com/example/quadrille/quadrille/sparql/CodePointSetRangePinLaw -/
def k1 : Class := { plain "com/example/quadrille/quadrille/sparql/CodePointSetRangePinLaw" (some 0) with
  accessFlags := 49
  interfaces := #[]
  cf := some (fileOf pool1 28 #[] #[{ accessFlags := 1, nameIndex := 5, descriptorIndex := 6, attributes := #[] }, { accessFlags := 9, nameIndex := 32, descriptorIndex := 33, attributes := #[] }] 49 2 #[] #[])
  fields := #[]
  methods := #[k1m0, k1m1]
  instanceTypes := #[]
  staticTypes := #[]
  resolved := Array.replicate 37 none
  statics := none }

def pool2 : Array CpInfo := pool [(1, .class_ 2), (0, u "java/lang/Math"), (1, .class_ 6), (1, u "java/lang/Object"), (0, u "<init>"), (0, u "()V"), (89, .class_ 100), (1, u "java/lang/Math$RandomNumberGeneratorHolder"), (71, u "negativeZeroFloatBits"), (0, u "J"), (2, u "negativeZeroDoubleBits"), (21, u "max"), (2, u "min"), (43, u "$assertionsDisabled"), (0, u "Z"), (88, u "(II)I"), (2, u "twoToTheDoubleScaleDown"), (0, u "D"), (4, u "twoToTheDoubleScaleUp"), (9, u "E"), (3, u "PI"), (2, u "TAU"), (2, u "DEGREES_TO_RADIANS"), (0, u "RADIANS_TO_DEGREES")] 94

def k2m0 : Method := { name := "<init>", desc := "()V", sig := { parameters := [], returnType := none }, accessFlags := 2, code := none }
def k2c1 : Code := { maxStack := 2, maxLocals := 2, code := jdk_29_method_65_code, exceptionTable := #[], attributes := #[] }
def k2m1 : Method := { name := "max", desc := "(II)I", sig := { parameters := [.int, .int], returnType := some .int }, accessFlags := 9, code := some k2c1 }
def k2c2 : Code := { maxStack := 2, maxLocals := 2, code := jdk_29_method_69_code, exceptionTable := #[], attributes := #[] }
def k2m2 : Method := { name := "min", desc := "(II)I", sig := { parameters := [.int, .int], returnType := some .int }, accessFlags := 9, code := some k2c2 }
/-- java/lang/Math -/
def k2 : Class := { plain "java/lang/Math" (some 0) with
  accessFlags := 49
  interfaces := #[]
  cf := some (fileOf pool2 1 #[.nestMembers #[98]] #[{ accessFlags := 2, nameIndex := 7, descriptorIndex := 8, attributes := #[] }, { accessFlags := 9, nameIndex := 198, descriptorIndex := 335, attributes := #[] }, { accessFlags := 9, nameIndex := 201, descriptorIndex := 335, attributes := #[] }] 49 4 #[] #[{ accessFlags := 25, nameIndex := 354, descriptorIndex := 339, attributes := #[] }, { accessFlags := 25, nameIndex := 358, descriptorIndex := 339, attributes := #[] }, { accessFlags := 25, nameIndex := 361, descriptorIndex := 339, attributes := #[] }, { accessFlags := 26, nameIndex := 364, descriptorIndex := 339, attributes := #[] }, { accessFlags := 26, nameIndex := 365, descriptorIndex := 339, attributes := #[] }, { accessFlags := 26, nameIndex := 172, descriptorIndex := 173, attributes := #[] }, { accessFlags := 26, nameIndex := 176, descriptorIndex := 173, attributes := #[] }, { accessFlags := 8, nameIndex := 344, descriptorIndex := 339, attributes := #[] }, { accessFlags := 8, nameIndex := 338, descriptorIndex := 339, attributes := #[] }, { accessFlags := 4120, nameIndex := 245, descriptorIndex := 246, attributes := #[] }])
  fields := #[{ name := "E", type := .double, accessFlags := 25, slot := 0, constantValue := 0 }, { name := "PI", type := .double, accessFlags := 25, slot := 1, constantValue := 0 }, { name := "TAU", type := .double, accessFlags := 25, slot := 2, constantValue := 0 }, { name := "DEGREES_TO_RADIANS", type := .double, accessFlags := 26, slot := 3, constantValue := 0 }, { name := "RADIANS_TO_DEGREES", type := .double, accessFlags := 26, slot := 4, constantValue := 0 }, { name := "negativeZeroFloatBits", type := .long, accessFlags := 26, slot := 5, constantValue := 0 }, { name := "negativeZeroDoubleBits", type := .long, accessFlags := 26, slot := 6, constantValue := 0 }, { name := "twoToTheDoubleScaleUp", type := .double, accessFlags := 8, slot := 7, constantValue := 0 }, { name := "twoToTheDoubleScaleDown", type := .double, accessFlags := 8, slot := 8, constantValue := 0 }, { name := "$assertionsDisabled", type := .boolean, accessFlags := 4120, slot := 9, constantValue := 0 }]
  methods := #[k2m0, k2m1, k2m2]
  instanceTypes := #[]
  staticTypes := #[.double, .double, .double, .double, .double, .long, .long, .double, .double, .boolean]
  resolved := Array.replicate 460 none
  statics := none }

def pool3 : Array CpInfo := pool [(1, .methodref 2 3), (0, .class_ 4), (0, .nameAndType 5 6), (0, u "java/lang/Object"), (0, u "<init>"), (0, u "()V"), (0, .fieldref 8 9), (0, .class_ 10), (0, .nameAndType 11 12), (0, u "com/example/quadrille/quadrille/sparql/CodePointSet"), (0, u "ranges"), (0, u "[I"), (2, u "range"), (0, u "(II)Lcom/example/quadrille/quadrille/sparql/CodePointSet;"), (0, .methodref 8 18), (0, .nameAndType 5 19), (0, u "([I)V"), (2, u "MAJOR_CATEGORIES"), (0, u "Ljava/util/Map;"), (2, u "CATEGORIES"), (14, u "KNOWN"), (39, u "(I)Z"), (36, .class_ 120), (1, u "com/example/quadrille/quadrille/sparql/CodePointSet$CasePairs"), (5, u "contains"), (122, u "EMPTY"), (0, u "Lcom/example/quadrille/quadrille/sparql/CodePointSet;"), (2, u "ALL")] 188

def k3c0 : Code := { maxStack := 2, maxLocals := 2, code := prog_3_method_1_code, exceptionTable := #[], attributes := #[] }
def k3m0 : Method := { name := "<init>", desc := "([I)V", sig := { parameters := [(.array .int)], returnType := none }, accessFlags := 2, code := some k3c0 }
def k3c1 : Code := { maxStack := 6, maxLocals := 2, code := prog_3_method_3_code, exceptionTable := #[], attributes := #[] }
def k3m1 : Method := { name := "range", desc := "(II)Lcom/example/quadrille/quadrille/sparql/CodePointSet;", sig := { parameters := [.int, .int], returnType := some (.object "com/example/quadrille/quadrille/sparql/CodePointSet") }, accessFlags := 8, code := some k3c1 }
def k3c2 : Code := { maxStack := 4, maxLocals := 5, code := prog_3_method_10_code, exceptionTable := #[], attributes := #[] }
def k3m2 : Method := { name := "contains", desc := "(I)Z", sig := { parameters := [.int], returnType := some .boolean }, accessFlags := 0, code := some k3c2 }
/-- com/example/quadrille/quadrille/sparql/CodePointSet -/
def k3 : Class := { plain "com/example/quadrille/quadrille/sparql/CodePointSet" (some 0) with
  accessFlags := 48
  interfaces := #[]
  cf := some (fileOf pool3 8 #[.nestMembers #[118]] #[{ accessFlags := 2, nameIndex := 5, descriptorIndex := 19, attributes := #[] }, { accessFlags := 8, nameIndex := 15, descriptorIndex := 16, attributes := #[] }, { accessFlags := 0, nameIndex := 126, descriptorIndex := 81, attributes := #[] }] 48 2 #[] #[{ accessFlags := 24, nameIndex := 249, descriptorIndex := 250, attributes := #[] }, { accessFlags := 24, nameIndex := 253, descriptorIndex := 250, attributes := #[] }, { accessFlags := 26, nameIndex := 22, descriptorIndex := 23, attributes := #[] }, { accessFlags := 26, nameIndex := 26, descriptorIndex := 23, attributes := #[] }, { accessFlags := 26, nameIndex := 41, descriptorIndex := 23, attributes := #[] }, { accessFlags := 18, nameIndex := 11, descriptorIndex := 12, attributes := #[] }])
  fields := #[{ name := "EMPTY", type := (.object "com/example/quadrille/quadrille/sparql/CodePointSet"), accessFlags := 24, slot := 0, constantValue := 0 }, { name := "ALL", type := (.object "com/example/quadrille/quadrille/sparql/CodePointSet"), accessFlags := 24, slot := 1, constantValue := 0 }, { name := "MAJOR_CATEGORIES", type := (.object "java/util/Map"), accessFlags := 26, slot := 2, constantValue := 0 }, { name := "CATEGORIES", type := (.object "java/util/Map"), accessFlags := 26, slot := 3, constantValue := 0 }, { name := "KNOWN", type := (.object "java/util/Map"), accessFlags := 26, slot := 4, constantValue := 0 }, { name := "ranges", type := (.array .int), accessFlags := 18, slot := 0, constantValue := 0 }]
  methods := #[k3m0, k3m1, k3m2]
  instanceTypes := #[(.array .int)]
  staticTypes := #[(.object "com/example/quadrille/quadrille/sparql/CodePointSet"), (.object "com/example/quadrille/quadrille/sparql/CodePointSet"), (.object "java/util/Map"), (.object "java/util/Map"), (.object "java/util/Map")]
  resolved := Array.replicate 442 none
  statics := none }

def pool4 : Array CpInfo := pool [(1, u "java/lang/Cloneable"), (0, .class_ 1), (0, u "java/lang/Object"), (0, .class_ 3)] 3

/-- java/lang/Cloneable -/
def k4 : Class := { plain "java/lang/Cloneable" (some 0) with
  accessFlags := 1537
  interfaces := #[]
  cf := some (fileOf pool4 2 #[] #[] 1537 4 #[] #[])
  fields := #[]
  methods := #[]
  instanceTypes := #[]
  staticTypes := #[]
  resolved := Array.replicate 8 none
  statics := none }

def pool5 : Array CpInfo := pool [(1, u "java/io/Serializable"), (0, .class_ 1), (0, u "java/lang/Object"), (0, .class_ 3)] 3

/-- java/io/Serializable -/
def k5 : Class := { plain "java/io/Serializable" (some 0) with
  accessFlags := 1537
  interfaces := #[]
  cf := some (fileOf pool5 2 #[] #[] 1537 4 #[] #[])
  fields := #[]
  methods := #[]
  instanceTypes := #[]
  staticTypes := #[]
  resolved := Array.replicate 8 none
  statics := none }

/-- the primitive byte -/
def k6 : Class := { plain "byte" none with kind := .primitive 'B', accessFlags := 0x411 }
/-- [B -/
def k7 : Class := { plain "[B" (some 0) with kind := .array 6 .byte, interfaces := #[4, 5], accessFlags := 1041 }

/-- the primitive int -/
def k8 : Class := { plain "int" none with kind := .primitive 'I', accessFlags := 0x411 }
/-- [I -/
def k9 : Class := { plain "[I" (some 0) with kind := .array 8 .int, interfaces := #[4, 5], accessFlags := 1041 }

def heap : Heap := #[]
def classes : Array Class := #[k0, k1, k2, k3, k4, k5, k6, k7, k8, k9]
def interned : List (Array UInt16 × Addr) := []
def slotsUsed : Nat := 0
def theMethod : MethodId := ⟨1, 1⟩
def args0 : Array Value := #[.int 5, .int 300, .int 7, .int 2]
def aboutOver (below : List Frame) : State where
  vm := { classes := classes, interned := interned.toArray }
  heap := heap
  slotsUsed := slotsUsed
  threads := #[{ frames := .invoking theMethod args0 :: below }]
def below0 : List Frame := [.native { method := ⟨0, 0⟩, args := #[] }]
def about1 : State := aboutOver below0
def p0 : Program := .bare "" "" ""
def e0 : Env := launch0.env 0 0 0
theorem w_frames : about1.frames = Frame.invoking theMethod args0 :: below0 := rfl
set_option maxRecDepth 65536 in
theorem w_args : argsFit about1.vm theMethod args0 = true := by decide +kernel
set_option maxRecDepth 65536 in
theorem w_heap : heapFits about1 = true := by decide +kernel
set_option maxRecDepth 65536 in
theorem w_runnable : about1.curStatus? = some .runnable := by decide +kernel
set_option maxRecDepth 65536 in
theorem w_alone : about1.alone = true := by decide +kernel
set_option maxRecDepth 65536 in
theorem w_named : about1.methodNamed? x = some theMethod := by decide +kernel
set_option maxRecDepth 65536 in
theorem w_hears : about1.hears theMethod below0 = true := by decide +kernel
set_option maxRecDepth 65536 in
theorem w_ripe : about1.ripe theMethod args0 below0 = true := by decide +kernel
theorem w_running : about1.status = .running := rfl
set_option maxRecDepth 65536 in
theorem w_room : about1.hasRoom e0.platform room_1 = true :=
  launch0.hasRoom_least _ room_1 (by decide +kernel) (by decide +kernel) (by decide +kernel) (by decide +kernel) (by decide +kernel) (by decide +kernel)
theorem allAtoms_all (ts : List Jvm.Cond) (a : Array Jvm.Value) (st : Jvm.State) : (allAtoms ts).before a st = ts.all (fun c => c.before a st) := by
  induction ts with
  | nil => rfl
  | cons c t ih =>
    show (Jvm.Cond.and c (allAtoms t)).before a st = _
    rw [Jvm.Cond.before_and, ih, List.all_cons]
def words1 : List Jvm.Cond := Jvm.Cond.code x code maxLocals ret :: tables_1
/-- a 'code' word, met by the world's own term for the bytes: nothing is compared byte by byte -/
theorem code_word {y : MethodName} {bytes : ByteArray} {mx : Nat} {rt : Option FieldType} {a : Array Value} {s : State} {m : MethodId} {meth : Method} {c : Code} (h1 : s.methodNamed? y = some m) (h2 : s.vm.method? m = some meth) (h3 : meth.code = some c) (h4 : c.code = bytes)
    (h5 : (c.maxLocals == mx && c.exceptionTable.isEmpty && decide (c.maxStack ≤ mostOperands) && decide (meth.sig.returnType = rt) && !meth.locks && decide (parseMethodDescriptor y.desc = some meth.sig)) = true) : (Jvm.Cond.code y bytes mx rt).before a s = true := by
  simp only [Bool.and_eq_true, beq_iff_eq, Bool.not_eq_true', decide_eq_true_eq] at h5
  obtain ⟨⟨⟨⟨⟨g1, g2⟩, g3⟩, g4⟩, g5⟩, g6⟩ := h5
  simp [Cond.before, Cond.holds, Cond.value, h1, h2, h3, h4, g1, g2, g3, g4, g5, g6]
def isCode : Jvm.Cond → Bool
  | .code _ _ _ _ => true
  | _ => false
theorem all_split {L : List Jvm.Cond} {P : Jvm.Cond → Bool} (h1 : L.all (fun c => isCode c || P c) = true) (h2 : ∀ c ∈ L.filter isCode, P c = true) : L.all P = true := by
  refine List.all_eq_true.mpr fun c hc => ?_
  have h := List.all_eq_true.mp h1 c hc
  rcases Bool.eq_false_or_eq_true (isCode c) with hi | hi
  · exact h2 c (List.mem_filter.mpr ⟨hc, hi⟩)
  · simpa [hi] using h
set_option maxRecDepth 65536 in
theorem w_c0 : (Jvm.Cond.code x code maxLocals ret).before args0 about1 = true := code_word (m := ⟨1, 1⟩) (meth := k1m1) (c := k1c1) (by decide +kernel) rfl rfl rfl (by decide +kernel)
set_option maxRecDepth 65536 in
theorem w_c1 : (Jvm.Cond.code ({ cls := "java/lang/Math", name := "min", desc := "(II)I" } : Jvm.MethodName) jdk_29_method_69_code (2 : Nat) (Option.some Jvm.ClassFile.FieldType.int)).before args0 about1 = true := code_word (m := ⟨2, 2⟩) (meth := k2m2) (c := k2c2) (by decide +kernel) rfl rfl rfl (by decide +kernel)
set_option maxRecDepth 65536 in
theorem w_c2 : (Jvm.Cond.code ({ cls := "java/lang/Math", name := "max", desc := "(II)I" } : Jvm.MethodName) jdk_29_method_65_code (2 : Nat) (Option.some Jvm.ClassFile.FieldType.int)).before args0 about1 = true := code_word (m := ⟨2, 1⟩) (meth := k2m1) (c := k2c1) (by decide +kernel) rfl rfl rfl (by decide +kernel)
set_option maxRecDepth 65536 in
theorem w_c3 : (Jvm.Cond.code ({ cls := "com/example/quadrille/quadrille/sparql/CodePointSet", name := "range", desc := "(II)Lcom/example/quadrille/quadrille/sparql/CodePointSet;" } : Jvm.MethodName) prog_3_method_3_code (2 : Nat) (Option.some (Jvm.ClassFile.FieldType.object "com/example/quadrille/quadrille/sparql/CodePointSet"))).before args0 about1 = true := code_word (m := ⟨3, 1⟩) (meth := k3m1) (c := k3c1) (by decide +kernel) rfl rfl rfl (by decide +kernel)
set_option maxRecDepth 65536 in
theorem w_c4 : (Jvm.Cond.code ({ cls := "com/example/quadrille/quadrille/sparql/CodePointSet", name := "<init>", desc := "([I)V" } : Jvm.MethodName) prog_3_method_1_code (2 : Nat) (Option.none : Option Jvm.ClassFile.FieldType)).before args0 about1 = true := code_word (m := ⟨3, 0⟩) (meth := k3m0) (c := k3c0) (by decide +kernel) rfl rfl rfl (by decide +kernel)
set_option maxRecDepth 65536 in
theorem w_c5 : (Jvm.Cond.code ({ cls := "java/lang/Object", name := "<init>", desc := "()V" } : Jvm.MethodName) object_method_1_code (1 : Nat) (Option.none : Option Jvm.ClassFile.FieldType)).before args0 about1 = true := code_word (m := ⟨0, 0⟩) (meth := k0m0) (c := k0c0) (by decide +kernel) rfl rfl rfl (by decide +kernel)
set_option maxRecDepth 65536 in
theorem w_c6 : (Jvm.Cond.code ({ cls := "com/example/quadrille/quadrille/sparql/CodePointSet", name := "contains", desc := "(I)Z" } : Jvm.MethodName) prog_3_method_10_code (5 : Nat) (Option.some Jvm.ClassFile.FieldType.boolean)).before args0 about1 = true := code_word (m := ⟨3, 2⟩) (meth := k3m2) (c := k3c2) (by decide +kernel) rfl rfl rfl (by decide +kernel)
def codes1 : List Jvm.Cond := [Jvm.Cond.code x code maxLocals ret, Jvm.Cond.code ({ cls := "java/lang/Math", name := "min", desc := "(II)I" } : Jvm.MethodName) jdk_29_method_69_code (2 : Nat) (Option.some Jvm.ClassFile.FieldType.int), Jvm.Cond.code ({ cls := "java/lang/Math", name := "max", desc := "(II)I" } : Jvm.MethodName) jdk_29_method_65_code (2 : Nat) (Option.some Jvm.ClassFile.FieldType.int), Jvm.Cond.code ({ cls := "com/example/quadrille/quadrille/sparql/CodePointSet", name := "range", desc := "(II)Lcom/example/quadrille/quadrille/sparql/CodePointSet;" } : Jvm.MethodName) prog_3_method_3_code (2 : Nat) (Option.some (Jvm.ClassFile.FieldType.object "com/example/quadrille/quadrille/sparql/CodePointSet")), Jvm.Cond.code ({ cls := "com/example/quadrille/quadrille/sparql/CodePointSet", name := "<init>", desc := "([I)V" } : Jvm.MethodName) prog_3_method_1_code (2 : Nat) (Option.none : Option Jvm.ClassFile.FieldType), Jvm.Cond.code ({ cls := "java/lang/Object", name := "<init>", desc := "()V" } : Jvm.MethodName) object_method_1_code (1 : Nat) (Option.none : Option Jvm.ClassFile.FieldType), Jvm.Cond.code ({ cls := "com/example/quadrille/quadrille/sparql/CodePointSet", name := "contains", desc := "(I)Z" } : Jvm.MethodName) prog_3_method_10_code (5 : Nat) (Option.some Jvm.ClassFile.FieldType.boolean)]
set_option maxRecDepth 65536 in
theorem codes_eq : words1.filter isCode = codes1 := rfl
theorem w_codes : ∀ c ∈ words1.filter isCode, c.before args0 about1 = true := by
  rw [codes_eq]
  intro c hc
  simp only [codes1, List.mem_cons, List.not_mem_nil, or_false] at hc
  rcases hc with rfl | rfl | rfl | rfl | rfl | rfl | rfl
  · exact w_c0
  · exact w_c1
  · exact w_c2
  · exact w_c3
  · exact w_c4
  · exact w_c5
  · exact w_c6
set_option maxRecDepth 65536 in
theorem w_t1 : (words1.take 24).all (fun c => isCode c || c.before args0 about1) = true := by decide +kernel
set_option maxRecDepth 65536 in
theorem w_t2 : (words1.drop 24).all (fun c => isCode c || c.before args0 about1) = true := by decide +kernel
theorem w_tables : (allAtoms (Jvm.Cond.code x code maxLocals ret :: tables_1)).before args0 about1 = true := by
  rw [allAtoms_all]
  show words1.all (fun c => c.before args0 about1) = true
  refine all_split ?_ w_codes
  rw [← List.take_append_drop 24 words1, List.all_append, w_t1, w_t2]
  rfl
set_option maxRecDepth 65536 in
theorem w_case : (Jvm.Cond.and given_1 narrow_1).before args0 about1 = true := by decide +kernel
theorem w_applies : (headSpec (Jvm.Cond.code x code maxLocals ret :: tables_1) room_1).applies x e0.platform about1 = true :=
  (Spec.applies_iff w_frames).mpr ⟨w_running, w_runnable, w_alone, w_named, w_hears, w_ripe, w_room, w_tables⟩
theorem atStart : AtStart classFile x code maxLocals ret World_1 tables_1 room_1 Calls_1 rest_1 Pre_1 launch0 p0 e0 about1 theMethod args0 below0 :=
  ⟨lists_1, trivial, launch0.admits_env _ _ _, launch0.least_env, fairChoices_fair.cas, fairChoices_fair.clock, w_frames, w_args, w_heap, w_applies, trivial, trivial, w_case⟩
end start1
theorem witness_1 : WitnessClaimed_1 := ⟨start1.p0, start1.e0, start1.about1, start1.theMethod, start1.args0, start1.below0, start1.atStart⟩
end Jvm.Pilot.@@N@@
