import JvmDerived
import JvmDerived.Pilot.@@N@@Statement
import JvmDerived.Pilot.@@N@@Code
set_option linter.unusedVariables false
set_option linter.unusedSimpArgs false
namespace Jvm.Pilot.@@N@@
open Jvm Jvm.ClassFile Sem Op Lib Jvm.Free Jvm.Stand Jvm.LawKit Jvm.RoadKit Bundle Jvm.Pilot.@@N@@.Jvm.D
def own_tk (k : Int32) : Int32 := if k < 1 then 0 else if 7 < k then 0 else if k = 5 then 0 else 1
def own_ek (k : Int32) : Int32 := if k = 1 then 1 else if k = 2 then 1 else if k = 3 then 1 else if k = 4 then 1 else if k = 6 then 1 else if k = 7 then 1 else 0
theorem own_tree (k : Int32) : own_tk k = own_ek k := by
  unfold own_tk own_ek
  simp only [Int32.lt_iff_toInt_lt, ← Int32.toInt_inj]
  have z1 : (1 : Int32).toInt = 1 := rfl
  have z2 : (2 : Int32).toInt = 2 := rfl
  have z3 : (3 : Int32).toInt = 3 := rfl
  have z4 : (4 : Int32).toInt = 4 := rfl
  have z5 : (5 : Int32).toInt = 5 := rfl
  have z6 : (6 : Int32).toInt = 6 := rfl
  have z7 : (7 : Int32).toInt = 7 := rfl
  rw [z1, z2, z3, z4, z5, z6, z7]
  repeat' split
  all_goals first | rfl | omega
theorem d1_0 : decode prog_102_method_2_code 0 = .ok (.iload_n 0, 1) := by decide +kernel
theorem d1_1 : decode prog_102_method_2_code 1 = .ok (.iconst 1, 1) := by decide +kernel
theorem d1_2 : decode prog_102_method_2_code 2 = .ok (.if_icmp .lt 18, 3) := by decide +kernel
theorem d1_5 : decode prog_102_method_2_code 5 = .ok (.iload_n 0, 1) := by decide +kernel
theorem d1_6 : decode prog_102_method_2_code 6 = .ok (.bipush 7, 2) := by decide +kernel
theorem d1_8 : decode prog_102_method_2_code 8 = .ok (.if_icmp .gt 12, 3) := by decide +kernel
theorem d1_11 : decode prog_102_method_2_code 11 = .ok (.iload_n 0, 1) := by decide +kernel
theorem d1_12 : decode prog_102_method_2_code 12 = .ok (.iconst 5, 1) := by decide +kernel
theorem d1_13 : decode prog_102_method_2_code 13 = .ok (.if_icmp .eq 7, 3) := by decide +kernel
theorem d1_16 : decode prog_102_method_2_code 16 = .ok (.iconst 1, 1) := by decide +kernel
theorem d1_17 : decode prog_102_method_2_code 17 = .ok (.goto 4, 3) := by decide +kernel
theorem d1_20 : decode prog_102_method_2_code 20 = .ok (.iconst 0, 1) := by decide +kernel
theorem d1_21 : decode prog_102_method_2_code 21 = .ok (.ireturn, 1) := by decide +kernel
theorem pn_1 : plainName "com/example/flatstone/flatstone/index/Blocks" = true := by first | (simp [plainName, overriddenIn]; done) | decide +kernel
theorem ef_1 (m : MethodId) (x0 : Int32) : entryFrame m #[(.int x0)] 1 = mkF m 0 #[.val (.int x0)] [] := by first | (simp [entryFrame, mkF, argsToLocals, Value.category]; done) | rfl
def Q1 (Z : State) (p1 : Int32) (h0 : Heap) (n0 : Nat) (v : Option Value) (h : Heap) (L : List Loc) : Prop := v = some (.int (own_tk p1)) ∧ Fr n0 L ∧ h = h0
set_option maxRecDepth 65536 in
set_option maxHeartbeats 40000000 in
theorem rm1 (l : Launch) (Z : State) (a0 : Array Value) (hw : ∀ d ∈ tables_1, d.before a0 Z = true) (ws : List Jvm.Cond) (p1 : Int32) (h0 : Heap) (n0 : Nat) (Z0 : n0 ≤ h0.size) :
    MetFree l (⟨"com/example/flatstone/flatstone/index/Blocks", "isTreeKind", "(B)Z"⟩ : MethodName) (head1 (Jvm.Cond.code (⟨"com/example/flatstone/flatstone/index/Blocks", "isTreeKind", "(B)Z"⟩ : MethodName) prog_102_method_2_code 1 (some .boolean) :: ws) ({ frames := 0, cells := 0, slots := 0, locals := 0 } : Room)) (fun a U => a = #[(.int p1)] ∧ Z.Warmed39 U.vm ∧ U.heap = h0) (fun _ _ _ _ _ => True) (fun _ U o U' => ∃ v L, o = .returned v ∧ Q1 Z p1 h0 n0 v U'.heap L ∧ FrameEnd U o U' L (({ frames := 0, cells := 0, slots := 0, locals := 0 } : Room)).cells (({ frames := 0, cells := 0, slots := 0, locals := 0 } : Room)).slots) := by
  refine MetFree.of_bodySF (plainFor_of_name pn_1) hisR ?_
  intro p e s m args below meth c s₁ Bd hml0 hP hK
  obtain ⟨rfl, hZ, hh⟩ := hP
  have hx := Bd.exec
  have hby := Bd.bytes
  have hml : c.maxLocals = 1 := hml0
  have hown : s.vm.findClass "com/example/flatstone/flatstone/index/Blocks" = some m.cls := findClass_of_methodNamed Bd.named
  have hnm := (name_of_methodNamed Bd.named Bd.method).1
  have X0 : Stand p l e ({ frames := 0, cells := 0, slots := 0, locals := 0 } : Room) s m #[(.int p1)] below meth c s₁ [] 0 0 := Stand.of_body Bd
  have e0 : s₁.heap = h0 := by rw [← hh, Bd.state]; rfl
  have N0 := Fr.nil n0
  have pre0 : ∀ t, Steps p.tables e below (s₁.setTop (mkF m 0 #[.val (.int p1)] [])) t → Steps p.tables e below (s₁.setTop (entryFrame m #[(.int p1)] 1)) t := fun t k => castTop (ef_1 m p1) k
  obtain ⟨fs, hr, hrun, hended, hW, hsame⟩ := X0.leave (v := some (.int (own_tk p1))) (fun h => by rw [Bd.returns] at h; cases h)
  refine ⟨_, _, pre0 _ ?_, hrun, hended, _, _, rfl, ?_, ⟨_, rfl⟩, hW, hsame.mono (by decide) (by decide)⟩
  · show Steps p.tables e below (s₁.setTop (mkF m 0 #[.val (.int p1)] [])) _
    refine XS.iloadN X0.here hx rfl (hb hby d1_0) rfl ?_
    show Steps p.tables e below (s₁.setTop (mkF m 1 #[.val (.int p1)] [(.int p1)])) _
    refine XS.iconst X0.here hx rfl (hb hby d1_1) ?_
    show Steps p.tables e below (s₁.setTop (mkF m 2 #[.val (.int p1)] [(.int (1 : Int32)), (.int p1)])) _
    by_cases c2 : p1 < (1 : Int32)
    · refine XS.icmpYes X0.here hx rfl (pc0 := 2) (pc' := 20) rfl (hb hby d1_2) rfl (tlt c2).1 (by decide) (by decide) ?_
      show Steps p.tables e below (s₁.setTop (mkF m 20 #[.val (.int p1)] [])) _
      refine XS.iconst X0.here hx rfl (hb hby d1_20) ?_
      show Steps p.tables e below (s₁.setTop (mkF m 21 #[.val (.int p1)] [(.int (0 : Int32))])) _
      have ev : own_tk p1 = (0 : Int32) := by first | rfl | (rw [own_tk, if_pos c2]; done) | (simp only [own_tk, c2, if_true, if_false]; done) | (simp [own_tk, c2]; done) | contradiction | ((unfold own_tk; repeat' split) <;> first | rfl | contradiction | (simp_all; done))
      rw [ev] at hr
      exact retN X0 hx (t := .boolean) Bd.returns (by simp) (hb hby d1_21) hr
    · refine XS.icmpNo X0.here hx rfl (hb hby d1_2) rfl (flt c2).1 ?_
      show Steps p.tables e below (s₁.setTop (mkF m 5 #[.val (.int p1)] [])) _
      refine XS.iloadN X0.here hx rfl (hb hby d1_5) rfl ?_
      show Steps p.tables e below (s₁.setTop (mkF m 6 #[.val (.int p1)] [(.int p1)])) _
      refine XS.bipush X0.here hx rfl (hb hby d1_6) ?_
      show Steps p.tables e below (s₁.setTop (mkF m 8 #[.val (.int p1)] [(.int (7 : Int32)), (.int p1)])) _
      by_cases c8 : (7 : Int32) < p1
      · refine XS.icmpYes X0.here hx rfl (pc0 := 8) (pc' := 20) rfl (hb hby d1_8) rfl (tlt c8).2.2.1 (by decide) (by decide) ?_
        show Steps p.tables e below (s₁.setTop (mkF m 20 #[.val (.int p1)] [])) _
        refine XS.iconst X0.here hx rfl (hb hby d1_20) ?_
        show Steps p.tables e below (s₁.setTop (mkF m 21 #[.val (.int p1)] [(.int (0 : Int32))])) _
        have ev : own_tk p1 = (0 : Int32) := by first | rfl | (rw [own_tk, if_neg c2, if_pos c8]; done) | (simp only [own_tk, c2, c8, if_true, if_false]; done) | (simp [own_tk, c2, c8]; done) | contradiction | ((unfold own_tk; repeat' split) <;> first | rfl | contradiction | (simp_all; done))
        rw [ev] at hr
        exact retN X0 hx (t := .boolean) Bd.returns (by simp) (hb hby d1_21) hr
      · refine XS.icmpNo X0.here hx rfl (hb hby d1_8) rfl (flt c8).2.2.1 ?_
        show Steps p.tables e below (s₁.setTop (mkF m 11 #[.val (.int p1)] [])) _
        refine XS.iloadN X0.here hx rfl (hb hby d1_11) rfl ?_
        show Steps p.tables e below (s₁.setTop (mkF m 12 #[.val (.int p1)] [(.int p1)])) _
        refine XS.iconst X0.here hx rfl (hb hby d1_12) ?_
        show Steps p.tables e below (s₁.setTop (mkF m 13 #[.val (.int p1)] [(.int (5 : Int32)), (.int p1)])) _
        by_cases c13 : p1 = (5 : Int32)
        · refine XS.icmpYes X0.here hx rfl (pc0 := 13) (pc' := 20) rfl (hb hby d1_13) rfl (teq c13).1 (by decide) (by decide) ?_
          show Steps p.tables e below (s₁.setTop (mkF m 20 #[.val (.int p1)] [])) _
          refine XS.iconst X0.here hx rfl (hb hby d1_20) ?_
          show Steps p.tables e below (s₁.setTop (mkF m 21 #[.val (.int p1)] [(.int (0 : Int32))])) _
          have ev : own_tk p1 = (0 : Int32) := by first | rfl | (rw [own_tk, if_neg c2, if_neg c8, if_pos c13]; done) | (simp only [own_tk, c2, c8, c13, if_true, if_false]; done) | (simp [own_tk, c2, c8, c13]; done) | contradiction | ((unfold own_tk; repeat' split) <;> first | rfl | contradiction | (simp_all; done))
          rw [ev] at hr
          exact retN X0 hx (t := .boolean) Bd.returns (by simp) (hb hby d1_21) hr
        · refine XS.icmpNo X0.here hx rfl (hb hby d1_13) rfl (feq c13).1 ?_
          show Steps p.tables e below (s₁.setTop (mkF m 16 #[.val (.int p1)] [])) _
          refine XS.iconst X0.here hx rfl (hb hby d1_16) ?_
          show Steps p.tables e below (s₁.setTop (mkF m 17 #[.val (.int p1)] [(.int (1 : Int32))])) _
          refine XS.goto X0.here hx rfl (pc0 := 17) (pc' := 21) rfl (hb hby d1_17) (by decide) (by decide) ?_
          show Steps p.tables e below (s₁.setTop (mkF m 21 #[.val (.int p1)] [(.int (1 : Int32))])) _
          have ev : own_tk p1 = (1 : Int32) := by first | rfl | (rw [own_tk, if_neg c2, if_neg c8, if_neg c13]; done) | (simp only [own_tk, c2, c8, c13, if_true, if_false]; done) | (simp [own_tk, c2, c8, c13]; done) | contradiction | ((unfold own_tk; repeat' split) <;> first | rfl | contradiction | (simp_all; done))
          rw [ev] at hr
          exact retN X0 hx (t := .boolean) Bd.returns (by simp) (hb hby d1_21) hr
  · show Q1 Z p1 h0 n0 _ s₁.heap _
    rw [e0]
    exact ⟨rfl, N0, rfl⟩
theorem d2_0 : decode method_2_code 0 = .ok (.iload_n 0, 1) := by decide +kernel
theorem d2_1 : decode method_2_code 1 = .ok (.iconst 1, 1) := by decide +kernel
theorem d2_2 : decode method_2_code 2 = .ok (.if_icmp .ne 5, 3) := by decide +kernel
theorem d2_5 : decode method_2_code 5 = .ok (.iconst 1, 1) := by decide +kernel
theorem d2_6 : decode method_2_code 6 = .ok (.ireturn, 1) := by decide +kernel
theorem d2_7 : decode method_2_code 7 = .ok (.iload_n 0, 1) := by decide +kernel
theorem d2_8 : decode method_2_code 8 = .ok (.iconst 2, 1) := by decide +kernel
theorem d2_9 : decode method_2_code 9 = .ok (.if_icmp .ne 5, 3) := by decide +kernel
theorem d2_12 : decode method_2_code 12 = .ok (.iconst 1, 1) := by decide +kernel
theorem d2_13 : decode method_2_code 13 = .ok (.ireturn, 1) := by decide +kernel
theorem d2_14 : decode method_2_code 14 = .ok (.iload_n 0, 1) := by decide +kernel
theorem d2_15 : decode method_2_code 15 = .ok (.iconst 3, 1) := by decide +kernel
theorem d2_16 : decode method_2_code 16 = .ok (.if_icmp .ne 5, 3) := by decide +kernel
theorem d2_19 : decode method_2_code 19 = .ok (.iconst 1, 1) := by decide +kernel
theorem d2_20 : decode method_2_code 20 = .ok (.ireturn, 1) := by decide +kernel
theorem d2_21 : decode method_2_code 21 = .ok (.iload_n 0, 1) := by decide +kernel
theorem d2_22 : decode method_2_code 22 = .ok (.iconst 4, 1) := by decide +kernel
theorem d2_23 : decode method_2_code 23 = .ok (.if_icmp .ne 5, 3) := by decide +kernel
theorem d2_26 : decode method_2_code 26 = .ok (.iconst 1, 1) := by decide +kernel
theorem d2_27 : decode method_2_code 27 = .ok (.ireturn, 1) := by decide +kernel
theorem d2_28 : decode method_2_code 28 = .ok (.iload_n 0, 1) := by decide +kernel
theorem d2_29 : decode method_2_code 29 = .ok (.bipush 6, 2) := by decide +kernel
theorem d2_31 : decode method_2_code 31 = .ok (.if_icmp .ne 5, 3) := by decide +kernel
theorem d2_34 : decode method_2_code 34 = .ok (.iconst 1, 1) := by decide +kernel
theorem d2_35 : decode method_2_code 35 = .ok (.ireturn, 1) := by decide +kernel
theorem d2_36 : decode method_2_code 36 = .ok (.iload_n 0, 1) := by decide +kernel
theorem d2_37 : decode method_2_code 37 = .ok (.bipush 7, 2) := by decide +kernel
theorem d2_39 : decode method_2_code 39 = .ok (.if_icmp .ne 5, 3) := by decide +kernel
theorem d2_42 : decode method_2_code 42 = .ok (.iconst 1, 1) := by decide +kernel
theorem d2_43 : decode method_2_code 43 = .ok (.ireturn, 1) := by decide +kernel
theorem d2_44 : decode method_2_code 44 = .ok (.iconst 0, 1) := by decide +kernel
theorem d2_45 : decode method_2_code 45 = .ok (.ireturn, 1) := by decide +kernel
theorem pn_2 : plainName "com/example/flatstone/flatstone/index/BlocksIsTreeKindPinLaw" = true := by first | (simp [plainName, overriddenIn]; done) | decide +kernel
theorem ef_2 (m : MethodId) (x0 : Int32) : entryFrame m #[(.int x0)] 1 = mkF m 0 #[.val (.int x0)] [] := by first | (simp [entryFrame, mkF, argsToLocals, Value.category]; done) | rfl
def Q2 (Z : State) (p1 : Int32) (h0 : Heap) (n0 : Nat) (v : Option Value) (h : Heap) (L : List Loc) : Prop := v = some (.int (own_ek p1)) ∧ Fr n0 L ∧ h = h0
set_option maxRecDepth 65536 in
set_option maxHeartbeats 40000000 in
theorem rm2 (l : Launch) (Z : State) (a0 : Array Value) (hw : ∀ d ∈ tables_1, d.before a0 Z = true) (ws : List Jvm.Cond) (p1 : Int32) (h0 : Heap) (n0 : Nat) (Z0 : n0 ≤ h0.size) :
    MetFree l (⟨"com/example/flatstone/flatstone/index/BlocksIsTreeKindPinLaw", "expected", "(B)Z"⟩ : MethodName) (head1 (Jvm.Cond.code (⟨"com/example/flatstone/flatstone/index/BlocksIsTreeKindPinLaw", "expected", "(B)Z"⟩ : MethodName) method_2_code 1 (some .boolean) :: ws) ({ frames := 0, cells := 0, slots := 0, locals := 0 } : Room)) (fun a U => a = #[(.int p1)] ∧ Z.Warmed39 U.vm ∧ U.heap = h0) (fun _ _ _ _ _ => True) (fun _ U o U' => ∃ v L, o = .returned v ∧ Q2 Z p1 h0 n0 v U'.heap L ∧ FrameEnd U o U' L (({ frames := 0, cells := 0, slots := 0, locals := 0 } : Room)).cells (({ frames := 0, cells := 0, slots := 0, locals := 0 } : Room)).slots) := by
  refine MetFree.of_bodySF (plainFor_of_name pn_2) hisR ?_
  intro p e s m args below meth c s₁ Bd hml0 hP hK
  obtain ⟨rfl, hZ, hh⟩ := hP
  have hx := Bd.exec
  have hby := Bd.bytes
  have hml : c.maxLocals = 1 := hml0
  have hown : s.vm.findClass "com/example/flatstone/flatstone/index/BlocksIsTreeKindPinLaw" = some m.cls := findClass_of_methodNamed Bd.named
  have hnm := (name_of_methodNamed Bd.named Bd.method).1
  have X0 : Stand p l e ({ frames := 0, cells := 0, slots := 0, locals := 0 } : Room) s m #[(.int p1)] below meth c s₁ [] 0 0 := Stand.of_body Bd
  have e0 : s₁.heap = h0 := by rw [← hh, Bd.state]; rfl
  have N0 := Fr.nil n0
  have pre0 : ∀ t, Steps p.tables e below (s₁.setTop (mkF m 0 #[.val (.int p1)] [])) t → Steps p.tables e below (s₁.setTop (entryFrame m #[(.int p1)] 1)) t := fun t k => castTop (ef_2 m p1) k
  obtain ⟨fs, hr, hrun, hended, hW, hsame⟩ := X0.leave (v := some (.int (own_ek p1))) (fun h => by rw [Bd.returns] at h; cases h)
  refine ⟨_, _, pre0 _ ?_, hrun, hended, _, _, rfl, ?_, ⟨_, rfl⟩, hW, hsame.mono (by decide) (by decide)⟩
  · show Steps p.tables e below (s₁.setTop (mkF m 0 #[.val (.int p1)] [])) _
    refine XS.iloadN X0.here hx rfl (hb hby d2_0) rfl ?_
    show Steps p.tables e below (s₁.setTop (mkF m 1 #[.val (.int p1)] [(.int p1)])) _
    refine XS.iconst X0.here hx rfl (hb hby d2_1) ?_
    show Steps p.tables e below (s₁.setTop (mkF m 2 #[.val (.int p1)] [(.int (1 : Int32)), (.int p1)])) _
    by_cases c2 : p1 = (1 : Int32)
    · refine XS.icmpNo X0.here hx rfl (hb hby d2_2) rfl (teq c2).2 ?_
      show Steps p.tables e below (s₁.setTop (mkF m 5 #[.val (.int p1)] [])) _
      refine XS.iconst X0.here hx rfl (hb hby d2_5) ?_
      show Steps p.tables e below (s₁.setTop (mkF m 6 #[.val (.int p1)] [(.int (1 : Int32))])) _
      have ev : own_ek p1 = (1 : Int32) := by first | rfl | (rw [own_ek, if_pos c2]; done) | (simp only [own_ek, c2, if_true, if_false]; done) | (simp [own_ek, c2]; done) | contradiction | ((unfold own_ek; repeat' split) <;> first | rfl | contradiction | (simp_all; done))
      rw [ev] at hr
      exact retN X0 hx (t := .boolean) Bd.returns (by simp) (hb hby d2_6) hr
    · refine XS.icmpYes X0.here hx rfl (pc0 := 2) (pc' := 7) rfl (hb hby d2_2) rfl (feq c2).2 (by decide) (by decide) ?_
      show Steps p.tables e below (s₁.setTop (mkF m 7 #[.val (.int p1)] [])) _
      refine XS.iloadN X0.here hx rfl (hb hby d2_7) rfl ?_
      show Steps p.tables e below (s₁.setTop (mkF m 8 #[.val (.int p1)] [(.int p1)])) _
      refine XS.iconst X0.here hx rfl (hb hby d2_8) ?_
      show Steps p.tables e below (s₁.setTop (mkF m 9 #[.val (.int p1)] [(.int (2 : Int32)), (.int p1)])) _
      by_cases c9 : p1 = (2 : Int32)
      · refine XS.icmpNo X0.here hx rfl (hb hby d2_9) rfl (teq c9).2 ?_
        show Steps p.tables e below (s₁.setTop (mkF m 12 #[.val (.int p1)] [])) _
        refine XS.iconst X0.here hx rfl (hb hby d2_12) ?_
        show Steps p.tables e below (s₁.setTop (mkF m 13 #[.val (.int p1)] [(.int (1 : Int32))])) _
        have ev : own_ek p1 = (1 : Int32) := by first | rfl | (rw [own_ek, if_neg c2, if_pos c9]; done) | (simp only [own_ek, c2, c9, if_true, if_false]; done) | (simp [own_ek, c2, c9]; done) | contradiction | ((unfold own_ek; repeat' split) <;> first | rfl | contradiction | (simp_all; done))
        rw [ev] at hr
        exact retN X0 hx (t := .boolean) Bd.returns (by simp) (hb hby d2_13) hr
      · refine XS.icmpYes X0.here hx rfl (pc0 := 9) (pc' := 14) rfl (hb hby d2_9) rfl (feq c9).2 (by decide) (by decide) ?_
        show Steps p.tables e below (s₁.setTop (mkF m 14 #[.val (.int p1)] [])) _
        refine XS.iloadN X0.here hx rfl (hb hby d2_14) rfl ?_
        show Steps p.tables e below (s₁.setTop (mkF m 15 #[.val (.int p1)] [(.int p1)])) _
        refine XS.iconst X0.here hx rfl (hb hby d2_15) ?_
        show Steps p.tables e below (s₁.setTop (mkF m 16 #[.val (.int p1)] [(.int (3 : Int32)), (.int p1)])) _
        by_cases c16 : p1 = (3 : Int32)
        · refine XS.icmpNo X0.here hx rfl (hb hby d2_16) rfl (teq c16).2 ?_
          show Steps p.tables e below (s₁.setTop (mkF m 19 #[.val (.int p1)] [])) _
          refine XS.iconst X0.here hx rfl (hb hby d2_19) ?_
          show Steps p.tables e below (s₁.setTop (mkF m 20 #[.val (.int p1)] [(.int (1 : Int32))])) _
          have ev : own_ek p1 = (1 : Int32) := by first | rfl | (rw [own_ek, if_neg c2, if_neg c9, if_pos c16]; done) | (simp only [own_ek, c2, c9, c16, if_true, if_false]; done) | (simp [own_ek, c2, c9, c16]; done) | contradiction | ((unfold own_ek; repeat' split) <;> first | rfl | contradiction | (simp_all; done))
          rw [ev] at hr
          exact retN X0 hx (t := .boolean) Bd.returns (by simp) (hb hby d2_20) hr
        · refine XS.icmpYes X0.here hx rfl (pc0 := 16) (pc' := 21) rfl (hb hby d2_16) rfl (feq c16).2 (by decide) (by decide) ?_
          show Steps p.tables e below (s₁.setTop (mkF m 21 #[.val (.int p1)] [])) _
          refine XS.iloadN X0.here hx rfl (hb hby d2_21) rfl ?_
          show Steps p.tables e below (s₁.setTop (mkF m 22 #[.val (.int p1)] [(.int p1)])) _
          refine XS.iconst X0.here hx rfl (hb hby d2_22) ?_
          show Steps p.tables e below (s₁.setTop (mkF m 23 #[.val (.int p1)] [(.int (4 : Int32)), (.int p1)])) _
          by_cases c23 : p1 = (4 : Int32)
          · refine XS.icmpNo X0.here hx rfl (hb hby d2_23) rfl (teq c23).2 ?_
            show Steps p.tables e below (s₁.setTop (mkF m 26 #[.val (.int p1)] [])) _
            refine XS.iconst X0.here hx rfl (hb hby d2_26) ?_
            show Steps p.tables e below (s₁.setTop (mkF m 27 #[.val (.int p1)] [(.int (1 : Int32))])) _
            have ev : own_ek p1 = (1 : Int32) := by first | rfl | (rw [own_ek, if_neg c2, if_neg c9, if_neg c16, if_pos c23]; done) | (simp only [own_ek, c2, c9, c16, c23, if_true, if_false]; done) | (simp [own_ek, c2, c9, c16, c23]; done) | contradiction | ((unfold own_ek; repeat' split) <;> first | rfl | contradiction | (simp_all; done))
            rw [ev] at hr
            exact retN X0 hx (t := .boolean) Bd.returns (by simp) (hb hby d2_27) hr
          · refine XS.icmpYes X0.here hx rfl (pc0 := 23) (pc' := 28) rfl (hb hby d2_23) rfl (feq c23).2 (by decide) (by decide) ?_
            show Steps p.tables e below (s₁.setTop (mkF m 28 #[.val (.int p1)] [])) _
            refine XS.iloadN X0.here hx rfl (hb hby d2_28) rfl ?_
            show Steps p.tables e below (s₁.setTop (mkF m 29 #[.val (.int p1)] [(.int p1)])) _
            refine XS.bipush X0.here hx rfl (hb hby d2_29) ?_
            show Steps p.tables e below (s₁.setTop (mkF m 31 #[.val (.int p1)] [(.int (6 : Int32)), (.int p1)])) _
            by_cases c31 : p1 = (6 : Int32)
            · refine XS.icmpNo X0.here hx rfl (hb hby d2_31) rfl (teq c31).2 ?_
              show Steps p.tables e below (s₁.setTop (mkF m 34 #[.val (.int p1)] [])) _
              refine XS.iconst X0.here hx rfl (hb hby d2_34) ?_
              show Steps p.tables e below (s₁.setTop (mkF m 35 #[.val (.int p1)] [(.int (1 : Int32))])) _
              have ev : own_ek p1 = (1 : Int32) := by first | rfl | (rw [own_ek, if_neg c2, if_neg c9, if_neg c16, if_neg c23, if_pos c31]; done) | (simp only [own_ek, c2, c9, c16, c23, c31, if_true, if_false]; done) | (simp [own_ek, c2, c9, c16, c23, c31]; done) | contradiction | ((unfold own_ek; repeat' split) <;> first | rfl | contradiction | (simp_all; done))
              rw [ev] at hr
              exact retN X0 hx (t := .boolean) Bd.returns (by simp) (hb hby d2_35) hr
            · refine XS.icmpYes X0.here hx rfl (pc0 := 31) (pc' := 36) rfl (hb hby d2_31) rfl (feq c31).2 (by decide) (by decide) ?_
              show Steps p.tables e below (s₁.setTop (mkF m 36 #[.val (.int p1)] [])) _
              refine XS.iloadN X0.here hx rfl (hb hby d2_36) rfl ?_
              show Steps p.tables e below (s₁.setTop (mkF m 37 #[.val (.int p1)] [(.int p1)])) _
              refine XS.bipush X0.here hx rfl (hb hby d2_37) ?_
              show Steps p.tables e below (s₁.setTop (mkF m 39 #[.val (.int p1)] [(.int (7 : Int32)), (.int p1)])) _
              by_cases c39 : p1 = (7 : Int32)
              · refine XS.icmpNo X0.here hx rfl (hb hby d2_39) rfl (teq c39).2 ?_
                show Steps p.tables e below (s₁.setTop (mkF m 42 #[.val (.int p1)] [])) _
                refine XS.iconst X0.here hx rfl (hb hby d2_42) ?_
                show Steps p.tables e below (s₁.setTop (mkF m 43 #[.val (.int p1)] [(.int (1 : Int32))])) _
                have ev : own_ek p1 = (1 : Int32) := by first | rfl | (rw [own_ek, if_neg c2, if_neg c9, if_neg c16, if_neg c23, if_neg c31, if_pos c39]; done) | (simp only [own_ek, c2, c9, c16, c23, c31, c39, if_true, if_false]; done) | (simp [own_ek, c2, c9, c16, c23, c31, c39]; done) | contradiction | ((unfold own_ek; repeat' split) <;> first | rfl | contradiction | (simp_all; done))
                rw [ev] at hr
                exact retN X0 hx (t := .boolean) Bd.returns (by simp) (hb hby d2_43) hr
              · refine XS.icmpYes X0.here hx rfl (pc0 := 39) (pc' := 44) rfl (hb hby d2_39) rfl (feq c39).2 (by decide) (by decide) ?_
                show Steps p.tables e below (s₁.setTop (mkF m 44 #[.val (.int p1)] [])) _
                refine XS.iconst X0.here hx rfl (hb hby d2_44) ?_
                show Steps p.tables e below (s₁.setTop (mkF m 45 #[.val (.int p1)] [(.int (0 : Int32))])) _
                have ev : own_ek p1 = (0 : Int32) := by first | rfl | (rw [own_ek, if_neg c2, if_neg c9, if_neg c16, if_neg c23, if_neg c31, if_neg c39]; done) | (simp only [own_ek, c2, c9, c16, c23, c31, c39, if_true, if_false]; done) | (simp [own_ek, c2, c9, c16, c23, c31, c39]; done) | contradiction | ((unfold own_ek; repeat' split) <;> first | rfl | contradiction | (simp_all; done))
                rw [ev] at hr
                exact retN X0 hx (t := .boolean) Bd.returns (by simp) (hb hby d2_45) hr
  · show Q2 Z p1 h0 n0 _ s₁.heap _
    rw [e0]
    exact ⟨rfl, N0, rfl⟩
theorem pd_b : parseMethodDescriptor "(B)Z" = some ⟨[.byte], some .boolean⟩ := by decide +kernel
theorem pn_0 : plainName "com/example/flatstone/flatstone/index/BlocksIsTreeKindPinLaw" = true := by first | (simp [plainName, overriddenIn]; done) | decide +kernel
theorem ef_0 (m : MethodId) (x0 : Int32) : entryFrame m #[(.int x0)] maxLocals = mkF m 0 #[.val (.int x0), .unset, .unset] [] := by first | (simp [entryFrame, mkF, argsToLocals, Value.category, maxLocals]; done) | rfl
def Q0 (Z : State) (p1 : Int32) (h0 : Heap) (n0 : Nat) (v : Option Value) (h : Heap) (L : List Loc) : Prop := v = some (.int 1) ∧ Fr n0 L
set_option maxRecDepth 65536 in
set_option maxHeartbeats 40000000 in
theorem rm0 (l : Launch) (Z : State) (a0 : Array Value) (hw : ∀ d ∈ tables_1, d.before a0 Z = true) (ws : List Jvm.Cond) (p1 : Int32) (h0 : Heap) (n0 : Nat) (Z0 : n0 ≤ h0.size) :
    MetFree l x (head1 (Jvm.Cond.code x code maxLocals ret :: ws) room_1) (fun a U => a = #[(.int p1)] ∧ Z.Warmed39 U.vm ∧ U.heap = h0) (fun _ _ _ _ _ => True) (fun _ U o U' => ∃ v L, o = .returned v ∧ Q0 Z p1 h0 n0 v U'.heap L ∧ FrameEnd U o U' L (room_1).cells (room_1).slots) := by
  refine MetFree.of_bodySF (plainFor_of_name pn_0) hisR ?_
  intro p e s m args below meth c s₁ Bd hml0 hP hK
  obtain ⟨rfl, hZ, hh⟩ := hP
  have hx := Bd.exec
  have hby := Bd.bytes
  have hml : c.maxLocals = 3 := hml0
  have hown : s.vm.findClass "com/example/flatstone/flatstone/index/BlocksIsTreeKindPinLaw" = some m.cls := findClass_of_methodNamed Bd.named
  have hnm := (name_of_methodNamed Bd.named Bd.method).1
  have X0 : Stand p l e room_1 s m #[(.int p1)] below meth c s₁ [] 0 0 := Stand.of_body Bd
  have e0 : s₁.heap = h0 := by rw [← hh, Bd.state]; rfl
  have N0 := Fr.nil n0
  have pre0 : ∀ t, Steps p.tables e below (s₁.setTop (mkF m 0 #[.val (.int p1), .unset, .unset] [])) t → Steps p.tables e below (s₁.setTop (entryFrame m #[(.int p1)] maxLocals)) t := fun t k => castTop (ef_0 m p1) k
  obtain ⟨_, _, ⟨T1, L1, k1, n1⟩, -, X1, ⟨Lc1, hQ1, l1, y1, z1⟩, st1⟩ := Jvm.LawKit.callS X0 hx (y := (⟨"com/example/flatstone/flatstone/index/Blocks", "isTreeKind", "(B)Z"⟩ : MethodName)) hown (mvT hZ (hw _ (List.mem_of_getElem? (i := 0) rfl))) (mvT hZ (hw _ (List.mem_of_getElem? (i := 1) rfl))) (mvT hZ (hw _ (List.mem_of_getElem? (i := 2) rfl))) (mvT hZ (hw _ (List.mem_of_getElem? (i := 3) rfl))) (by decide) (backOf (W := 0) (rm1 l Z a0 hw [] (p1.toInt8.toInt32) h0 n0 Z0) hZ (hw _ (List.mem_of_getElem? (i := 3) rfl)) (hw _ (List.mem_of_getElem? (i := 2) rfl)) (by decide) (by decide)) (g := (mkF m 10 #[.val (.int p1), .val (.int (p1.toInt8.toInt32)), .val (.int (1 : Int32))] [(.int (p1.toInt8.toInt32))])) rfl (by rw [hml]; rfl) (argsL := [(.int (p1.toInt8.toInt32))]) (rest := []) (lenOf pd_b rfl) rfl (by show 2 * 0 + _ ≤ _; exact Nat.le_of_eq rfl) (hb hby at_10) (fun _ _ => ⟨rfl, e0, (by decide : 0 + 0 ≤ _), (by decide : 0 + 0 ≤ _)⟩)
  dsimp only [Pt.U, Pt.locs, Pt.cells, Pt.slots] at X1 l1 y1 z1 st1 hQ1
  subst l1 y1 z1
  obtain ⟨rfl, N1q, e1⟩ := hQ1
  have N1 := Fr.app N0 N1q
  obtain ⟨_, _, ⟨T2, L2, k2, n2⟩, -, X2, ⟨Lc2, hQ2, l2, y2, z2⟩, st2⟩ := Jvm.LawKit.callS X1 hx (y := (⟨"com/example/flatstone/flatstone/index/BlocksIsTreeKindPinLaw", "expected", "(B)Z"⟩ : MethodName)) hown (mvT hZ (hw _ (List.mem_of_getElem? (i := 4) rfl))) (mvT hZ (hw _ (List.mem_of_getElem? (i := 5) rfl))) (mvT hZ (hw _ (List.mem_of_getElem? (i := 6) rfl))) (mvT hZ (hw _ (List.mem_of_getElem? (i := 7) rfl))) (by decide) (backOf (W := 1) (rm2 l Z a0 hw [] (p1.toInt8.toInt32) h0 n0 Z0) hZ (hw _ (List.mem_of_getElem? (i := 7) rfl)) (hw _ (List.mem_of_getElem? (i := 6) rfl)) (by decide) (by decide)) (g := (mkF m 14 #[.val (.int p1), .val (.int (p1.toInt8.toInt32)), .val (.int (1 : Int32))] [(.int (p1.toInt8.toInt32)), (.int (own_tk (p1.toInt8.toInt32)))])) rfl (by rw [hml]; rfl) (argsL := [(.int (p1.toInt8.toInt32))]) (rest := [(.int (own_tk (p1.toInt8.toInt32)))]) (lenOf pd_b rfl) rfl (by show 2 * 0 + _ ≤ _; exact Nat.le_of_eq rfl) (hb hby at_14) (fun _ _ => ⟨rfl, e1, (by decide : 0 + 0 ≤ _), (by decide : 0 + 0 ≤ _)⟩)
  dsimp only [Pt.U, Pt.locs, Pt.cells, Pt.slots] at X2 l2 y2 z2 st2 hQ2
  subst l2 y2 z2
  obtain ⟨rfl, N2q, e2⟩ := hQ2
  have N2 := Fr.app N1 N2q
  have fin := own_tree (p1.toInt8.toInt32)
  obtain ⟨fs, hr, hrun, hended, hW, hsame⟩ := X2.leave (v := some (.int (1 : Int32))) (fun h => by rw [Bd.returns] at h; cases h)
  refine ⟨_, _, pre0 _ ?_, hrun, hended, _, _, rfl, ?_, ⟨_, rfl⟩, hW, hsame.mono (by decide) (by decide)⟩
  · show Steps p.tables e below (s₁.setTop (mkF m 0 #[.val (.int p1), .unset, .unset] [])) _
    refine XS.iloadN X0.here hx rfl (hb hby at_0) rfl ?_
    show Steps p.tables e below (s₁.setTop (mkF m 1 #[.val (.int p1), .unset, .unset] [(.int p1)])) _
    refine XS.i2b X0.here hx rfl (hb hby at_1) rfl ?_
    show Steps p.tables e below (s₁.setTop (mkF m 2 #[.val (.int p1), .unset, .unset] [(.int (p1.toInt8.toInt32))])) _
    refine XS.istoreN X0.here hx rfl (hb hby at_2) rfl (l' := #[.val (.int p1), .val (.int (p1.toInt8.toInt32)), .unset]) rfl ?_
    show Steps p.tables e below (s₁.setTop (mkF m 3 #[.val (.int p1), .val (.int (p1.toInt8.toInt32)), .unset] [])) _
    refine XS.iconst X0.here hx rfl (hb hby at_3) ?_
    show Steps p.tables e below (s₁.setTop (mkF m 4 #[.val (.int p1), .val (.int (p1.toInt8.toInt32)), .unset] [(.int (1 : Int32))])) _
    refine XS.istoreN X0.here hx rfl (hb hby at_4) rfl (l' := #[.val (.int p1), .val (.int (p1.toInt8.toInt32)), .val (.int (1 : Int32))]) rfl ?_
    show Steps p.tables e below (s₁.setTop (mkF m 5 #[.val (.int p1), .val (.int (p1.toInt8.toInt32)), .val (.int (1 : Int32))] [])) _
    refine XS.iloadN X0.here hx rfl (hb hby at_5) rfl ?_
    show Steps p.tables e below (s₁.setTop (mkF m 6 #[.val (.int p1), .val (.int (p1.toInt8.toInt32)), .val (.int (1 : Int32))] [(.int (1 : Int32))])) _
    refine XS.ifNo X0.here hx rfl (hb hby at_6) rfl ((if0 _ _).trans (feq (by decide)).1) ?_
    show Steps p.tables e below (s₁.setTop (mkF m 9 #[.val (.int p1), .val (.int (p1.toInt8.toInt32)), .val (.int (1 : Int32))] [])) _
    refine XS.iloadN X0.here hx rfl (hb hby at_9) rfl ?_
    show Steps p.tables e below (s₁.setTop (mkF m 10 #[.val (.int p1), .val (.int (p1.toInt8.toInt32)), .val (.int (1 : Int32))] [(.int (p1.toInt8.toInt32))])) _
    refine st1 _ ?_
    show Steps p.tables e below (T1.setTop (mkF m 13 #[.val (.int p1), .val (.int (p1.toInt8.toInt32)), .val (.int (1 : Int32))] [(.int (own_tk (p1.toInt8.toInt32)))])) _
    refine XS.iloadN X1.here hx rfl (hb hby at_13) rfl ?_
    show Steps p.tables e below (T1.setTop (mkF m 14 #[.val (.int p1), .val (.int (p1.toInt8.toInt32)), .val (.int (1 : Int32))] [(.int (p1.toInt8.toInt32)), (.int (own_tk (p1.toInt8.toInt32)))])) _
    refine st2 _ ?_
    show Steps p.tables e below (T2.setTop (mkF m 17 #[.val (.int p1), .val (.int (p1.toInt8.toInt32)), .val (.int (1 : Int32))] [(.int (own_ek (p1.toInt8.toInt32))), (.int (own_tk (p1.toInt8.toInt32)))])) _
    refine XS.icmpNo X2.here hx rfl (hb hby at_17) rfl (teq fin).2 ?_
    show Steps p.tables e below (T2.setTop (mkF m 20 #[.val (.int p1), .val (.int (p1.toInt8.toInt32)), .val (.int (1 : Int32))] [])) _
    refine XS.iconst X2.here hx rfl (hb hby at_20) ?_
    show Steps p.tables e below (T2.setTop (mkF m 21 #[.val (.int p1), .val (.int (p1.toInt8.toInt32)), .val (.int (1 : Int32))] [(.int (1 : Int32))])) _
    refine XS.goto X2.here hx rfl (pc0 := 21) (pc' := 25) rfl (hb hby at_21) (by decide) (by decide) ?_
    show Steps p.tables e below (T2.setTop (mkF m 25 #[.val (.int p1), .val (.int (p1.toInt8.toInt32)), .val (.int (1 : Int32))] [(.int (1 : Int32))])) _
    exact retN X2 hx (t := .boolean) Bd.returns (by simp) (hb hby at_25) hr
  · show Q0 Z p1 h0 n0 _ T2.heap _
    exact ⟨rfl, N2⟩
set_option maxRecDepth 65536 in
set_option maxHeartbeats 40000000 in
theorem comes_1 {Post : Tables → Env → Array Value → State → Outcome → State → Prop} (hpost : ∀ tb e args s v u, (limb_1_1.after args s (.returned v) u = true ∧ limb_1_2.after args s (.returned v) u = true ∧ True) → FrameEnd s (.returned v) u (Jvm.fieldLocs frame_1_writes args s ++ Jvm.arrayLocs frame_1_arrays args s ++ Jvm.staticLocs frame_1_statics s) 0 0 → Post tb e args s (.returned v) u) :
    ArmFor flags0 classFile x code maxLocals ret World_1 tables_1 room_1 Calls_1 rest_1 Pre_1 Post := by
  intro l hfl _ _ p e ha hc hk s m args below hf hA hF happ hP
  obtain ⟨hcalls, hrest, hpre⟩ := hP
  obtain ⟨-, -, -, hnamed, -, -, -, hat⟩ := (Spec.applies_iff hf).mp happ
  obtain ⟨hg, hn⟩ := and_e (Cond.before_iff.mp (show (Jvm.Cond.and given_1 narrow_1).before args s = true from hpre))
  obtain ⟨gc, q0⟩ := and_e hg
  have g0 := q0
  obtain ⟨w0, rfl⟩ : ∃ w0 : Value, args = #[w0] := by
    have hs : args.size = 1 := by simpa [Cond.value, given_1] using gc
    obtain ⟨L⟩ := args
    match L, hs with
    | [w0], _ => exact ⟨w0, rfl⟩
  have hw := fun d (hd : d ∈ tables_1) => atoms_spec (ws := Jvm.Cond.code x code maxLocals ret :: tables_1) hat d (List.mem_cons_of_mem _ hd)
  obtain ⟨i0, ei0⟩ := is_v g0
  obtain rfl : w0 = (.int i0) := Option.some.inj ei0
  obtain ⟨n, o, h1, h2, h3, _, L, rfl, ⟨rfl, N⟩, hq⟩ := rm0 l s _ hw tables_1 i0 s.heap s.heap.size (Nat.le_refl _) p e ha hc hk s m _ below hf ((Spec.applies_iff_loose hf).mp happ).1 ⟨rfl, State.Warmed39.refl s, rfl⟩ trivial
  refine ⟨n, _, h1, h2, h3, hpost _ _ _ _ _ _ ⟨Cond.after_iff.mpr rfl, Cond.after_iff.mpr (eq_i res_at (Term.int_eval (1)) rfl), trivial⟩ ⟨hq.1, hq.2.1, (hq.2.2.sift fun y hy => Or.inr (N y hy)).mono (by decide) (by decide)⟩⟩
theorem main_1_1 : Claimed_1_1 := comes_1 fun _ _ _ _ _ _ h hF => ⟨h.1, hF⟩
theorem main_1_2 : Claimed_1_2 := comes_1 fun _ _ _ _ _ _ h hF => ⟨h.2.1, hF⟩
end Jvm.Pilot.@@N@@
namespace Jvm.Pilot.@@N@@
open Jvm Jvm.ClassFile Sem Op Lib Jvm.Free Jvm.Stand Jvm.Pilot.@@N@@.Jvm.D
/-! MADE BY PROGRAM (witnessworld.py) out of the Statement's table words and the real class files: 9 classes; the members and pool entries that the words name. The judged class is class 1, her method 2. -/
namespace start1
open Jvm.ClassFile
def u (s : String) : CpInfo := .utf8 (stringToUtf16 s)
/-- a pool by its gaps: so many unusable entries, then the entry; so many at the end -/
def gap : Nat → List CpInfo → List CpInfo
  | 0, r => r
  | n + 1, r => .unusable :: gap n r
def poolList (es : List (Nat × CpInfo)) (last : Nat) : List CpInfo := es.foldr (fun e r => gap e.1 (e.2 :: r)) (gap last [])
def pool (es : List (Nat × CpInfo)) (last : Nat) : Array CpInfo := ⟨poolList es last⟩
def fileOf (pool : Array CpInfo) (this : Nat) (attrs : Array Attribute := #[]) (ms : Array MethodInfo := #[]) (fl : Nat := 33) (sup : Nat := 0) (ifs : Array Nat := #[]) (fds : Array FieldInfo := #[]) : ClassFile where
  minorVersion := 0
  majorVersion := 65
  constantPool := pool
  accessFlags := fl
  thisClass := this
  superClass := sup
  interfaces := ifs
  fields := fds
  methods := ms
  attributes := attrs
def plain (name : String) (sup : Option ClassId) : Class where
  name := name
  kind := .ordinary
  loader := none
  accessFlags := 33
  super := sup
  interfaces := #[]
  cf := none
  fields := #[]
  methods := #[]
  instanceTypes := #[]
  staticTypes := #[]
  resolved := #[]
  callSites := []
  init := .initialized
  statics := none
  mirror := none

def pool0 : Array CpInfo := pool [(5, u "<init>"), (0, u "()V"), (1, .class_ 10), (1, u "java/lang/Object")] 113

def k0m0 : Method := { name := "<init>", desc := "()V", sig := { parameters := [], returnType := none }, accessFlags := 1, code := none }
/-- java/lang/Object -/
def k0 : Class := { plain "java/lang/Object" none with
  accessFlags := 33
  interfaces := #[]
  cf := some (fileOf pool0 8 #[] #[{ accessFlags := 1, nameIndex := 5, descriptorIndex := 6, attributes := #[] }] 33 0 #[] #[])
  fields := #[]
  methods := #[k0m0]
  instanceTypes := #[]
  staticTypes := #[]
  resolved := Array.replicate 124 none
  statics := none }

def pool1 : Array CpInfo := pool [(2, .class_ 4), (1, u "java/lang/Object"), (0, u "<init>"), (0, u "()V"), (0, .class_ 8), (0, u "com/example/flatstone/flatstone/index/Blocks"), (0, .methodref 7 10), (0, .nameAndType 11 12), (0, u "isTreeKind"), (0, u "(B)Z"), (0, .methodref 14 15), (0, .class_ 16), (0, .nameAndType 17 12), (0, u "com/example/flatstone/flatstone/index/BlocksIsTreeKindPinLaw"), (0, u "expected"), (3, u "law"), (0, u "(I)Z")] 2

def k1m0 : Method := { name := "<init>", desc := "()V", sig := { parameters := [], returnType := none }, accessFlags := 2, code := none }
def k1c1 : Code := { maxStack := 2, maxLocals := 1, code := method_2_code, exceptionTable := #[], attributes := #[] }
def k1m1 : Method := { name := "expected", desc := "(B)Z", sig := { parameters := [.byte], returnType := some .boolean }, accessFlags := 10, code := some k1c1 }
def k1c2 : Code := { maxStack := 2, maxLocals := 3, code := code, exceptionTable := #[], attributes := #[] }
def k1m2 : Method := { name := "law", desc := "(I)Z", sig := { parameters := [.int], returnType := some .boolean }, accessFlags := 9, code := some k1c2 }
/-- com/example/flatstone/flatstone/index/BlocksIsTreeKindPinLaw -/
def k1 : Class := { plain "com/example/flatstone/flatstone/index/BlocksIsTreeKindPinLaw" (some 0) with
  accessFlags := 49
  interfaces := #[]
  cf := some (fileOf pool1 14 #[] #[{ accessFlags := 2, nameIndex := 5, descriptorIndex := 6, attributes := #[] }, { accessFlags := 10, nameIndex := 17, descriptorIndex := 12, attributes := #[] }, { accessFlags := 9, nameIndex := 21, descriptorIndex := 22, attributes := #[] }] 49 2 #[] #[])
  fields := #[]
  methods := #[k1m0, k1m1, k1m2]
  instanceTypes := #[]
  staticTypes := #[]
  resolved := Array.replicate 25 none
  statics := none }

def pool2 : Array CpInfo := pool [(5, .class_ 6), (0, u "com/example/flatstone/flatstone/index/Blocks"), (1, .class_ 10), (1, u "java/lang/Object"), (0, u "<init>"), (0, u "()V"), (29, u "SIZE"), (0, u "I"), (2, u "HEADER_LENGTH"), (1, u "CHECKSUM_LENGTH"), (1, u "TERM_LEAF"), (0, u "B"), (1, u "TERM_POINTER"), (1, u "POSTING_LEAF"), (1, u "POSTING_POINTER"), (0, u "METADATA"), (0, u "PARTITION_LEAF"), (1, u "PARTITION_POINTER"), (1, u "POINTER_LENGTH"), (1, u "INLINE_POSTINGS"), (1, u "PARTIAL_COUNT_BITS"), (0, u "PARTIAL_COUNT_MASK"), (0, u "MAX_VINT_LENGTH"), (3, u "isTreeKind"), (0, u "(B)Z")] 6

def k2m0 : Method := { name := "<init>", desc := "()V", sig := { parameters := [], returnType := none }, accessFlags := 2, code := none }
def k2c1 : Code := { maxStack := 2, maxLocals := 1, code := prog_102_method_2_code, exceptionTable := #[], attributes := #[] }
def k2m1 : Method := { name := "isTreeKind", desc := "(B)Z", sig := { parameters := [.byte], returnType := some .boolean }, accessFlags := 8, code := some k2c1 }
/-- com/example/flatstone/flatstone/index/Blocks -/
def k2 : Class := { plain "com/example/flatstone/flatstone/index/Blocks" (some 0) with
  accessFlags := 48
  interfaces := #[]
  cf := some (fileOf pool2 5 #[] #[{ accessFlags := 2, nameIndex := 11, descriptorIndex := 12, attributes := #[] }, { accessFlags := 8, nameIndex := 73, descriptorIndex := 74, attributes := #[] }] 48 8 #[] #[{ accessFlags := 24, nameIndex := 42, descriptorIndex := 43, attributes := #[] }, { accessFlags := 24, nameIndex := 46, descriptorIndex := 43, attributes := #[] }, { accessFlags := 24, nameIndex := 48, descriptorIndex := 43, attributes := #[] }, { accessFlags := 24, nameIndex := 50, descriptorIndex := 51, attributes := #[] }, { accessFlags := 24, nameIndex := 53, descriptorIndex := 51, attributes := #[] }, { accessFlags := 24, nameIndex := 55, descriptorIndex := 51, attributes := #[] }, { accessFlags := 24, nameIndex := 57, descriptorIndex := 51, attributes := #[] }, { accessFlags := 24, nameIndex := 58, descriptorIndex := 51, attributes := #[] }, { accessFlags := 24, nameIndex := 59, descriptorIndex := 51, attributes := #[] }, { accessFlags := 24, nameIndex := 61, descriptorIndex := 51, attributes := #[] }, { accessFlags := 24, nameIndex := 63, descriptorIndex := 43, attributes := #[] }, { accessFlags := 24, nameIndex := 65, descriptorIndex := 43, attributes := #[] }, { accessFlags := 24, nameIndex := 67, descriptorIndex := 43, attributes := #[] }, { accessFlags := 24, nameIndex := 68, descriptorIndex := 43, attributes := #[] }, { accessFlags := 24, nameIndex := 69, descriptorIndex := 43, attributes := #[] }])
  fields := #[{ name := "SIZE", type := .int, accessFlags := 24, slot := 0, constantValue := 0 }, { name := "HEADER_LENGTH", type := .int, accessFlags := 24, slot := 1, constantValue := 0 }, { name := "CHECKSUM_LENGTH", type := .int, accessFlags := 24, slot := 2, constantValue := 0 }, { name := "TERM_LEAF", type := .byte, accessFlags := 24, slot := 3, constantValue := 0 }, { name := "TERM_POINTER", type := .byte, accessFlags := 24, slot := 4, constantValue := 0 }, { name := "POSTING_LEAF", type := .byte, accessFlags := 24, slot := 5, constantValue := 0 }, { name := "POSTING_POINTER", type := .byte, accessFlags := 24, slot := 6, constantValue := 0 }, { name := "METADATA", type := .byte, accessFlags := 24, slot := 7, constantValue := 0 }, { name := "PARTITION_LEAF", type := .byte, accessFlags := 24, slot := 8, constantValue := 0 }, { name := "PARTITION_POINTER", type := .byte, accessFlags := 24, slot := 9, constantValue := 0 }, { name := "POINTER_LENGTH", type := .int, accessFlags := 24, slot := 10, constantValue := 0 }, { name := "INLINE_POSTINGS", type := .int, accessFlags := 24, slot := 11, constantValue := 0 }, { name := "PARTIAL_COUNT_BITS", type := .int, accessFlags := 24, slot := 12, constantValue := 0 }, { name := "PARTIAL_COUNT_MASK", type := .int, accessFlags := 24, slot := 13, constantValue := 0 }, { name := "MAX_VINT_LENGTH", type := .int, accessFlags := 24, slot := 14, constantValue := 0 }]
  methods := #[k2m0, k2m1]
  instanceTypes := #[]
  staticTypes := #[.int, .int, .int, .byte, .byte, .byte, .byte, .byte, .byte, .byte, .int, .int, .int, .int, .int]
  resolved := Array.replicate 81 none
  statics := none }

def pool3 : Array CpInfo := pool [(1, u "java/lang/Cloneable"), (0, .class_ 1), (0, u "java/lang/Object"), (0, .class_ 3)] 3

/-- java/lang/Cloneable -/
def k3 : Class := { plain "java/lang/Cloneable" (some 0) with
  accessFlags := 1537
  interfaces := #[]
  cf := some (fileOf pool3 2 #[] #[] 1537 4 #[] #[])
  fields := #[]
  methods := #[]
  instanceTypes := #[]
  staticTypes := #[]
  resolved := Array.replicate 8 none
  statics := none }

def pool4 : Array CpInfo := pool [(1, u "java/io/Serializable"), (0, .class_ 1), (0, u "java/lang/Object"), (0, .class_ 3)] 3

/-- java/io/Serializable -/
def k4 : Class := { plain "java/io/Serializable" (some 0) with
  accessFlags := 1537
  interfaces := #[]
  cf := some (fileOf pool4 2 #[] #[] 1537 4 #[] #[])
  fields := #[]
  methods := #[]
  instanceTypes := #[]
  staticTypes := #[]
  resolved := Array.replicate 8 none
  statics := none }

/-- the primitive byte -/
def k5 : Class := { plain "byte" none with kind := .primitive 'B', accessFlags := 0x411 }
/-- [B -/
def k6 : Class := { plain "[B" (some 0) with kind := .array 5 .byte, interfaces := #[3, 4], accessFlags := 1041 }

/-- the primitive int -/
def k7 : Class := { plain "int" none with kind := .primitive 'I', accessFlags := 0x411 }
/-- [I -/
def k8 : Class := { plain "[I" (some 0) with kind := .array 7 .int, interfaces := #[3, 4], accessFlags := 1041 }

def heap : Heap := #[]
def classes : Array Class := #[k0, k1, k2, k3, k4, k5, k6, k7, k8]
def interned : List (Array UInt16 × Addr) := []
def slotsUsed : Nat := 0
def theMethod : MethodId := ⟨1, 2⟩
def args0 : Array Value := #[.int 5]
def aboutOver (below : List Frame) : State where
  vm := { classes := classes, interned := interned.toArray }
  heap := heap
  slotsUsed := slotsUsed
  threads := #[{ frames := .invoking theMethod args0 :: below }]
def below0 : List Frame := [.native { method := ⟨0, 0⟩, args := #[] }]
def about1 : State := aboutOver below0
def p0 : Program := .bare "" "" ""
def e0 : Env := launch0.env 0 0 0
theorem w_frames : about1.frames = Frame.invoking theMethod args0 :: below0 := rfl
set_option maxRecDepth 65536 in
theorem w_args : argsFit about1.vm theMethod args0 = true := by decide +kernel
set_option maxRecDepth 65536 in
theorem w_heap : heapFits about1 = true := by decide +kernel
set_option maxRecDepth 65536 in
theorem w_runnable : about1.curStatus? = some .runnable := by decide +kernel
set_option maxRecDepth 65536 in
theorem w_alone : about1.alone = true := by decide +kernel
set_option maxRecDepth 65536 in
theorem w_named : about1.methodNamed? x = some theMethod := by decide +kernel
set_option maxRecDepth 65536 in
theorem w_hears : about1.hears theMethod below0 = true := by decide +kernel
set_option maxRecDepth 65536 in
theorem w_ripe : about1.ripe theMethod args0 below0 = true := by decide +kernel
theorem w_running : about1.status = .running := rfl
set_option maxRecDepth 65536 in
theorem w_room : about1.hasRoom e0.platform room_1 = true :=
  launch0.hasRoom_least _ room_1 (by decide +kernel) (by decide +kernel) (by decide +kernel) (by decide +kernel) (by decide +kernel) (by decide +kernel)
theorem allAtoms_all (ts : List Jvm.Cond) (a : Array Jvm.Value) (st : Jvm.State) : (allAtoms ts).before a st = ts.all (fun c => c.before a st) := by
  induction ts with
  | nil => rfl
  | cons c t ih =>
    show (Jvm.Cond.and c (allAtoms t)).before a st = _
    rw [Jvm.Cond.before_and, ih, List.all_cons]
def words1 : List Jvm.Cond := Jvm.Cond.code x code maxLocals ret :: tables_1
/-- a 'code' word, met by the world's own term for the bytes: nothing is compared byte by byte -/
theorem code_word {y : MethodName} {bytes : ByteArray} {mx : Nat} {rt : Option FieldType} {a : Array Value} {s : State} {m : MethodId} {meth : Method} {c : Code} (h1 : s.methodNamed? y = some m) (h2 : s.vm.method? m = some meth) (h3 : meth.code = some c) (h4 : c.code = bytes)
    (h5 : (c.maxLocals == mx && c.exceptionTable.isEmpty && decide (c.maxStack ≤ mostOperands) && decide (meth.sig.returnType = rt) && !meth.locks && decide (parseMethodDescriptor y.desc = some meth.sig)) = true) : (Jvm.Cond.code y bytes mx rt).before a s = true := by
  simp only [Bool.and_eq_true, beq_iff_eq, Bool.not_eq_true', decide_eq_true_eq] at h5
  obtain ⟨⟨⟨⟨⟨g1, g2⟩, g3⟩, g4⟩, g5⟩, g6⟩ := h5
  simp [Cond.before, Cond.holds, Cond.value, h1, h2, h3, h4, g1, g2, g3, g4, g5, g6]
def isCode : Jvm.Cond → Bool
  | .code _ _ _ _ => true
  | _ => false
theorem all_split {L : List Jvm.Cond} {P : Jvm.Cond → Bool} (h1 : L.all (fun c => isCode c || P c) = true) (h2 : ∀ c ∈ L.filter isCode, P c = true) : L.all P = true := by
  refine List.all_eq_true.mpr fun c hc => ?_
  have h := List.all_eq_true.mp h1 c hc
  rcases Bool.eq_false_or_eq_true (isCode c) with hi | hi
  · exact h2 c (List.mem_filter.mpr ⟨hc, hi⟩)
  · simpa [hi] using h
set_option maxRecDepth 65536 in
theorem w_c0 : (Jvm.Cond.code x code maxLocals ret).before args0 about1 = true := code_word (m := ⟨1, 2⟩) (meth := k1m2) (c := k1c2) (by decide +kernel) rfl rfl rfl (by decide +kernel)
set_option maxRecDepth 65536 in
theorem w_c1 : (Jvm.Cond.code ({ cls := "com/example/flatstone/flatstone/index/Blocks", name := "isTreeKind", desc := "(B)Z" } : Jvm.MethodName) prog_102_method_2_code (1 : Nat) (Option.some Jvm.ClassFile.FieldType.boolean)).before args0 about1 = true := code_word (m := ⟨2, 1⟩) (meth := k2m1) (c := k2c1) (by decide +kernel) rfl rfl rfl (by decide +kernel)
set_option maxRecDepth 65536 in
theorem w_c2 : (Jvm.Cond.code ({ cls := "com/example/flatstone/flatstone/index/BlocksIsTreeKindPinLaw", name := "expected", desc := "(B)Z" } : Jvm.MethodName) method_2_code (1 : Nat) (Option.some Jvm.ClassFile.FieldType.boolean)).before args0 about1 = true := code_word (m := ⟨1, 1⟩) (meth := k1m1) (c := k1c1) (by decide +kernel) rfl rfl rfl (by decide +kernel)
def codes1 : List Jvm.Cond := [Jvm.Cond.code x code maxLocals ret, Jvm.Cond.code ({ cls := "com/example/flatstone/flatstone/index/Blocks", name := "isTreeKind", desc := "(B)Z" } : Jvm.MethodName) prog_102_method_2_code (1 : Nat) (Option.some Jvm.ClassFile.FieldType.boolean), Jvm.Cond.code ({ cls := "com/example/flatstone/flatstone/index/BlocksIsTreeKindPinLaw", name := "expected", desc := "(B)Z" } : Jvm.MethodName) method_2_code (1 : Nat) (Option.some Jvm.ClassFile.FieldType.boolean)]
set_option maxRecDepth 65536 in
theorem codes_eq : words1.filter isCode = codes1 := rfl
theorem w_codes : ∀ c ∈ words1.filter isCode, c.before args0 about1 = true := by
  rw [codes_eq]
  intro c hc
  simp only [codes1, List.mem_cons, List.not_mem_nil, or_false] at hc
  rcases hc with rfl | rfl | rfl
  · exact w_c0
  · exact w_c1
  · exact w_c2
set_option maxRecDepth 65536 in
theorem w_t1 : words1.all (fun c => isCode c || c.before args0 about1) = true := by decide +kernel
theorem w_tables : (allAtoms (Jvm.Cond.code x code maxLocals ret :: tables_1)).before args0 about1 = true := by
  rw [allAtoms_all]
  show words1.all (fun c => c.before args0 about1) = true
  refine all_split ?_ w_codes
  rw [w_t1]
set_option maxRecDepth 65536 in
theorem w_case : (Jvm.Cond.and given_1 narrow_1).before args0 about1 = true := by decide +kernel
theorem w_applies : (headSpec (Jvm.Cond.code x code maxLocals ret :: tables_1) room_1).applies x e0.platform about1 = true :=
  (Spec.applies_iff w_frames).mpr ⟨w_running, w_runnable, w_alone, w_named, w_hears, w_ripe, w_room, w_tables⟩
theorem atStart : AtStart classFile x code maxLocals ret World_1 tables_1 room_1 Calls_1 rest_1 Pre_1 launch0 p0 e0 about1 theMethod args0 below0 :=
  ⟨lists_1, trivial, launch0.admits_env _ _ _, launch0.least_env, fairChoices_fair.cas, fairChoices_fair.clock, w_frames, w_args, w_heap, w_applies, trivial, trivial, w_case⟩
end start1
theorem witness_1 : WitnessClaimed_1 := ⟨start1.p0, start1.e0, start1.about1, start1.theMethod, start1.args0, start1.below0, start1.atStart⟩
end Jvm.Pilot.@@N@@
