import JvmDerived
import JvmDerived.Pilot.@@N@@Statement
import JvmDerived.Pilot.@@N@@Code
set_option linter.unusedVariables false
set_option linter.unusedSimpArgs false
namespace Jvm.RoadKit
open Sem ClassFile Op Lib Jvm.Stand Jvm.Free Jvm.LawKit
section New
variable {p : Program} {l : Launch} {e : Env} {R : Room} {s : State} {m : MethodId} {args : Array Value} {below : List Frame} {meth : Method} {c : Code} {T : State} {locs : List Loc} {cells slots : Nat}
theorem retI (X : Stand p l e R s m args below meth c T locs cells slots) (hx : p.tables.exec = Jvm.exec) {pc : Nat} {Ls : Array Slot} {z : Int32} {rest : List Value} (hret : meth.sig.returnType = some .int) (hd : decode c.code pc = .ok (.ireturn, 1)) {fs : List Frame}
    (hl : ∀ (f : JFrame) (acts : List Action), f.method = m → f.locked = none → f.entered = [] → (doReturn e (T.setTop f) acts (some (.int z))).1 = T.setFrames fs) : Steps p.tables e below (T.setTop (mkF m pc Ls (.int z :: rest))) (T.setFrames fs) := by
  have hm' : T.vm.method? m = some meth := X.method'
  have hn : narrow .int (.int z) = .int z := rfl
  show Steps p.tables e below (T.setTop { method := m, pc := pc, locals := Ls, stack := _ :: rest, locked := none }) _
  jvm_step X.here [X.here.top, hx, hd, hm', hret, hn]
  first | (intro acts; rw [hl _ acts rfl rfl rfl]) | rw [hl _ _ rfl rfl rfl]
  exact Steps.refl _
end New
end Jvm.RoadKit
namespace Jvm.Pilot.@@N@@
open Jvm Jvm.ClassFile Sem Op Lib Jvm.Free Jvm.Stand Jvm.LawKit Jvm.RoadKit Bundle Jvm.Pilot.@@N@@.Jvm.D
def own_lo (w : Int32) : Int64 := if w = 1 then 0 else if w = 2 then 0 else if w = -1 then -128 else if w = -2 then -32768 else -2147483648
def own_hi (w : Int32) : Int64 := if w = 1 then 255 else if w = 2 then 65535 else if w = -1 then 127 else if w = -2 then 32767 else 2147483647
def own_ho (w : Int32) (a b : Int64) : Int32 := if a < own_lo w then 0 else if own_hi w < b then 0 else 1
def own_min (a b : Int32) : Int32 := if b < a then b else a
def own_max (a b : Int32) : Int32 := if a < b then b else a
def own_abs (a : Int32) : Int32 := if a < 0 then -a else a
def own_wd (a b : Int64) : Int32 := if ¬ a < 0 ∧ b < 256 then 1 else if ¬ a < 0 ∧ b < 65536 then 2 else if ¬ a < -128 ∧ ¬ 127 < b then -1 else if ¬ a < -32768 ∧ ¬ 32767 < b then -2 else 4
theorem own_ho_eq (w : Int32) (A B lo hi : Int64) (h1 : own_lo w = lo) (h2 : own_hi w = hi) : own_ho w A B = if A.toInt < lo.toInt then 0 else if hi.toInt < B.toInt then 0 else 1 := by
  unfold own_ho; rw [h1, h2]; simp only [Int64.lt_iff_toInt_lt]
theorem own_wd_eq (A B : Int64) : own_wd A B = if ¬ A.toInt < 0 ∧ B.toInt < 256 then 1 else if ¬ A.toInt < 0 ∧ B.toInt < 65536 then 2 else if ¬ A.toInt < -128 ∧ ¬ 127 < B.toInt then -1 else if ¬ A.toInt < -32768 ∧ ¬ 32767 < B.toInt then -2 else 4 := by
  unfold own_wd; simp only [Int64.lt_iff_toInt_lt]; rfl
theorem own_reg0 (A B : Int64) (h1 : -2147483648 ≤ A.toInt) (h2 : B.toInt ≤ 2147483647) (h3 : A.toInt ≤ B.toInt) :
    (own_wd A B = 1 ∧ own_ho 1 A B = 1 ∧ ¬ A < 0) ∨ (own_wd A B = -1 ∧ own_ho (-1) A B = 1 ∧ A < 0) ∨ (own_wd A B = 2 ∧ own_ho 2 A B = 1 ∧ own_ho 1 A B = 0 ∧ own_ho (-1) A B = 0 ∧ ¬ A < 0) ∨
    (own_wd A B = -2 ∧ own_ho (-2) A B = 1 ∧ own_ho 1 A B = 0 ∧ own_ho (-1) A B = 0 ∧ A < 0) ∨ (own_wd A B = 4 ∧ own_ho 4 A B = 1 ∧ own_ho 1 A B = 0 ∧ own_ho (-1) A B = 0 ∧ own_ho 2 A B = 0 ∧ own_ho (-2) A B = 0) := by
  have z : (0 : Int64).toInt = 0 := rfl
  rw [own_wd_eq, own_ho_eq 1 A B 0 255 rfl rfl, own_ho_eq (-1) A B (-128) 127 rfl rfl, own_ho_eq 2 A B 0 65535 rfl rfl, own_ho_eq (-2) A B (-32768) 32767 rfl rfl, own_ho_eq 4 A B (-2147483648) 2147483647 rfl rfl, Int64.lt_iff_toInt_lt, z]
  have e1 : (255 : Int64).toInt = 255 := rfl
  have e2 : (-128 : Int64).toInt = -128 := rfl
  have e3 : (127 : Int64).toInt = 127 := rfl
  have e4 : (65535 : Int64).toInt = 65535 := rfl
  have e5 : (-32768 : Int64).toInt = -32768 := rfl
  have e6 : (32767 : Int64).toInt = 32767 := rfl
  have e7 : (-2147483648 : Int64).toInt = -2147483648 := rfl
  have e8 : (2147483647 : Int64).toInt = 2147483647 := rfl
  rw [e1, e2, e3, e4, e5, e6, e7, e8]
  generalize A.toInt = a at *
  generalize B.toInt = b at *
  have h4 : ¬ a < -2147483648 := by omega
  have h5 : ¬ 2147483647 < b := by omega
  simp only [h4, h5, if_false]
  by_cases c1 : ¬ a < 0 ∧ b < 256
  · have : ¬ 255 < b := by omega
    simp [c1, this]
  · by_cases c2 : ¬ a < 0 ∧ b < 65536
    · have q1 : ¬ 65535 < b := by omega
      have q2 : 255 < b := by omega
      have q3 : 127 < b := by omega
      have q4 : ¬ a < -128 := by omega
      simp [c2, q1, q2, q3, q4]; omega
    · by_cases c3 : ¬ a < -128 ∧ ¬ 127 < b
      · have q1 : a < 0 := by omega
        simp [c3, q1]
      · by_cases c4 : ¬ a < -32768 ∧ ¬ 32767 < b
        · have q1 : a < 0 := by omega
          by_cases q2 : a < -128
          · simp [c4, q1, q2]
          · have q3 : 127 < b := by omega
            simp [c4, q1, q2, q3]
        · right; right; right; right
          have p1 : (if a < 0 then (0 : Int32) else if 255 < b then 0 else 1) = 0 := by
            by_cases g : a < 0
            · simp [g]
            · have : 255 < b := by omega
              simp [g, this]
          have p2 : (if a < -128 then (0 : Int32) else if 127 < b then 0 else 1) = 0 := by
            by_cases g : a < -128
            · simp [g]
            · have : 127 < b := by omega
              simp [g, this]
          have p3 : (if a < 0 then (0 : Int32) else if 65535 < b then 0 else 1) = 0 := by
            by_cases g : a < 0
            · simp [g]
            · have : 65535 < b := by omega
              simp [g, this]
          have p4 : (if a < -32768 then (0 : Int32) else if 32767 < b then 0 else 1) = 0 := by
            by_cases g : a < -32768
            · simp [g]
            · have : 32767 < b := by omega
              simp [g, this]
          rw [p1, p2, p3, p4, if_neg c1, if_neg c2, if_neg c3, if_neg c4]
          simp
theorem own_reg (a b : Int32) : -2147483648 ≤ (own_min a b).toInt64.toInt ∧ (own_max a b).toInt64.toInt ≤ 2147483647 ∧ (own_min a b).toInt64.toInt ≤ (own_max a b).toInt64.toInt := by
  rw [Int32.toInt_toInt64, Int32.toInt_toInt64]
  have ha := a.toInt_lt; have ha' := a.le_toInt; have hb := b.toInt_lt; have hb' := b.le_toInt
  unfold own_min own_max
  by_cases h1 : b < a <;> by_cases h2 : a < b <;> simp only [h1, h2, if_true, if_false] <;> rw [Int32.lt_iff_toInt_lt] at h1 h2 <;> omega
theorem d1_0 : decode jdk_29_method_69_code 0 = .ok (.iload_n 0, 1) := by decide +kernel
theorem d1_1 : decode jdk_29_method_69_code 1 = .ok (.iload_n 1, 1) := by decide +kernel
theorem d1_2 : decode jdk_29_method_69_code 2 = .ok (.if_icmp .gt 7, 3) := by decide +kernel
theorem d1_5 : decode jdk_29_method_69_code 5 = .ok (.iload_n 0, 1) := by decide +kernel
theorem d1_6 : decode jdk_29_method_69_code 6 = .ok (.goto 4, 3) := by decide +kernel
theorem d1_9 : decode jdk_29_method_69_code 9 = .ok (.iload_n 1, 1) := by decide +kernel
theorem d1_10 : decode jdk_29_method_69_code 10 = .ok (.ireturn, 1) := by decide +kernel
theorem ef_1 (m : MethodId) (x0 : Int32) (x1 : Int32) : entryFrame m #[(.int x0), (.int x1)] 2 = mkF m 0 #[.val (.int x0), .val (.int x1)] [] := by first | (simp [entryFrame, mkF, argsToLocals, Value.category]; done) | rfl
def Q1 (Z : State) (p1 : Int32) (p2 : Int32) (h0 : Heap) (n0 : Nat) (v : Option Value) (h : Heap) (L : List Loc) : Prop := v = some (.int (own_min p1 p2)) ∧ Fr n0 L ∧ h = h0
set_option maxRecDepth 65536 in
set_option maxHeartbeats 40000000 in
theorem rm1 (l : Launch) (Z : State) (a0 : Array Value) (hw : ∀ d ∈ tables_1, d.before a0 Z = true) (ws : List Jvm.Cond) (p1 : Int32) (p2 : Int32) (h0 : Heap) (n0 : Nat) (Z0 : n0 ≤ h0.size) :
    MetFree l (⟨"java/lang/Math", "min", "(II)I"⟩ : MethodName) (head1 (Jvm.Cond.code (⟨"java/lang/Math", "min", "(II)I"⟩ : MethodName) jdk_29_method_69_code 2 (some .int) :: ws) ({ frames := 0, cells := 0, slots := 0, locals := 0 } : Room)) (fun a U => a = #[(.int p1), (.int p2)] ∧ Z.Warmed39 U.vm ∧ U.heap = h0) (fun _ _ _ _ _ => True) (fun _ U o U' => ∃ v L, o = .returned v ∧ Q1 Z p1 p2 h0 n0 v U'.heap L ∧ FrameEnd U o U' L (({ frames := 0, cells := 0, slots := 0, locals := 0 } : Room)).cells (({ frames := 0, cells := 0, slots := 0, locals := 0 } : Room)).slots) := by
  refine MetFree.of_bodySF (Jvm.Free.JP.mathPlain rfl (by decide)) hisR ?_
  intro p e s m args below meth c s₁ Bd hml0 hP hK
  obtain ⟨rfl, hZ, hh⟩ := hP
  have hx := Bd.exec
  have hby := Bd.bytes
  have hml : c.maxLocals = 2 := hml0
  have hown : s.vm.findClass "java/lang/Math" = some m.cls := findClass_of_methodNamed Bd.named
  have hnm := (name_of_methodNamed Bd.named Bd.method).1
  have X0 : Stand p l e ({ frames := 0, cells := 0, slots := 0, locals := 0 } : Room) s m #[(.int p1), (.int p2)] below meth c s₁ [] 0 0 := Stand.of_body Bd
  have e0 : s₁.heap = h0 := by rw [← hh, Bd.state]; rfl
  have N0 := Fr.nil n0
  have pre0 : ∀ t, Steps p.tables e below (s₁.setTop (mkF m 0 #[.val (.int p1), .val (.int p2)] [])) t → Steps p.tables e below (s₁.setTop (entryFrame m #[(.int p1), (.int p2)] 2)) t := fun t k => castTop (ef_1 m p1 p2) k
  obtain ⟨fs, hr, hrun, hended, hW, hsame⟩ := X0.leave (v := some (.int (own_min p1 p2))) (fun h => by rw [Bd.returns] at h; cases h)
  refine ⟨_, _, pre0 _ ?_, hrun, hended, _, _, rfl, ?_, ⟨_, rfl⟩, hW, hsame.mono (by decide) (by decide)⟩
  · show Steps p.tables e below (s₁.setTop (mkF m 0 #[.val (.int p1), .val (.int p2)] [])) _
    refine XS.iloadN X0.here hx rfl (hb hby d1_0) rfl ?_
    show Steps p.tables e below (s₁.setTop (mkF m 1 #[.val (.int p1), .val (.int p2)] [(.int p1)])) _
    refine XS.iloadN X0.here hx rfl (hb hby d1_1) rfl ?_
    show Steps p.tables e below (s₁.setTop (mkF m 2 #[.val (.int p1), .val (.int p2)] [(.int p2), (.int p1)])) _
    by_cases c2 : p2 < p1
    · refine XS.icmpYes X0.here hx rfl (pc0 := 2) (pc' := 9) rfl (hb hby d1_2) rfl (tlt c2).2.2.1 (by decide) (by decide) ?_
      show Steps p.tables e below (s₁.setTop (mkF m 9 #[.val (.int p1), .val (.int p2)] [])) _
      refine XS.iloadN X0.here hx rfl (hb hby d1_9) rfl ?_
      show Steps p.tables e below (s₁.setTop (mkF m 10 #[.val (.int p1), .val (.int p2)] [(.int p2)])) _
      have ev : own_min p1 p2 = p2 := by first | rfl | (rw [own_min, if_pos c2]; done) | (simp only [own_min, c2, if_true, if_false]; done) | (simp [own_min, c2]; done) | contradiction | ((unfold own_min; repeat' split) <;> first | rfl | contradiction | (simp_all; done))
      rw [ev] at hr
      exact retI X0 hx Bd.returns (hb hby d1_10) hr
    · refine XS.icmpNo X0.here hx rfl (hb hby d1_2) rfl (flt c2).2.2.1 ?_
      show Steps p.tables e below (s₁.setTop (mkF m 5 #[.val (.int p1), .val (.int p2)] [])) _
      refine XS.iloadN X0.here hx rfl (hb hby d1_5) rfl ?_
      show Steps p.tables e below (s₁.setTop (mkF m 6 #[.val (.int p1), .val (.int p2)] [(.int p1)])) _
      refine XS.goto X0.here hx rfl (pc0 := 6) (pc' := 10) rfl (hb hby d1_6) (by decide) (by decide) ?_
      show Steps p.tables e below (s₁.setTop (mkF m 10 #[.val (.int p1), .val (.int p2)] [(.int p1)])) _
      have ev : own_min p1 p2 = p1 := by first | rfl | (rw [own_min, if_neg c2]; done) | (simp only [own_min, c2, if_true, if_false]; done) | (simp [own_min, c2]; done) | contradiction | ((unfold own_min; repeat' split) <;> first | rfl | contradiction | (simp_all; done))
      rw [ev] at hr
      exact retI X0 hx Bd.returns (hb hby d1_10) hr
  · show Q1 Z p1 p2 h0 n0 _ s₁.heap _
    rw [e0]
    exact ⟨rfl, N0, rfl⟩
theorem d2_0 : decode jdk_29_method_65_code 0 = .ok (.iload_n 0, 1) := by decide +kernel
theorem d2_1 : decode jdk_29_method_65_code 1 = .ok (.iload_n 1, 1) := by decide +kernel
theorem d2_2 : decode jdk_29_method_65_code 2 = .ok (.if_icmp .lt 7, 3) := by decide +kernel
theorem d2_5 : decode jdk_29_method_65_code 5 = .ok (.iload_n 0, 1) := by decide +kernel
theorem d2_6 : decode jdk_29_method_65_code 6 = .ok (.goto 4, 3) := by decide +kernel
theorem d2_9 : decode jdk_29_method_65_code 9 = .ok (.iload_n 1, 1) := by decide +kernel
theorem d2_10 : decode jdk_29_method_65_code 10 = .ok (.ireturn, 1) := by decide +kernel
theorem ef_2 (m : MethodId) (x0 : Int32) (x1 : Int32) : entryFrame m #[(.int x0), (.int x1)] 2 = mkF m 0 #[.val (.int x0), .val (.int x1)] [] := by first | (simp [entryFrame, mkF, argsToLocals, Value.category]; done) | rfl
def Q2 (Z : State) (p1 : Int32) (p2 : Int32) (h0 : Heap) (n0 : Nat) (v : Option Value) (h : Heap) (L : List Loc) : Prop := v = some (.int (own_max p1 p2)) ∧ Fr n0 L ∧ h = h0
set_option maxRecDepth 65536 in
set_option maxHeartbeats 40000000 in
theorem rm2 (l : Launch) (Z : State) (a0 : Array Value) (hw : ∀ d ∈ tables_1, d.before a0 Z = true) (ws : List Jvm.Cond) (p1 : Int32) (p2 : Int32) (h0 : Heap) (n0 : Nat) (Z0 : n0 ≤ h0.size) :
    MetFree l (⟨"java/lang/Math", "max", "(II)I"⟩ : MethodName) (head1 (Jvm.Cond.code (⟨"java/lang/Math", "max", "(II)I"⟩ : MethodName) jdk_29_method_65_code 2 (some .int) :: ws) ({ frames := 0, cells := 0, slots := 0, locals := 0 } : Room)) (fun a U => a = #[(.int p1), (.int p2)] ∧ Z.Warmed39 U.vm ∧ U.heap = h0) (fun _ _ _ _ _ => True) (fun _ U o U' => ∃ v L, o = .returned v ∧ Q2 Z p1 p2 h0 n0 v U'.heap L ∧ FrameEnd U o U' L (({ frames := 0, cells := 0, slots := 0, locals := 0 } : Room)).cells (({ frames := 0, cells := 0, slots := 0, locals := 0 } : Room)).slots) := by
  refine MetFree.of_bodySF (Jvm.Free.JP.mathPlain rfl (by decide)) hisR ?_
  intro p e s m args below meth c s₁ Bd hml0 hP hK
  obtain ⟨rfl, hZ, hh⟩ := hP
  have hx := Bd.exec
  have hby := Bd.bytes
  have hml : c.maxLocals = 2 := hml0
  have hown : s.vm.findClass "java/lang/Math" = some m.cls := findClass_of_methodNamed Bd.named
  have hnm := (name_of_methodNamed Bd.named Bd.method).1
  have X0 : Stand p l e ({ frames := 0, cells := 0, slots := 0, locals := 0 } : Room) s m #[(.int p1), (.int p2)] below meth c s₁ [] 0 0 := Stand.of_body Bd
  have e0 : s₁.heap = h0 := by rw [← hh, Bd.state]; rfl
  have N0 := Fr.nil n0
  have pre0 : ∀ t, Steps p.tables e below (s₁.setTop (mkF m 0 #[.val (.int p1), .val (.int p2)] [])) t → Steps p.tables e below (s₁.setTop (entryFrame m #[(.int p1), (.int p2)] 2)) t := fun t k => castTop (ef_2 m p1 p2) k
  obtain ⟨fs, hr, hrun, hended, hW, hsame⟩ := X0.leave (v := some (.int (own_max p1 p2))) (fun h => by rw [Bd.returns] at h; cases h)
  refine ⟨_, _, pre0 _ ?_, hrun, hended, _, _, rfl, ?_, ⟨_, rfl⟩, hW, hsame.mono (by decide) (by decide)⟩
  · show Steps p.tables e below (s₁.setTop (mkF m 0 #[.val (.int p1), .val (.int p2)] [])) _
    refine XS.iloadN X0.here hx rfl (hb hby d2_0) rfl ?_
    show Steps p.tables e below (s₁.setTop (mkF m 1 #[.val (.int p1), .val (.int p2)] [(.int p1)])) _
    refine XS.iloadN X0.here hx rfl (hb hby d2_1) rfl ?_
    show Steps p.tables e below (s₁.setTop (mkF m 2 #[.val (.int p1), .val (.int p2)] [(.int p2), (.int p1)])) _
    by_cases c2 : p1 < p2
    · refine XS.icmpYes X0.here hx rfl (pc0 := 2) (pc' := 9) rfl (hb hby d2_2) rfl (tlt c2).1 (by decide) (by decide) ?_
      show Steps p.tables e below (s₁.setTop (mkF m 9 #[.val (.int p1), .val (.int p2)] [])) _
      refine XS.iloadN X0.here hx rfl (hb hby d2_9) rfl ?_
      show Steps p.tables e below (s₁.setTop (mkF m 10 #[.val (.int p1), .val (.int p2)] [(.int p2)])) _
      have ev : own_max p1 p2 = p2 := by first | rfl | (rw [own_max, if_pos c2]; done) | (simp only [own_max, c2, if_true, if_false]; done) | (simp [own_max, c2]; done) | contradiction | ((unfold own_max; repeat' split) <;> first | rfl | contradiction | (simp_all; done))
      rw [ev] at hr
      exact retI X0 hx Bd.returns (hb hby d2_10) hr
    · refine XS.icmpNo X0.here hx rfl (hb hby d2_2) rfl (flt c2).1 ?_
      show Steps p.tables e below (s₁.setTop (mkF m 5 #[.val (.int p1), .val (.int p2)] [])) _
      refine XS.iloadN X0.here hx rfl (hb hby d2_5) rfl ?_
      show Steps p.tables e below (s₁.setTop (mkF m 6 #[.val (.int p1), .val (.int p2)] [(.int p1)])) _
      refine XS.goto X0.here hx rfl (pc0 := 6) (pc' := 10) rfl (hb hby d2_6) (by decide) (by decide) ?_
      show Steps p.tables e below (s₁.setTop (mkF m 10 #[.val (.int p1), .val (.int p2)] [(.int p1)])) _
      have ev : own_max p1 p2 = p1 := by first | rfl | (rw [own_max, if_neg c2]; done) | (simp only [own_max, c2, if_true, if_false]; done) | (simp [own_max, c2]; done) | contradiction | ((unfold own_max; repeat' split) <;> first | rfl | contradiction | (simp_all; done))
      rw [ev] at hr
      exact retI X0 hx Bd.returns (hb hby d2_10) hr
  · show Q2 Z p1 p2 h0 n0 _ s₁.heap _
    rw [e0]
    exact ⟨rfl, N0, rfl⟩
theorem d3_0 : decode prog_48_method_10_code 0 = .ok (.lload_n 0, 1) := by decide +kernel
theorem d3_1 : decode prog_48_method_10_code 1 = .ok (.lconst 0, 1) := by decide +kernel
theorem d3_2 : decode prog_48_method_10_code 2 = .ok (.lcmp, 1) := by decide +kernel
theorem d3_3 : decode prog_48_method_10_code 3 = .ok (.ifCond .lt 17, 3) := by decide +kernel
theorem d3_6 : decode prog_48_method_10_code 6 = .ok (.lload_n 2, 1) := by decide +kernel
theorem d3_7 : decode prog_48_method_10_code 7 = .ok (.ldc2_w 107, 3) := by decide +kernel
theorem d3_10 : decode prog_48_method_10_code 10 = .ok (.lcmp, 1) := by decide +kernel
theorem d3_11 : decode prog_48_method_10_code 11 = .ok (.ifCond .ge 9, 3) := by decide +kernel
theorem d3_14 : decode prog_48_method_10_code 14 = .ok (.iconst 1, 1) := by decide +kernel
theorem d3_15 : decode prog_48_method_10_code 15 = .ok (.istore 4, 2) := by decide +kernel
theorem d3_17 : decode prog_48_method_10_code 17 = .ok (.goto 71, 3) := by decide +kernel
theorem d3_20 : decode prog_48_method_10_code 20 = .ok (.lload_n 0, 1) := by decide +kernel
theorem d3_21 : decode prog_48_method_10_code 21 = .ok (.lconst 0, 1) := by decide +kernel
theorem d3_22 : decode prog_48_method_10_code 22 = .ok (.lcmp, 1) := by decide +kernel
theorem d3_23 : decode prog_48_method_10_code 23 = .ok (.ifCond .lt 17, 3) := by decide +kernel
theorem d3_26 : decode prog_48_method_10_code 26 = .ok (.lload_n 2, 1) := by decide +kernel
theorem d3_27 : decode prog_48_method_10_code 27 = .ok (.ldc2_w 109, 3) := by decide +kernel
theorem d3_30 : decode prog_48_method_10_code 30 = .ok (.lcmp, 1) := by decide +kernel
theorem d3_31 : decode prog_48_method_10_code 31 = .ok (.ifCond .ge 9, 3) := by decide +kernel
theorem d3_34 : decode prog_48_method_10_code 34 = .ok (.iconst 2, 1) := by decide +kernel
theorem d3_35 : decode prog_48_method_10_code 35 = .ok (.istore 4, 2) := by decide +kernel
theorem d3_37 : decode prog_48_method_10_code 37 = .ok (.goto 51, 3) := by decide +kernel
theorem d3_40 : decode prog_48_method_10_code 40 = .ok (.lload_n 0, 1) := by decide +kernel
theorem d3_41 : decode prog_48_method_10_code 41 = .ok (.ldc2_w 113, 3) := by decide +kernel
theorem d3_44 : decode prog_48_method_10_code 44 = .ok (.lcmp, 1) := by decide +kernel
theorem d3_45 : decode prog_48_method_10_code 45 = .ok (.ifCond .lt 17, 3) := by decide +kernel
theorem d3_48 : decode prog_48_method_10_code 48 = .ok (.lload_n 2, 1) := by decide +kernel
theorem d3_49 : decode prog_48_method_10_code 49 = .ok (.ldc2_w 115, 3) := by decide +kernel
theorem d3_52 : decode prog_48_method_10_code 52 = .ok (.lcmp, 1) := by decide +kernel
theorem d3_53 : decode prog_48_method_10_code 53 = .ok (.ifCond .gt 9, 3) := by decide +kernel
theorem d3_56 : decode prog_48_method_10_code 56 = .ok (.iconst (-1), 1) := by decide +kernel
theorem d3_57 : decode prog_48_method_10_code 57 = .ok (.istore 4, 2) := by decide +kernel
theorem d3_59 : decode prog_48_method_10_code 59 = .ok (.goto 29, 3) := by decide +kernel
theorem d3_62 : decode prog_48_method_10_code 62 = .ok (.lload_n 0, 1) := by decide +kernel
theorem d3_63 : decode prog_48_method_10_code 63 = .ok (.ldc2_w 119, 3) := by decide +kernel
theorem d3_66 : decode prog_48_method_10_code 66 = .ok (.lcmp, 1) := by decide +kernel
theorem d3_67 : decode prog_48_method_10_code 67 = .ok (.ifCond .lt 18, 3) := by decide +kernel
theorem d3_70 : decode prog_48_method_10_code 70 = .ok (.lload_n 2, 1) := by decide +kernel
theorem d3_71 : decode prog_48_method_10_code 71 = .ok (.ldc2_w 121, 3) := by decide +kernel
theorem d3_74 : decode prog_48_method_10_code 74 = .ok (.lcmp, 1) := by decide +kernel
theorem d3_75 : decode prog_48_method_10_code 75 = .ok (.ifCond .gt 10, 3) := by decide +kernel
theorem d3_78 : decode prog_48_method_10_code 78 = .ok (.bipush (-2), 2) := by decide +kernel
theorem d3_80 : decode prog_48_method_10_code 80 = .ok (.istore 4, 2) := by decide +kernel
theorem d3_82 : decode prog_48_method_10_code 82 = .ok (.goto 6, 3) := by decide +kernel
theorem d3_85 : decode prog_48_method_10_code 85 = .ok (.iconst 4, 1) := by decide +kernel
theorem d3_86 : decode prog_48_method_10_code 86 = .ok (.istore 4, 2) := by decide +kernel
theorem d3_88 : decode prog_48_method_10_code 88 = .ok (.iload 4, 2) := by decide +kernel
theorem d3_90 : decode prog_48_method_10_code 90 = .ok (.ireturn, 1) := by decide +kernel
theorem pn_3 : plainName "com/example/trailgen/trailgen/promela/StateCodec" = true := by first | (simp [plainName, overriddenIn]; done) | decide +kernel
theorem ef_3 (m : MethodId) (x0 : Int64) (x1 : Int64) : entryFrame m #[(.long x0), (.long x1)] 5 = mkF m 0 #[.val (.long x0), .second, .val (.long x1), .second, .unset] [] := by first | (simp [entryFrame, mkF, argsToLocals, Value.category]; done) | rfl
def Q3 (Z : State) (p1 : Int64) (p2 : Int64) (h0 : Heap) (n0 : Nat) (v : Option Value) (h : Heap) (L : List Loc) : Prop := v = some (.int (own_wd p1 p2)) ∧ Fr n0 L ∧ h = h0
set_option maxRecDepth 65536 in
set_option maxHeartbeats 40000000 in
theorem rm3 (l : Launch) (Z : State) (a0 : Array Value) (hw : ∀ d ∈ tables_1, d.before a0 Z = true) (ws : List Jvm.Cond) (p1 : Int64) (p2 : Int64) (h0 : Heap) (n0 : Nat) (Z0 : n0 ≤ h0.size) :
    MetFree l (⟨"com/example/trailgen/trailgen/promela/StateCodec", "widthFor", "(JJ)I"⟩ : MethodName) (head1 (Jvm.Cond.code (⟨"com/example/trailgen/trailgen/promela/StateCodec", "widthFor", "(JJ)I"⟩ : MethodName) prog_48_method_10_code 5 (some .int) :: ws) ({ frames := 0, cells := 0, slots := 0, locals := 0 } : Room)) (fun a U => a = #[(.long p1), (.long p2)] ∧ Z.Warmed39 U.vm ∧ U.heap = h0) (fun _ _ _ _ _ => True) (fun _ U o U' => ∃ v L, o = .returned v ∧ Q3 Z p1 p2 h0 n0 v U'.heap L ∧ FrameEnd U o U' L (({ frames := 0, cells := 0, slots := 0, locals := 0 } : Room)).cells (({ frames := 0, cells := 0, slots := 0, locals := 0 } : Room)).slots) := by
  refine MetFree.of_bodySF (plainFor_of_name pn_3) hisR ?_
  intro p e s m args below meth c s₁ Bd hml0 hP hK
  obtain ⟨rfl, hZ, hh⟩ := hP
  have hx := Bd.exec
  have hby := Bd.bytes
  have hml : c.maxLocals = 5 := hml0
  have hown : s.vm.findClass "com/example/trailgen/trailgen/promela/StateCodec" = some m.cls := findClass_of_methodNamed Bd.named
  have hnm := (name_of_methodNamed Bd.named Bd.method).1
  have X0 : Stand p l e ({ frames := 0, cells := 0, slots := 0, locals := 0 } : Room) s m #[(.long p1), (.long p2)] below meth c s₁ [] 0 0 := Stand.of_body Bd
  have e0 : s₁.heap = h0 := by rw [← hh, Bd.state]; rfl
  have N0 := Fr.nil n0
  have pre0 : ∀ t, Steps p.tables e below (s₁.setTop (mkF m 0 #[.val (.long p1), .second, .val (.long p2), .second, .unset] [])) t → Steps p.tables e below (s₁.setTop (entryFrame m #[(.long p1), (.long p2)] 5)) t := fun t k => castTop (ef_3 m p1 p2) k
  obtain ⟨fs, hr, hrun, hended, hW, hsame⟩ := X0.leave (v := some (.int (own_wd p1 p2))) (fun h => by rw [Bd.returns] at h; cases h)
  refine ⟨_, _, pre0 _ ?_, hrun, hended, _, _, rfl, ?_, ⟨_, rfl⟩, hW, hsame.mono (by decide) (by decide)⟩
  · show Steps p.tables e below (s₁.setTop (mkF m 0 #[.val (.long p1), .second, .val (.long p2), .second, .unset] [])) _
    refine XS.lloadN X0.here hx rfl (hb hby d3_0) rfl ?_
    show Steps p.tables e below (s₁.setTop (mkF m 1 #[.val (.long p1), .second, .val (.long p2), .second, .unset] [(.long p1)])) _
    refine XS.lconst X0.here hx rfl (hb hby d3_1) ?_
    show Steps p.tables e below (s₁.setTop (mkF m 2 #[.val (.long p1), .second, .val (.long p2), .second, .unset] [(.long (0 : Int64)), (.long p1)])) _
    refine XS.lcmp X0.here hx rfl (hb hby d3_2) rfl ?_
    show Steps p.tables e below (s₁.setTop (mkF m 3 #[.val (.long p1), .second, .val (.long p2), .second, .unset] [(.int (lcmpW p1 (0 : Int64)))])) _
    by_cases c3 : p1 < (0 : Int64)
    · refine XS.ifYes X0.here hx rfl (pc0 := 3) (pc' := 20) rfl (hb hby d3_3) rfl ((if0 _ _).trans (tlt ((lw_lt _ _).mpr c3)).1) (by decide) (by decide) ?_
      show Steps p.tables e below (s₁.setTop (mkF m 20 #[.val (.long p1), .second, .val (.long p2), .second, .unset] [])) _
      refine XS.lloadN X0.here hx rfl (hb hby d3_20) rfl ?_
      show Steps p.tables e below (s₁.setTop (mkF m 21 #[.val (.long p1), .second, .val (.long p2), .second, .unset] [(.long p1)])) _
      refine XS.lconst X0.here hx rfl (hb hby d3_21) ?_
      show Steps p.tables e below (s₁.setTop (mkF m 22 #[.val (.long p1), .second, .val (.long p2), .second, .unset] [(.long (0 : Int64)), (.long p1)])) _
      refine XS.lcmp X0.here hx rfl (hb hby d3_22) rfl ?_
      show Steps p.tables e below (s₁.setTop (mkF m 23 #[.val (.long p1), .second, .val (.long p2), .second, .unset] [(.int (lcmpW p1 (0 : Int64)))])) _
      by_cases c23 : p1 < (0 : Int64)
      · refine XS.ifYes X0.here hx rfl (pc0 := 23) (pc' := 40) rfl (hb hby d3_23) rfl ((if0 _ _).trans (tlt ((lw_lt _ _).mpr c23)).1) (by decide) (by decide) ?_
        show Steps p.tables e below (s₁.setTop (mkF m 40 #[.val (.long p1), .second, .val (.long p2), .second, .unset] [])) _
        refine XS.lloadN X0.here hx rfl (hb hby d3_40) rfl ?_
        show Steps p.tables e below (s₁.setTop (mkF m 41 #[.val (.long p1), .second, .val (.long p2), .second, .unset] [(.long p1)])) _
        refine X0.ldc2J hx hown (mvT hZ (hw _ (List.mem_of_getElem? (i := 26) rfl))) rfl (hb hby d3_41) ?_
        show Steps p.tables e below (s₁.setTop (mkF m 44 #[.val (.long p1), .second, .val (.long p2), .second, .unset] [(.long (-128 : Int64)), (.long p1)])) _
        refine XS.lcmp X0.here hx rfl (hb hby d3_44) rfl ?_
        show Steps p.tables e below (s₁.setTop (mkF m 45 #[.val (.long p1), .second, .val (.long p2), .second, .unset] [(.int (lcmpW p1 (-128 : Int64)))])) _
        by_cases c45 : p1 < (-128 : Int64)
        · refine XS.ifYes X0.here hx rfl (pc0 := 45) (pc' := 62) rfl (hb hby d3_45) rfl ((if0 _ _).trans (tlt ((lw_lt _ _).mpr c45)).1) (by decide) (by decide) ?_
          show Steps p.tables e below (s₁.setTop (mkF m 62 #[.val (.long p1), .second, .val (.long p2), .second, .unset] [])) _
          refine XS.lloadN X0.here hx rfl (hb hby d3_62) rfl ?_
          show Steps p.tables e below (s₁.setTop (mkF m 63 #[.val (.long p1), .second, .val (.long p2), .second, .unset] [(.long p1)])) _
          refine X0.ldc2J hx hown (mvT hZ (hw _ (List.mem_of_getElem? (i := 27) rfl))) rfl (hb hby d3_63) ?_
          show Steps p.tables e below (s₁.setTop (mkF m 66 #[.val (.long p1), .second, .val (.long p2), .second, .unset] [(.long (-32768 : Int64)), (.long p1)])) _
          refine XS.lcmp X0.here hx rfl (hb hby d3_66) rfl ?_
          show Steps p.tables e below (s₁.setTop (mkF m 67 #[.val (.long p1), .second, .val (.long p2), .second, .unset] [(.int (lcmpW p1 (-32768 : Int64)))])) _
          by_cases c67 : p1 < (-32768 : Int64)
          · refine XS.ifYes X0.here hx rfl (pc0 := 67) (pc' := 85) rfl (hb hby d3_67) rfl ((if0 _ _).trans (tlt ((lw_lt _ _).mpr c67)).1) (by decide) (by decide) ?_
            show Steps p.tables e below (s₁.setTop (mkF m 85 #[.val (.long p1), .second, .val (.long p2), .second, .unset] [])) _
            refine XS.iconst X0.here hx rfl (hb hby d3_85) ?_
            show Steps p.tables e below (s₁.setTop (mkF m 86 #[.val (.long p1), .second, .val (.long p2), .second, .unset] [(.int (4 : Int32))])) _
            refine XS.istore X0.here hx rfl (hb hby d3_86) rfl (l' := #[.val (.long p1), .second, .val (.long p2), .second, .val (.int (4 : Int32))]) rfl ?_
            show Steps p.tables e below (s₁.setTop (mkF m 88 #[.val (.long p1), .second, .val (.long p2), .second, .val (.int (4 : Int32))] [])) _
            refine XS.iload X0.here hx rfl (hb hby d3_88) rfl ?_
            show Steps p.tables e below (s₁.setTop (mkF m 90 #[.val (.long p1), .second, .val (.long p2), .second, .val (.int (4 : Int32))] [(.int (4 : Int32))])) _
            have ev : own_wd p1 p2 = (4 : Int32) := by first | rfl | (rw [own_wd, if_pos c3, if_pos c23, if_pos c45, if_pos c67]; done) | (simp only [own_wd, c3, c23, c45, c67, if_true, if_false]; done) | (simp [own_wd, c3, c23, c45, c67]; done) | contradiction | ((unfold own_wd; repeat' split) <;> first | rfl | contradiction | (simp_all; done))
            rw [ev] at hr
            exact retI X0 hx Bd.returns (hb hby d3_90) hr
          · refine XS.ifNo X0.here hx rfl (hb hby d3_67) rfl ((if0 _ _).trans (flt (fun q => c67 ((lw_lt _ _).mp q))).1) ?_
            show Steps p.tables e below (s₁.setTop (mkF m 70 #[.val (.long p1), .second, .val (.long p2), .second, .unset] [])) _
            refine XS.lloadN X0.here hx rfl (hb hby d3_70) rfl ?_
            show Steps p.tables e below (s₁.setTop (mkF m 71 #[.val (.long p1), .second, .val (.long p2), .second, .unset] [(.long p2)])) _
            refine X0.ldc2J hx hown (mvT hZ (hw _ (List.mem_of_getElem? (i := 35) rfl))) rfl (hb hby d3_71) ?_
            show Steps p.tables e below (s₁.setTop (mkF m 74 #[.val (.long p1), .second, .val (.long p2), .second, .unset] [(.long (32767 : Int64)), (.long p2)])) _
            refine XS.lcmp X0.here hx rfl (hb hby d3_74) rfl ?_
            show Steps p.tables e below (s₁.setTop (mkF m 75 #[.val (.long p1), .second, .val (.long p2), .second, .unset] [(.int (lcmpW p2 (32767 : Int64)))])) _
            by_cases c75 : (32767 : Int64) < p2
            · refine XS.ifYes X0.here hx rfl (pc0 := 75) (pc' := 85) rfl (hb hby d3_75) rfl ((if0 _ _).trans (tlt ((lw_gt _ _).mpr c75)).2.2.1) (by decide) (by decide) ?_
              show Steps p.tables e below (s₁.setTop (mkF m 85 #[.val (.long p1), .second, .val (.long p2), .second, .unset] [])) _
              refine XS.iconst X0.here hx rfl (hb hby d3_85) ?_
              show Steps p.tables e below (s₁.setTop (mkF m 86 #[.val (.long p1), .second, .val (.long p2), .second, .unset] [(.int (4 : Int32))])) _
              refine XS.istore X0.here hx rfl (hb hby d3_86) rfl (l' := #[.val (.long p1), .second, .val (.long p2), .second, .val (.int (4 : Int32))]) rfl ?_
              show Steps p.tables e below (s₁.setTop (mkF m 88 #[.val (.long p1), .second, .val (.long p2), .second, .val (.int (4 : Int32))] [])) _
              refine XS.iload X0.here hx rfl (hb hby d3_88) rfl ?_
              show Steps p.tables e below (s₁.setTop (mkF m 90 #[.val (.long p1), .second, .val (.long p2), .second, .val (.int (4 : Int32))] [(.int (4 : Int32))])) _
              have ev : own_wd p1 p2 = (4 : Int32) := by first | rfl | (rw [own_wd, if_pos c3, if_pos c23, if_pos c45, if_neg c67, if_pos c75]; done) | (simp only [own_wd, c3, c23, c45, c67, c75, if_true, if_false]; done) | (simp [own_wd, c3, c23, c45, c67, c75]; done) | contradiction | ((unfold own_wd; repeat' split) <;> first | rfl | contradiction | (simp_all; done))
              rw [ev] at hr
              exact retI X0 hx Bd.returns (hb hby d3_90) hr
            · refine XS.ifNo X0.here hx rfl (hb hby d3_75) rfl ((if0 _ _).trans (flt (fun q => c75 ((lw_gt _ _).mp q))).2.2.1) ?_
              show Steps p.tables e below (s₁.setTop (mkF m 78 #[.val (.long p1), .second, .val (.long p2), .second, .unset] [])) _
              refine XS.bipush X0.here hx rfl (hb hby d3_78) ?_
              show Steps p.tables e below (s₁.setTop (mkF m 80 #[.val (.long p1), .second, .val (.long p2), .second, .unset] [(.int (-2 : Int32))])) _
              refine XS.istore X0.here hx rfl (hb hby d3_80) rfl (l' := #[.val (.long p1), .second, .val (.long p2), .second, .val (.int (-2 : Int32))]) rfl ?_
              show Steps p.tables e below (s₁.setTop (mkF m 82 #[.val (.long p1), .second, .val (.long p2), .second, .val (.int (-2 : Int32))] [])) _
              refine XS.goto X0.here hx rfl (pc0 := 82) (pc' := 88) rfl (hb hby d3_82) (by decide) (by decide) ?_
              show Steps p.tables e below (s₁.setTop (mkF m 88 #[.val (.long p1), .second, .val (.long p2), .second, .val (.int (-2 : Int32))] [])) _
              refine XS.iload X0.here hx rfl (hb hby d3_88) rfl ?_
              show Steps p.tables e below (s₁.setTop (mkF m 90 #[.val (.long p1), .second, .val (.long p2), .second, .val (.int (-2 : Int32))] [(.int (-2 : Int32))])) _
              have ev : own_wd p1 p2 = (-2 : Int32) := by first | rfl | (rw [own_wd, if_pos c3, if_pos c23, if_pos c45, if_neg c67, if_neg c75]; done) | (simp only [own_wd, c3, c23, c45, c67, c75, if_true, if_false]; done) | (simp [own_wd, c3, c23, c45, c67, c75]; done) | contradiction | ((unfold own_wd; repeat' split) <;> first | rfl | contradiction | (simp_all; done))
              rw [ev] at hr
              exact retI X0 hx Bd.returns (hb hby d3_90) hr
        · refine XS.ifNo X0.here hx rfl (hb hby d3_45) rfl ((if0 _ _).trans (flt (fun q => c45 ((lw_lt _ _).mp q))).1) ?_
          show Steps p.tables e below (s₁.setTop (mkF m 48 #[.val (.long p1), .second, .val (.long p2), .second, .unset] [])) _
          refine XS.lloadN X0.here hx rfl (hb hby d3_48) rfl ?_
          show Steps p.tables e below (s₁.setTop (mkF m 49 #[.val (.long p1), .second, .val (.long p2), .second, .unset] [(.long p2)])) _
          refine X0.ldc2J hx hown (mvT hZ (hw _ (List.mem_of_getElem? (i := 32) rfl))) rfl (hb hby d3_49) ?_
          show Steps p.tables e below (s₁.setTop (mkF m 52 #[.val (.long p1), .second, .val (.long p2), .second, .unset] [(.long (127 : Int64)), (.long p2)])) _
          refine XS.lcmp X0.here hx rfl (hb hby d3_52) rfl ?_
          show Steps p.tables e below (s₁.setTop (mkF m 53 #[.val (.long p1), .second, .val (.long p2), .second, .unset] [(.int (lcmpW p2 (127 : Int64)))])) _
          by_cases c53 : (127 : Int64) < p2
          · refine XS.ifYes X0.here hx rfl (pc0 := 53) (pc' := 62) rfl (hb hby d3_53) rfl ((if0 _ _).trans (tlt ((lw_gt _ _).mpr c53)).2.2.1) (by decide) (by decide) ?_
            show Steps p.tables e below (s₁.setTop (mkF m 62 #[.val (.long p1), .second, .val (.long p2), .second, .unset] [])) _
            refine XS.lloadN X0.here hx rfl (hb hby d3_62) rfl ?_
            show Steps p.tables e below (s₁.setTop (mkF m 63 #[.val (.long p1), .second, .val (.long p2), .second, .unset] [(.long p1)])) _
            refine X0.ldc2J hx hown (mvT hZ (hw _ (List.mem_of_getElem? (i := 27) rfl))) rfl (hb hby d3_63) ?_
            show Steps p.tables e below (s₁.setTop (mkF m 66 #[.val (.long p1), .second, .val (.long p2), .second, .unset] [(.long (-32768 : Int64)), (.long p1)])) _
            refine XS.lcmp X0.here hx rfl (hb hby d3_66) rfl ?_
            show Steps p.tables e below (s₁.setTop (mkF m 67 #[.val (.long p1), .second, .val (.long p2), .second, .unset] [(.int (lcmpW p1 (-32768 : Int64)))])) _
            by_cases c67 : p1 < (-32768 : Int64)
            · refine XS.ifYes X0.here hx rfl (pc0 := 67) (pc' := 85) rfl (hb hby d3_67) rfl ((if0 _ _).trans (tlt ((lw_lt _ _).mpr c67)).1) (by decide) (by decide) ?_
              show Steps p.tables e below (s₁.setTop (mkF m 85 #[.val (.long p1), .second, .val (.long p2), .second, .unset] [])) _
              refine XS.iconst X0.here hx rfl (hb hby d3_85) ?_
              show Steps p.tables e below (s₁.setTop (mkF m 86 #[.val (.long p1), .second, .val (.long p2), .second, .unset] [(.int (4 : Int32))])) _
              refine XS.istore X0.here hx rfl (hb hby d3_86) rfl (l' := #[.val (.long p1), .second, .val (.long p2), .second, .val (.int (4 : Int32))]) rfl ?_
              show Steps p.tables e below (s₁.setTop (mkF m 88 #[.val (.long p1), .second, .val (.long p2), .second, .val (.int (4 : Int32))] [])) _
              refine XS.iload X0.here hx rfl (hb hby d3_88) rfl ?_
              show Steps p.tables e below (s₁.setTop (mkF m 90 #[.val (.long p1), .second, .val (.long p2), .second, .val (.int (4 : Int32))] [(.int (4 : Int32))])) _
              have ev : own_wd p1 p2 = (4 : Int32) := by first | rfl | (rw [own_wd, if_pos c3, if_pos c23, if_neg c45, if_pos c53, if_pos c67]; done) | (simp only [own_wd, c3, c23, c45, c53, c67, if_true, if_false]; done) | (simp [own_wd, c3, c23, c45, c53, c67]; done) | contradiction | ((unfold own_wd; repeat' split) <;> first | rfl | contradiction | (simp_all; done))
              rw [ev] at hr
              exact retI X0 hx Bd.returns (hb hby d3_90) hr
            · refine XS.ifNo X0.here hx rfl (hb hby d3_67) rfl ((if0 _ _).trans (flt (fun q => c67 ((lw_lt _ _).mp q))).1) ?_
              show Steps p.tables e below (s₁.setTop (mkF m 70 #[.val (.long p1), .second, .val (.long p2), .second, .unset] [])) _
              refine XS.lloadN X0.here hx rfl (hb hby d3_70) rfl ?_
              show Steps p.tables e below (s₁.setTop (mkF m 71 #[.val (.long p1), .second, .val (.long p2), .second, .unset] [(.long p2)])) _
              refine X0.ldc2J hx hown (mvT hZ (hw _ (List.mem_of_getElem? (i := 35) rfl))) rfl (hb hby d3_71) ?_
              show Steps p.tables e below (s₁.setTop (mkF m 74 #[.val (.long p1), .second, .val (.long p2), .second, .unset] [(.long (32767 : Int64)), (.long p2)])) _
              refine XS.lcmp X0.here hx rfl (hb hby d3_74) rfl ?_
              show Steps p.tables e below (s₁.setTop (mkF m 75 #[.val (.long p1), .second, .val (.long p2), .second, .unset] [(.int (lcmpW p2 (32767 : Int64)))])) _
              by_cases c75 : (32767 : Int64) < p2
              · refine XS.ifYes X0.here hx rfl (pc0 := 75) (pc' := 85) rfl (hb hby d3_75) rfl ((if0 _ _).trans (tlt ((lw_gt _ _).mpr c75)).2.2.1) (by decide) (by decide) ?_
                show Steps p.tables e below (s₁.setTop (mkF m 85 #[.val (.long p1), .second, .val (.long p2), .second, .unset] [])) _
                refine XS.iconst X0.here hx rfl (hb hby d3_85) ?_
                show Steps p.tables e below (s₁.setTop (mkF m 86 #[.val (.long p1), .second, .val (.long p2), .second, .unset] [(.int (4 : Int32))])) _
                refine XS.istore X0.here hx rfl (hb hby d3_86) rfl (l' := #[.val (.long p1), .second, .val (.long p2), .second, .val (.int (4 : Int32))]) rfl ?_
                show Steps p.tables e below (s₁.setTop (mkF m 88 #[.val (.long p1), .second, .val (.long p2), .second, .val (.int (4 : Int32))] [])) _
                refine XS.iload X0.here hx rfl (hb hby d3_88) rfl ?_
                show Steps p.tables e below (s₁.setTop (mkF m 90 #[.val (.long p1), .second, .val (.long p2), .second, .val (.int (4 : Int32))] [(.int (4 : Int32))])) _
                have ev : own_wd p1 p2 = (4 : Int32) := by first | rfl | (rw [own_wd, if_pos c3, if_pos c23, if_neg c45, if_pos c53, if_neg c67, if_pos c75]; done) | (simp only [own_wd, c3, c23, c45, c53, c67, c75, if_true, if_false]; done) | (simp [own_wd, c3, c23, c45, c53, c67, c75]; done) | contradiction | ((unfold own_wd; repeat' split) <;> first | rfl | contradiction | (simp_all; done))
                rw [ev] at hr
                exact retI X0 hx Bd.returns (hb hby d3_90) hr
              · refine XS.ifNo X0.here hx rfl (hb hby d3_75) rfl ((if0 _ _).trans (flt (fun q => c75 ((lw_gt _ _).mp q))).2.2.1) ?_
                show Steps p.tables e below (s₁.setTop (mkF m 78 #[.val (.long p1), .second, .val (.long p2), .second, .unset] [])) _
                refine XS.bipush X0.here hx rfl (hb hby d3_78) ?_
                show Steps p.tables e below (s₁.setTop (mkF m 80 #[.val (.long p1), .second, .val (.long p2), .second, .unset] [(.int (-2 : Int32))])) _
                refine XS.istore X0.here hx rfl (hb hby d3_80) rfl (l' := #[.val (.long p1), .second, .val (.long p2), .second, .val (.int (-2 : Int32))]) rfl ?_
                show Steps p.tables e below (s₁.setTop (mkF m 82 #[.val (.long p1), .second, .val (.long p2), .second, .val (.int (-2 : Int32))] [])) _
                refine XS.goto X0.here hx rfl (pc0 := 82) (pc' := 88) rfl (hb hby d3_82) (by decide) (by decide) ?_
                show Steps p.tables e below (s₁.setTop (mkF m 88 #[.val (.long p1), .second, .val (.long p2), .second, .val (.int (-2 : Int32))] [])) _
                refine XS.iload X0.here hx rfl (hb hby d3_88) rfl ?_
                show Steps p.tables e below (s₁.setTop (mkF m 90 #[.val (.long p1), .second, .val (.long p2), .second, .val (.int (-2 : Int32))] [(.int (-2 : Int32))])) _
                have ev : own_wd p1 p2 = (-2 : Int32) := by first | rfl | (rw [own_wd, if_pos c3, if_pos c23, if_neg c45, if_pos c53, if_neg c67, if_neg c75]; done) | (simp only [own_wd, c3, c23, c45, c53, c67, c75, if_true, if_false]; done) | (simp [own_wd, c3, c23, c45, c53, c67, c75]; done) | contradiction | ((unfold own_wd; repeat' split) <;> first | rfl | contradiction | (simp_all; done))
                rw [ev] at hr
                exact retI X0 hx Bd.returns (hb hby d3_90) hr
          · refine XS.ifNo X0.here hx rfl (hb hby d3_53) rfl ((if0 _ _).trans (flt (fun q => c53 ((lw_gt _ _).mp q))).2.2.1) ?_
            show Steps p.tables e below (s₁.setTop (mkF m 56 #[.val (.long p1), .second, .val (.long p2), .second, .unset] [])) _
            refine XS.iconst X0.here hx rfl (hb hby d3_56) ?_
            show Steps p.tables e below (s₁.setTop (mkF m 57 #[.val (.long p1), .second, .val (.long p2), .second, .unset] [(.int (-1 : Int32))])) _
            refine XS.istore X0.here hx rfl (hb hby d3_57) rfl (l' := #[.val (.long p1), .second, .val (.long p2), .second, .val (.int (-1 : Int32))]) rfl ?_
            show Steps p.tables e below (s₁.setTop (mkF m 59 #[.val (.long p1), .second, .val (.long p2), .second, .val (.int (-1 : Int32))] [])) _
            refine XS.goto X0.here hx rfl (pc0 := 59) (pc' := 88) rfl (hb hby d3_59) (by decide) (by decide) ?_
            show Steps p.tables e below (s₁.setTop (mkF m 88 #[.val (.long p1), .second, .val (.long p2), .second, .val (.int (-1 : Int32))] [])) _
            refine XS.iload X0.here hx rfl (hb hby d3_88) rfl ?_
            show Steps p.tables e below (s₁.setTop (mkF m 90 #[.val (.long p1), .second, .val (.long p2), .second, .val (.int (-1 : Int32))] [(.int (-1 : Int32))])) _
            have ev : own_wd p1 p2 = (-1 : Int32) := by first | rfl | (rw [own_wd, if_pos c3, if_pos c23, if_neg c45, if_neg c53]; done) | (simp only [own_wd, c3, c23, c45, c53, if_true, if_false]; done) | (simp [own_wd, c3, c23, c45, c53]; done) | contradiction | ((unfold own_wd; repeat' split) <;> first | rfl | contradiction | (simp_all; done))
            rw [ev] at hr
            exact retI X0 hx Bd.returns (hb hby d3_90) hr
      · refine XS.ifNo X0.here hx rfl (hb hby d3_23) rfl ((if0 _ _).trans (flt (fun q => c23 ((lw_lt _ _).mp q))).1) ?_
        show Steps p.tables e below (s₁.setTop (mkF m 26 #[.val (.long p1), .second, .val (.long p2), .second, .unset] [])) _
        refine XS.lloadN X0.here hx rfl (hb hby d3_26) rfl ?_
        show Steps p.tables e below (s₁.setTop (mkF m 27 #[.val (.long p1), .second, .val (.long p2), .second, .unset] [(.long p2)])) _
        refine X0.ldc2J hx hown (mvT hZ (hw _ (List.mem_of_getElem? (i := 34) rfl))) rfl (hb hby d3_27) ?_
        show Steps p.tables e below (s₁.setTop (mkF m 30 #[.val (.long p1), .second, .val (.long p2), .second, .unset] [(.long (65536 : Int64)), (.long p2)])) _
        refine XS.lcmp X0.here hx rfl (hb hby d3_30) rfl ?_
        show Steps p.tables e below (s₁.setTop (mkF m 31 #[.val (.long p1), .second, .val (.long p2), .second, .unset] [(.int (lcmpW p2 (65536 : Int64)))])) _
        by_cases c31 : p2 < (65536 : Int64)
        · refine XS.ifNo X0.here hx rfl (hb hby d3_31) rfl ((if0 _ _).trans (tlt ((lw_lt _ _).mpr c31)).2.1) ?_
          show Steps p.tables e below (s₁.setTop (mkF m 34 #[.val (.long p1), .second, .val (.long p2), .second, .unset] [])) _
          refine XS.iconst X0.here hx rfl (hb hby d3_34) ?_
          show Steps p.tables e below (s₁.setTop (mkF m 35 #[.val (.long p1), .second, .val (.long p2), .second, .unset] [(.int (2 : Int32))])) _
          refine XS.istore X0.here hx rfl (hb hby d3_35) rfl (l' := #[.val (.long p1), .second, .val (.long p2), .second, .val (.int (2 : Int32))]) rfl ?_
          show Steps p.tables e below (s₁.setTop (mkF m 37 #[.val (.long p1), .second, .val (.long p2), .second, .val (.int (2 : Int32))] [])) _
          refine XS.goto X0.here hx rfl (pc0 := 37) (pc' := 88) rfl (hb hby d3_37) (by decide) (by decide) ?_
          show Steps p.tables e below (s₁.setTop (mkF m 88 #[.val (.long p1), .second, .val (.long p2), .second, .val (.int (2 : Int32))] [])) _
          refine XS.iload X0.here hx rfl (hb hby d3_88) rfl ?_
          show Steps p.tables e below (s₁.setTop (mkF m 90 #[.val (.long p1), .second, .val (.long p2), .second, .val (.int (2 : Int32))] [(.int (2 : Int32))])) _
          have ev : own_wd p1 p2 = (2 : Int32) := by first | rfl | (rw [own_wd, if_pos c3, if_neg c23, if_pos c31]; done) | (simp only [own_wd, c3, c23, c31, if_true, if_false]; done) | (simp [own_wd, c3, c23, c31]; done) | contradiction | ((unfold own_wd; repeat' split) <;> first | rfl | contradiction | (simp_all; done))
          rw [ev] at hr
          exact retI X0 hx Bd.returns (hb hby d3_90) hr
        · refine XS.ifYes X0.here hx rfl (pc0 := 31) (pc' := 40) rfl (hb hby d3_31) rfl ((if0 _ _).trans (flt (fun q => c31 ((lw_lt _ _).mp q))).2.1) (by decide) (by decide) ?_
          show Steps p.tables e below (s₁.setTop (mkF m 40 #[.val (.long p1), .second, .val (.long p2), .second, .unset] [])) _
          refine XS.lloadN X0.here hx rfl (hb hby d3_40) rfl ?_
          show Steps p.tables e below (s₁.setTop (mkF m 41 #[.val (.long p1), .second, .val (.long p2), .second, .unset] [(.long p1)])) _
          refine X0.ldc2J hx hown (mvT hZ (hw _ (List.mem_of_getElem? (i := 26) rfl))) rfl (hb hby d3_41) ?_
          show Steps p.tables e below (s₁.setTop (mkF m 44 #[.val (.long p1), .second, .val (.long p2), .second, .unset] [(.long (-128 : Int64)), (.long p1)])) _
          refine XS.lcmp X0.here hx rfl (hb hby d3_44) rfl ?_
          show Steps p.tables e below (s₁.setTop (mkF m 45 #[.val (.long p1), .second, .val (.long p2), .second, .unset] [(.int (lcmpW p1 (-128 : Int64)))])) _
          by_cases c45 : p1 < (-128 : Int64)
          · refine XS.ifYes X0.here hx rfl (pc0 := 45) (pc' := 62) rfl (hb hby d3_45) rfl ((if0 _ _).trans (tlt ((lw_lt _ _).mpr c45)).1) (by decide) (by decide) ?_
            show Steps p.tables e below (s₁.setTop (mkF m 62 #[.val (.long p1), .second, .val (.long p2), .second, .unset] [])) _
            refine XS.lloadN X0.here hx rfl (hb hby d3_62) rfl ?_
            show Steps p.tables e below (s₁.setTop (mkF m 63 #[.val (.long p1), .second, .val (.long p2), .second, .unset] [(.long p1)])) _
            refine X0.ldc2J hx hown (mvT hZ (hw _ (List.mem_of_getElem? (i := 27) rfl))) rfl (hb hby d3_63) ?_
            show Steps p.tables e below (s₁.setTop (mkF m 66 #[.val (.long p1), .second, .val (.long p2), .second, .unset] [(.long (-32768 : Int64)), (.long p1)])) _
            refine XS.lcmp X0.here hx rfl (hb hby d3_66) rfl ?_
            show Steps p.tables e below (s₁.setTop (mkF m 67 #[.val (.long p1), .second, .val (.long p2), .second, .unset] [(.int (lcmpW p1 (-32768 : Int64)))])) _
            by_cases c67 : p1 < (-32768 : Int64)
            · refine XS.ifYes X0.here hx rfl (pc0 := 67) (pc' := 85) rfl (hb hby d3_67) rfl ((if0 _ _).trans (tlt ((lw_lt _ _).mpr c67)).1) (by decide) (by decide) ?_
              show Steps p.tables e below (s₁.setTop (mkF m 85 #[.val (.long p1), .second, .val (.long p2), .second, .unset] [])) _
              refine XS.iconst X0.here hx rfl (hb hby d3_85) ?_
              show Steps p.tables e below (s₁.setTop (mkF m 86 #[.val (.long p1), .second, .val (.long p2), .second, .unset] [(.int (4 : Int32))])) _
              refine XS.istore X0.here hx rfl (hb hby d3_86) rfl (l' := #[.val (.long p1), .second, .val (.long p2), .second, .val (.int (4 : Int32))]) rfl ?_
              show Steps p.tables e below (s₁.setTop (mkF m 88 #[.val (.long p1), .second, .val (.long p2), .second, .val (.int (4 : Int32))] [])) _
              refine XS.iload X0.here hx rfl (hb hby d3_88) rfl ?_
              show Steps p.tables e below (s₁.setTop (mkF m 90 #[.val (.long p1), .second, .val (.long p2), .second, .val (.int (4 : Int32))] [(.int (4 : Int32))])) _
              have ev : own_wd p1 p2 = (4 : Int32) := by first | rfl | (rw [own_wd, if_pos c3, if_neg c23, if_neg c31, if_pos c45, if_pos c67]; done) | (simp only [own_wd, c3, c23, c31, c45, c67, if_true, if_false]; done) | (simp [own_wd, c3, c23, c31, c45, c67]; done) | contradiction | ((unfold own_wd; repeat' split) <;> first | rfl | contradiction | (simp_all; done))
              rw [ev] at hr
              exact retI X0 hx Bd.returns (hb hby d3_90) hr
            · refine XS.ifNo X0.here hx rfl (hb hby d3_67) rfl ((if0 _ _).trans (flt (fun q => c67 ((lw_lt _ _).mp q))).1) ?_
              show Steps p.tables e below (s₁.setTop (mkF m 70 #[.val (.long p1), .second, .val (.long p2), .second, .unset] [])) _
              refine XS.lloadN X0.here hx rfl (hb hby d3_70) rfl ?_
              show Steps p.tables e below (s₁.setTop (mkF m 71 #[.val (.long p1), .second, .val (.long p2), .second, .unset] [(.long p2)])) _
              refine X0.ldc2J hx hown (mvT hZ (hw _ (List.mem_of_getElem? (i := 35) rfl))) rfl (hb hby d3_71) ?_
              show Steps p.tables e below (s₁.setTop (mkF m 74 #[.val (.long p1), .second, .val (.long p2), .second, .unset] [(.long (32767 : Int64)), (.long p2)])) _
              refine XS.lcmp X0.here hx rfl (hb hby d3_74) rfl ?_
              show Steps p.tables e below (s₁.setTop (mkF m 75 #[.val (.long p1), .second, .val (.long p2), .second, .unset] [(.int (lcmpW p2 (32767 : Int64)))])) _
              by_cases c75 : (32767 : Int64) < p2
              · refine XS.ifYes X0.here hx rfl (pc0 := 75) (pc' := 85) rfl (hb hby d3_75) rfl ((if0 _ _).trans (tlt ((lw_gt _ _).mpr c75)).2.2.1) (by decide) (by decide) ?_
                show Steps p.tables e below (s₁.setTop (mkF m 85 #[.val (.long p1), .second, .val (.long p2), .second, .unset] [])) _
                refine XS.iconst X0.here hx rfl (hb hby d3_85) ?_
                show Steps p.tables e below (s₁.setTop (mkF m 86 #[.val (.long p1), .second, .val (.long p2), .second, .unset] [(.int (4 : Int32))])) _
                refine XS.istore X0.here hx rfl (hb hby d3_86) rfl (l' := #[.val (.long p1), .second, .val (.long p2), .second, .val (.int (4 : Int32))]) rfl ?_
                show Steps p.tables e below (s₁.setTop (mkF m 88 #[.val (.long p1), .second, .val (.long p2), .second, .val (.int (4 : Int32))] [])) _
                refine XS.iload X0.here hx rfl (hb hby d3_88) rfl ?_
                show Steps p.tables e below (s₁.setTop (mkF m 90 #[.val (.long p1), .second, .val (.long p2), .second, .val (.int (4 : Int32))] [(.int (4 : Int32))])) _
                have ev : own_wd p1 p2 = (4 : Int32) := by first | rfl | (rw [own_wd, if_pos c3, if_neg c23, if_neg c31, if_pos c45, if_neg c67, if_pos c75]; done) | (simp only [own_wd, c3, c23, c31, c45, c67, c75, if_true, if_false]; done) | (simp [own_wd, c3, c23, c31, c45, c67, c75]; done) | contradiction | ((unfold own_wd; repeat' split) <;> first | rfl | contradiction | (simp_all; done))
                rw [ev] at hr
                exact retI X0 hx Bd.returns (hb hby d3_90) hr
              · refine XS.ifNo X0.here hx rfl (hb hby d3_75) rfl ((if0 _ _).trans (flt (fun q => c75 ((lw_gt _ _).mp q))).2.2.1) ?_
                show Steps p.tables e below (s₁.setTop (mkF m 78 #[.val (.long p1), .second, .val (.long p2), .second, .unset] [])) _
                refine XS.bipush X0.here hx rfl (hb hby d3_78) ?_
                show Steps p.tables e below (s₁.setTop (mkF m 80 #[.val (.long p1), .second, .val (.long p2), .second, .unset] [(.int (-2 : Int32))])) _
                refine XS.istore X0.here hx rfl (hb hby d3_80) rfl (l' := #[.val (.long p1), .second, .val (.long p2), .second, .val (.int (-2 : Int32))]) rfl ?_
                show Steps p.tables e below (s₁.setTop (mkF m 82 #[.val (.long p1), .second, .val (.long p2), .second, .val (.int (-2 : Int32))] [])) _
                refine XS.goto X0.here hx rfl (pc0 := 82) (pc' := 88) rfl (hb hby d3_82) (by decide) (by decide) ?_
                show Steps p.tables e below (s₁.setTop (mkF m 88 #[.val (.long p1), .second, .val (.long p2), .second, .val (.int (-2 : Int32))] [])) _
                refine XS.iload X0.here hx rfl (hb hby d3_88) rfl ?_
                show Steps p.tables e below (s₁.setTop (mkF m 90 #[.val (.long p1), .second, .val (.long p2), .second, .val (.int (-2 : Int32))] [(.int (-2 : Int32))])) _
                have ev : own_wd p1 p2 = (-2 : Int32) := by first | rfl | (rw [own_wd, if_pos c3, if_neg c23, if_neg c31, if_pos c45, if_neg c67, if_neg c75]; done) | (simp only [own_wd, c3, c23, c31, c45, c67, c75, if_true, if_false]; done) | (simp [own_wd, c3, c23, c31, c45, c67, c75]; done) | contradiction | ((unfold own_wd; repeat' split) <;> first | rfl | contradiction | (simp_all; done))
                rw [ev] at hr
                exact retI X0 hx Bd.returns (hb hby d3_90) hr
          · refine XS.ifNo X0.here hx rfl (hb hby d3_45) rfl ((if0 _ _).trans (flt (fun q => c45 ((lw_lt _ _).mp q))).1) ?_
            show Steps p.tables e below (s₁.setTop (mkF m 48 #[.val (.long p1), .second, .val (.long p2), .second, .unset] [])) _
            refine XS.lloadN X0.here hx rfl (hb hby d3_48) rfl ?_
            show Steps p.tables e below (s₁.setTop (mkF m 49 #[.val (.long p1), .second, .val (.long p2), .second, .unset] [(.long p2)])) _
            refine X0.ldc2J hx hown (mvT hZ (hw _ (List.mem_of_getElem? (i := 32) rfl))) rfl (hb hby d3_49) ?_
            show Steps p.tables e below (s₁.setTop (mkF m 52 #[.val (.long p1), .second, .val (.long p2), .second, .unset] [(.long (127 : Int64)), (.long p2)])) _
            refine XS.lcmp X0.here hx rfl (hb hby d3_52) rfl ?_
            show Steps p.tables e below (s₁.setTop (mkF m 53 #[.val (.long p1), .second, .val (.long p2), .second, .unset] [(.int (lcmpW p2 (127 : Int64)))])) _
            by_cases c53 : (127 : Int64) < p2
            · refine XS.ifYes X0.here hx rfl (pc0 := 53) (pc' := 62) rfl (hb hby d3_53) rfl ((if0 _ _).trans (tlt ((lw_gt _ _).mpr c53)).2.2.1) (by decide) (by decide) ?_
              show Steps p.tables e below (s₁.setTop (mkF m 62 #[.val (.long p1), .second, .val (.long p2), .second, .unset] [])) _
              refine XS.lloadN X0.here hx rfl (hb hby d3_62) rfl ?_
              show Steps p.tables e below (s₁.setTop (mkF m 63 #[.val (.long p1), .second, .val (.long p2), .second, .unset] [(.long p1)])) _
              refine X0.ldc2J hx hown (mvT hZ (hw _ (List.mem_of_getElem? (i := 27) rfl))) rfl (hb hby d3_63) ?_
              show Steps p.tables e below (s₁.setTop (mkF m 66 #[.val (.long p1), .second, .val (.long p2), .second, .unset] [(.long (-32768 : Int64)), (.long p1)])) _
              refine XS.lcmp X0.here hx rfl (hb hby d3_66) rfl ?_
              show Steps p.tables e below (s₁.setTop (mkF m 67 #[.val (.long p1), .second, .val (.long p2), .second, .unset] [(.int (lcmpW p1 (-32768 : Int64)))])) _
              by_cases c67 : p1 < (-32768 : Int64)
              · refine XS.ifYes X0.here hx rfl (pc0 := 67) (pc' := 85) rfl (hb hby d3_67) rfl ((if0 _ _).trans (tlt ((lw_lt _ _).mpr c67)).1) (by decide) (by decide) ?_
                show Steps p.tables e below (s₁.setTop (mkF m 85 #[.val (.long p1), .second, .val (.long p2), .second, .unset] [])) _
                refine XS.iconst X0.here hx rfl (hb hby d3_85) ?_
                show Steps p.tables e below (s₁.setTop (mkF m 86 #[.val (.long p1), .second, .val (.long p2), .second, .unset] [(.int (4 : Int32))])) _
                refine XS.istore X0.here hx rfl (hb hby d3_86) rfl (l' := #[.val (.long p1), .second, .val (.long p2), .second, .val (.int (4 : Int32))]) rfl ?_
                show Steps p.tables e below (s₁.setTop (mkF m 88 #[.val (.long p1), .second, .val (.long p2), .second, .val (.int (4 : Int32))] [])) _
                refine XS.iload X0.here hx rfl (hb hby d3_88) rfl ?_
                show Steps p.tables e below (s₁.setTop (mkF m 90 #[.val (.long p1), .second, .val (.long p2), .second, .val (.int (4 : Int32))] [(.int (4 : Int32))])) _
                have ev : own_wd p1 p2 = (4 : Int32) := by first | rfl | (rw [own_wd, if_pos c3, if_neg c23, if_neg c31, if_neg c45, if_pos c53, if_pos c67]; done) | (simp only [own_wd, c3, c23, c31, c45, c53, c67, if_true, if_false]; done) | (simp [own_wd, c3, c23, c31, c45, c53, c67]; done) | contradiction | ((unfold own_wd; repeat' split) <;> first | rfl | contradiction | (simp_all; done))
                rw [ev] at hr
                exact retI X0 hx Bd.returns (hb hby d3_90) hr
              · refine XS.ifNo X0.here hx rfl (hb hby d3_67) rfl ((if0 _ _).trans (flt (fun q => c67 ((lw_lt _ _).mp q))).1) ?_
                show Steps p.tables e below (s₁.setTop (mkF m 70 #[.val (.long p1), .second, .val (.long p2), .second, .unset] [])) _
                refine XS.lloadN X0.here hx rfl (hb hby d3_70) rfl ?_
                show Steps p.tables e below (s₁.setTop (mkF m 71 #[.val (.long p1), .second, .val (.long p2), .second, .unset] [(.long p2)])) _
                refine X0.ldc2J hx hown (mvT hZ (hw _ (List.mem_of_getElem? (i := 35) rfl))) rfl (hb hby d3_71) ?_
                show Steps p.tables e below (s₁.setTop (mkF m 74 #[.val (.long p1), .second, .val (.long p2), .second, .unset] [(.long (32767 : Int64)), (.long p2)])) _
                refine XS.lcmp X0.here hx rfl (hb hby d3_74) rfl ?_
                show Steps p.tables e below (s₁.setTop (mkF m 75 #[.val (.long p1), .second, .val (.long p2), .second, .unset] [(.int (lcmpW p2 (32767 : Int64)))])) _
                by_cases c75 : (32767 : Int64) < p2
                · refine XS.ifYes X0.here hx rfl (pc0 := 75) (pc' := 85) rfl (hb hby d3_75) rfl ((if0 _ _).trans (tlt ((lw_gt _ _).mpr c75)).2.2.1) (by decide) (by decide) ?_
                  show Steps p.tables e below (s₁.setTop (mkF m 85 #[.val (.long p1), .second, .val (.long p2), .second, .unset] [])) _
                  refine XS.iconst X0.here hx rfl (hb hby d3_85) ?_
                  show Steps p.tables e below (s₁.setTop (mkF m 86 #[.val (.long p1), .second, .val (.long p2), .second, .unset] [(.int (4 : Int32))])) _
                  refine XS.istore X0.here hx rfl (hb hby d3_86) rfl (l' := #[.val (.long p1), .second, .val (.long p2), .second, .val (.int (4 : Int32))]) rfl ?_
                  show Steps p.tables e below (s₁.setTop (mkF m 88 #[.val (.long p1), .second, .val (.long p2), .second, .val (.int (4 : Int32))] [])) _
                  refine XS.iload X0.here hx rfl (hb hby d3_88) rfl ?_
                  show Steps p.tables e below (s₁.setTop (mkF m 90 #[.val (.long p1), .second, .val (.long p2), .second, .val (.int (4 : Int32))] [(.int (4 : Int32))])) _
                  have ev : own_wd p1 p2 = (4 : Int32) := by first | rfl | (rw [own_wd, if_pos c3, if_neg c23, if_neg c31, if_neg c45, if_pos c53, if_neg c67, if_pos c75]; done) | (simp only [own_wd, c3, c23, c31, c45, c53, c67, c75, if_true, if_false]; done) | (simp [own_wd, c3, c23, c31, c45, c53, c67, c75]; done) | contradiction | ((unfold own_wd; repeat' split) <;> first | rfl | contradiction | (simp_all; done))
                  rw [ev] at hr
                  exact retI X0 hx Bd.returns (hb hby d3_90) hr
                · refine XS.ifNo X0.here hx rfl (hb hby d3_75) rfl ((if0 _ _).trans (flt (fun q => c75 ((lw_gt _ _).mp q))).2.2.1) ?_
                  show Steps p.tables e below (s₁.setTop (mkF m 78 #[.val (.long p1), .second, .val (.long p2), .second, .unset] [])) _
                  refine XS.bipush X0.here hx rfl (hb hby d3_78) ?_
                  show Steps p.tables e below (s₁.setTop (mkF m 80 #[.val (.long p1), .second, .val (.long p2), .second, .unset] [(.int (-2 : Int32))])) _
                  refine XS.istore X0.here hx rfl (hb hby d3_80) rfl (l' := #[.val (.long p1), .second, .val (.long p2), .second, .val (.int (-2 : Int32))]) rfl ?_
                  show Steps p.tables e below (s₁.setTop (mkF m 82 #[.val (.long p1), .second, .val (.long p2), .second, .val (.int (-2 : Int32))] [])) _
                  refine XS.goto X0.here hx rfl (pc0 := 82) (pc' := 88) rfl (hb hby d3_82) (by decide) (by decide) ?_
                  show Steps p.tables e below (s₁.setTop (mkF m 88 #[.val (.long p1), .second, .val (.long p2), .second, .val (.int (-2 : Int32))] [])) _
                  refine XS.iload X0.here hx rfl (hb hby d3_88) rfl ?_
                  show Steps p.tables e below (s₁.setTop (mkF m 90 #[.val (.long p1), .second, .val (.long p2), .second, .val (.int (-2 : Int32))] [(.int (-2 : Int32))])) _
                  have ev : own_wd p1 p2 = (-2 : Int32) := by first | rfl | (rw [own_wd, if_pos c3, if_neg c23, if_neg c31, if_neg c45, if_pos c53, if_neg c67, if_neg c75]; done) | (simp only [own_wd, c3, c23, c31, c45, c53, c67, c75, if_true, if_false]; done) | (simp [own_wd, c3, c23, c31, c45, c53, c67, c75]; done) | contradiction | ((unfold own_wd; repeat' split) <;> first | rfl | contradiction | (simp_all; done))
                  rw [ev] at hr
                  exact retI X0 hx Bd.returns (hb hby d3_90) hr
            · refine XS.ifNo X0.here hx rfl (hb hby d3_53) rfl ((if0 _ _).trans (flt (fun q => c53 ((lw_gt _ _).mp q))).2.2.1) ?_
              show Steps p.tables e below (s₁.setTop (mkF m 56 #[.val (.long p1), .second, .val (.long p2), .second, .unset] [])) _
              refine XS.iconst X0.here hx rfl (hb hby d3_56) ?_
              show Steps p.tables e below (s₁.setTop (mkF m 57 #[.val (.long p1), .second, .val (.long p2), .second, .unset] [(.int (-1 : Int32))])) _
              refine XS.istore X0.here hx rfl (hb hby d3_57) rfl (l' := #[.val (.long p1), .second, .val (.long p2), .second, .val (.int (-1 : Int32))]) rfl ?_
              show Steps p.tables e below (s₁.setTop (mkF m 59 #[.val (.long p1), .second, .val (.long p2), .second, .val (.int (-1 : Int32))] [])) _
              refine XS.goto X0.here hx rfl (pc0 := 59) (pc' := 88) rfl (hb hby d3_59) (by decide) (by decide) ?_
              show Steps p.tables e below (s₁.setTop (mkF m 88 #[.val (.long p1), .second, .val (.long p2), .second, .val (.int (-1 : Int32))] [])) _
              refine XS.iload X0.here hx rfl (hb hby d3_88) rfl ?_
              show Steps p.tables e below (s₁.setTop (mkF m 90 #[.val (.long p1), .second, .val (.long p2), .second, .val (.int (-1 : Int32))] [(.int (-1 : Int32))])) _
              have ev : own_wd p1 p2 = (-1 : Int32) := by first | rfl | (rw [own_wd, if_pos c3, if_neg c23, if_neg c31, if_neg c45, if_neg c53]; done) | (simp only [own_wd, c3, c23, c31, c45, c53, if_true, if_false]; done) | (simp [own_wd, c3, c23, c31, c45, c53]; done) | contradiction | ((unfold own_wd; repeat' split) <;> first | rfl | contradiction | (simp_all; done))
              rw [ev] at hr
              exact retI X0 hx Bd.returns (hb hby d3_90) hr
    · refine XS.ifNo X0.here hx rfl (hb hby d3_3) rfl ((if0 _ _).trans (flt (fun q => c3 ((lw_lt _ _).mp q))).1) ?_
      show Steps p.tables e below (s₁.setTop (mkF m 6 #[.val (.long p1), .second, .val (.long p2), .second, .unset] [])) _
      refine XS.lloadN X0.here hx rfl (hb hby d3_6) rfl ?_
      show Steps p.tables e below (s₁.setTop (mkF m 7 #[.val (.long p1), .second, .val (.long p2), .second, .unset] [(.long p2)])) _
      refine X0.ldc2J hx hown (mvT hZ (hw _ (List.mem_of_getElem? (i := 11) rfl))) rfl (hb hby d3_7) ?_
      show Steps p.tables e below (s₁.setTop (mkF m 10 #[.val (.long p1), .second, .val (.long p2), .second, .unset] [(.long (256 : Int64)), (.long p2)])) _
      refine XS.lcmp X0.here hx rfl (hb hby d3_10) rfl ?_
      show Steps p.tables e below (s₁.setTop (mkF m 11 #[.val (.long p1), .second, .val (.long p2), .second, .unset] [(.int (lcmpW p2 (256 : Int64)))])) _
      by_cases c11 : p2 < (256 : Int64)
      · refine XS.ifNo X0.here hx rfl (hb hby d3_11) rfl ((if0 _ _).trans (tlt ((lw_lt _ _).mpr c11)).2.1) ?_
        show Steps p.tables e below (s₁.setTop (mkF m 14 #[.val (.long p1), .second, .val (.long p2), .second, .unset] [])) _
        refine XS.iconst X0.here hx rfl (hb hby d3_14) ?_
        show Steps p.tables e below (s₁.setTop (mkF m 15 #[.val (.long p1), .second, .val (.long p2), .second, .unset] [(.int (1 : Int32))])) _
        refine XS.istore X0.here hx rfl (hb hby d3_15) rfl (l' := #[.val (.long p1), .second, .val (.long p2), .second, .val (.int (1 : Int32))]) rfl ?_
        show Steps p.tables e below (s₁.setTop (mkF m 17 #[.val (.long p1), .second, .val (.long p2), .second, .val (.int (1 : Int32))] [])) _
        refine XS.goto X0.here hx rfl (pc0 := 17) (pc' := 88) rfl (hb hby d3_17) (by decide) (by decide) ?_
        show Steps p.tables e below (s₁.setTop (mkF m 88 #[.val (.long p1), .second, .val (.long p2), .second, .val (.int (1 : Int32))] [])) _
        refine XS.iload X0.here hx rfl (hb hby d3_88) rfl ?_
        show Steps p.tables e below (s₁.setTop (mkF m 90 #[.val (.long p1), .second, .val (.long p2), .second, .val (.int (1 : Int32))] [(.int (1 : Int32))])) _
        have ev : own_wd p1 p2 = (1 : Int32) := by first | rfl | (rw [own_wd, if_neg c3, if_pos c11]; done) | (simp only [own_wd, c3, c11, if_true, if_false]; done) | (simp [own_wd, c3, c11]; done) | contradiction | ((unfold own_wd; repeat' split) <;> first | rfl | contradiction | (simp_all; done))
        rw [ev] at hr
        exact retI X0 hx Bd.returns (hb hby d3_90) hr
      · refine XS.ifYes X0.here hx rfl (pc0 := 11) (pc' := 20) rfl (hb hby d3_11) rfl ((if0 _ _).trans (flt (fun q => c11 ((lw_lt _ _).mp q))).2.1) (by decide) (by decide) ?_
        show Steps p.tables e below (s₁.setTop (mkF m 20 #[.val (.long p1), .second, .val (.long p2), .second, .unset] [])) _
        refine XS.lloadN X0.here hx rfl (hb hby d3_20) rfl ?_
        show Steps p.tables e below (s₁.setTop (mkF m 21 #[.val (.long p1), .second, .val (.long p2), .second, .unset] [(.long p1)])) _
        refine XS.lconst X0.here hx rfl (hb hby d3_21) ?_
        show Steps p.tables e below (s₁.setTop (mkF m 22 #[.val (.long p1), .second, .val (.long p2), .second, .unset] [(.long (0 : Int64)), (.long p1)])) _
        refine XS.lcmp X0.here hx rfl (hb hby d3_22) rfl ?_
        show Steps p.tables e below (s₁.setTop (mkF m 23 #[.val (.long p1), .second, .val (.long p2), .second, .unset] [(.int (lcmpW p1 (0 : Int64)))])) _
        by_cases c23 : p1 < (0 : Int64)
        · refine XS.ifYes X0.here hx rfl (pc0 := 23) (pc' := 40) rfl (hb hby d3_23) rfl ((if0 _ _).trans (tlt ((lw_lt _ _).mpr c23)).1) (by decide) (by decide) ?_
          show Steps p.tables e below (s₁.setTop (mkF m 40 #[.val (.long p1), .second, .val (.long p2), .second, .unset] [])) _
          refine XS.lloadN X0.here hx rfl (hb hby d3_40) rfl ?_
          show Steps p.tables e below (s₁.setTop (mkF m 41 #[.val (.long p1), .second, .val (.long p2), .second, .unset] [(.long p1)])) _
          refine X0.ldc2J hx hown (mvT hZ (hw _ (List.mem_of_getElem? (i := 26) rfl))) rfl (hb hby d3_41) ?_
          show Steps p.tables e below (s₁.setTop (mkF m 44 #[.val (.long p1), .second, .val (.long p2), .second, .unset] [(.long (-128 : Int64)), (.long p1)])) _
          refine XS.lcmp X0.here hx rfl (hb hby d3_44) rfl ?_
          show Steps p.tables e below (s₁.setTop (mkF m 45 #[.val (.long p1), .second, .val (.long p2), .second, .unset] [(.int (lcmpW p1 (-128 : Int64)))])) _
          by_cases c45 : p1 < (-128 : Int64)
          · refine XS.ifYes X0.here hx rfl (pc0 := 45) (pc' := 62) rfl (hb hby d3_45) rfl ((if0 _ _).trans (tlt ((lw_lt _ _).mpr c45)).1) (by decide) (by decide) ?_
            show Steps p.tables e below (s₁.setTop (mkF m 62 #[.val (.long p1), .second, .val (.long p2), .second, .unset] [])) _
            refine XS.lloadN X0.here hx rfl (hb hby d3_62) rfl ?_
            show Steps p.tables e below (s₁.setTop (mkF m 63 #[.val (.long p1), .second, .val (.long p2), .second, .unset] [(.long p1)])) _
            refine X0.ldc2J hx hown (mvT hZ (hw _ (List.mem_of_getElem? (i := 27) rfl))) rfl (hb hby d3_63) ?_
            show Steps p.tables e below (s₁.setTop (mkF m 66 #[.val (.long p1), .second, .val (.long p2), .second, .unset] [(.long (-32768 : Int64)), (.long p1)])) _
            refine XS.lcmp X0.here hx rfl (hb hby d3_66) rfl ?_
            show Steps p.tables e below (s₁.setTop (mkF m 67 #[.val (.long p1), .second, .val (.long p2), .second, .unset] [(.int (lcmpW p1 (-32768 : Int64)))])) _
            by_cases c67 : p1 < (-32768 : Int64)
            · refine XS.ifYes X0.here hx rfl (pc0 := 67) (pc' := 85) rfl (hb hby d3_67) rfl ((if0 _ _).trans (tlt ((lw_lt _ _).mpr c67)).1) (by decide) (by decide) ?_
              show Steps p.tables e below (s₁.setTop (mkF m 85 #[.val (.long p1), .second, .val (.long p2), .second, .unset] [])) _
              refine XS.iconst X0.here hx rfl (hb hby d3_85) ?_
              show Steps p.tables e below (s₁.setTop (mkF m 86 #[.val (.long p1), .second, .val (.long p2), .second, .unset] [(.int (4 : Int32))])) _
              refine XS.istore X0.here hx rfl (hb hby d3_86) rfl (l' := #[.val (.long p1), .second, .val (.long p2), .second, .val (.int (4 : Int32))]) rfl ?_
              show Steps p.tables e below (s₁.setTop (mkF m 88 #[.val (.long p1), .second, .val (.long p2), .second, .val (.int (4 : Int32))] [])) _
              refine XS.iload X0.here hx rfl (hb hby d3_88) rfl ?_
              show Steps p.tables e below (s₁.setTop (mkF m 90 #[.val (.long p1), .second, .val (.long p2), .second, .val (.int (4 : Int32))] [(.int (4 : Int32))])) _
              have ev : own_wd p1 p2 = (4 : Int32) := by first | rfl | (rw [own_wd, if_neg c3, if_neg c11, if_pos c23, if_pos c45, if_pos c67]; done) | (simp only [own_wd, c3, c11, c23, c45, c67, if_true, if_false]; done) | (simp [own_wd, c3, c11, c23, c45, c67]; done) | contradiction | ((unfold own_wd; repeat' split) <;> first | rfl | contradiction | (simp_all; done))
              rw [ev] at hr
              exact retI X0 hx Bd.returns (hb hby d3_90) hr
            · refine XS.ifNo X0.here hx rfl (hb hby d3_67) rfl ((if0 _ _).trans (flt (fun q => c67 ((lw_lt _ _).mp q))).1) ?_
              show Steps p.tables e below (s₁.setTop (mkF m 70 #[.val (.long p1), .second, .val (.long p2), .second, .unset] [])) _
              refine XS.lloadN X0.here hx rfl (hb hby d3_70) rfl ?_
              show Steps p.tables e below (s₁.setTop (mkF m 71 #[.val (.long p1), .second, .val (.long p2), .second, .unset] [(.long p2)])) _
              refine X0.ldc2J hx hown (mvT hZ (hw _ (List.mem_of_getElem? (i := 35) rfl))) rfl (hb hby d3_71) ?_
              show Steps p.tables e below (s₁.setTop (mkF m 74 #[.val (.long p1), .second, .val (.long p2), .second, .unset] [(.long (32767 : Int64)), (.long p2)])) _
              refine XS.lcmp X0.here hx rfl (hb hby d3_74) rfl ?_
              show Steps p.tables e below (s₁.setTop (mkF m 75 #[.val (.long p1), .second, .val (.long p2), .second, .unset] [(.int (lcmpW p2 (32767 : Int64)))])) _
              by_cases c75 : (32767 : Int64) < p2
              · refine XS.ifYes X0.here hx rfl (pc0 := 75) (pc' := 85) rfl (hb hby d3_75) rfl ((if0 _ _).trans (tlt ((lw_gt _ _).mpr c75)).2.2.1) (by decide) (by decide) ?_
                show Steps p.tables e below (s₁.setTop (mkF m 85 #[.val (.long p1), .second, .val (.long p2), .second, .unset] [])) _
                refine XS.iconst X0.here hx rfl (hb hby d3_85) ?_
                show Steps p.tables e below (s₁.setTop (mkF m 86 #[.val (.long p1), .second, .val (.long p2), .second, .unset] [(.int (4 : Int32))])) _
                refine XS.istore X0.here hx rfl (hb hby d3_86) rfl (l' := #[.val (.long p1), .second, .val (.long p2), .second, .val (.int (4 : Int32))]) rfl ?_
                show Steps p.tables e below (s₁.setTop (mkF m 88 #[.val (.long p1), .second, .val (.long p2), .second, .val (.int (4 : Int32))] [])) _
                refine XS.iload X0.here hx rfl (hb hby d3_88) rfl ?_
                show Steps p.tables e below (s₁.setTop (mkF m 90 #[.val (.long p1), .second, .val (.long p2), .second, .val (.int (4 : Int32))] [(.int (4 : Int32))])) _
                have ev : own_wd p1 p2 = (4 : Int32) := by first | rfl | (rw [own_wd, if_neg c3, if_neg c11, if_pos c23, if_pos c45, if_neg c67, if_pos c75]; done) | (simp only [own_wd, c3, c11, c23, c45, c67, c75, if_true, if_false]; done) | (simp [own_wd, c3, c11, c23, c45, c67, c75]; done) | contradiction | ((unfold own_wd; repeat' split) <;> first | rfl | contradiction | (simp_all; done))
                rw [ev] at hr
                exact retI X0 hx Bd.returns (hb hby d3_90) hr
              · refine XS.ifNo X0.here hx rfl (hb hby d3_75) rfl ((if0 _ _).trans (flt (fun q => c75 ((lw_gt _ _).mp q))).2.2.1) ?_
                show Steps p.tables e below (s₁.setTop (mkF m 78 #[.val (.long p1), .second, .val (.long p2), .second, .unset] [])) _
                refine XS.bipush X0.here hx rfl (hb hby d3_78) ?_
                show Steps p.tables e below (s₁.setTop (mkF m 80 #[.val (.long p1), .second, .val (.long p2), .second, .unset] [(.int (-2 : Int32))])) _
                refine XS.istore X0.here hx rfl (hb hby d3_80) rfl (l' := #[.val (.long p1), .second, .val (.long p2), .second, .val (.int (-2 : Int32))]) rfl ?_
                show Steps p.tables e below (s₁.setTop (mkF m 82 #[.val (.long p1), .second, .val (.long p2), .second, .val (.int (-2 : Int32))] [])) _
                refine XS.goto X0.here hx rfl (pc0 := 82) (pc' := 88) rfl (hb hby d3_82) (by decide) (by decide) ?_
                show Steps p.tables e below (s₁.setTop (mkF m 88 #[.val (.long p1), .second, .val (.long p2), .second, .val (.int (-2 : Int32))] [])) _
                refine XS.iload X0.here hx rfl (hb hby d3_88) rfl ?_
                show Steps p.tables e below (s₁.setTop (mkF m 90 #[.val (.long p1), .second, .val (.long p2), .second, .val (.int (-2 : Int32))] [(.int (-2 : Int32))])) _
                have ev : own_wd p1 p2 = (-2 : Int32) := by first | rfl | (rw [own_wd, if_neg c3, if_neg c11, if_pos c23, if_pos c45, if_neg c67, if_neg c75]; done) | (simp only [own_wd, c3, c11, c23, c45, c67, c75, if_true, if_false]; done) | (simp [own_wd, c3, c11, c23, c45, c67, c75]; done) | contradiction | ((unfold own_wd; repeat' split) <;> first | rfl | contradiction | (simp_all; done))
                rw [ev] at hr
                exact retI X0 hx Bd.returns (hb hby d3_90) hr
          · refine XS.ifNo X0.here hx rfl (hb hby d3_45) rfl ((if0 _ _).trans (flt (fun q => c45 ((lw_lt _ _).mp q))).1) ?_
            show Steps p.tables e below (s₁.setTop (mkF m 48 #[.val (.long p1), .second, .val (.long p2), .second, .unset] [])) _
            refine XS.lloadN X0.here hx rfl (hb hby d3_48) rfl ?_
            show Steps p.tables e below (s₁.setTop (mkF m 49 #[.val (.long p1), .second, .val (.long p2), .second, .unset] [(.long p2)])) _
            refine X0.ldc2J hx hown (mvT hZ (hw _ (List.mem_of_getElem? (i := 32) rfl))) rfl (hb hby d3_49) ?_
            show Steps p.tables e below (s₁.setTop (mkF m 52 #[.val (.long p1), .second, .val (.long p2), .second, .unset] [(.long (127 : Int64)), (.long p2)])) _
            refine XS.lcmp X0.here hx rfl (hb hby d3_52) rfl ?_
            show Steps p.tables e below (s₁.setTop (mkF m 53 #[.val (.long p1), .second, .val (.long p2), .second, .unset] [(.int (lcmpW p2 (127 : Int64)))])) _
            by_cases c53 : (127 : Int64) < p2
            · refine XS.ifYes X0.here hx rfl (pc0 := 53) (pc' := 62) rfl (hb hby d3_53) rfl ((if0 _ _).trans (tlt ((lw_gt _ _).mpr c53)).2.2.1) (by decide) (by decide) ?_
              show Steps p.tables e below (s₁.setTop (mkF m 62 #[.val (.long p1), .second, .val (.long p2), .second, .unset] [])) _
              refine XS.lloadN X0.here hx rfl (hb hby d3_62) rfl ?_
              show Steps p.tables e below (s₁.setTop (mkF m 63 #[.val (.long p1), .second, .val (.long p2), .second, .unset] [(.long p1)])) _
              refine X0.ldc2J hx hown (mvT hZ (hw _ (List.mem_of_getElem? (i := 27) rfl))) rfl (hb hby d3_63) ?_
              show Steps p.tables e below (s₁.setTop (mkF m 66 #[.val (.long p1), .second, .val (.long p2), .second, .unset] [(.long (-32768 : Int64)), (.long p1)])) _
              refine XS.lcmp X0.here hx rfl (hb hby d3_66) rfl ?_
              show Steps p.tables e below (s₁.setTop (mkF m 67 #[.val (.long p1), .second, .val (.long p2), .second, .unset] [(.int (lcmpW p1 (-32768 : Int64)))])) _
              by_cases c67 : p1 < (-32768 : Int64)
              · refine XS.ifYes X0.here hx rfl (pc0 := 67) (pc' := 85) rfl (hb hby d3_67) rfl ((if0 _ _).trans (tlt ((lw_lt _ _).mpr c67)).1) (by decide) (by decide) ?_
                show Steps p.tables e below (s₁.setTop (mkF m 85 #[.val (.long p1), .second, .val (.long p2), .second, .unset] [])) _
                refine XS.iconst X0.here hx rfl (hb hby d3_85) ?_
                show Steps p.tables e below (s₁.setTop (mkF m 86 #[.val (.long p1), .second, .val (.long p2), .second, .unset] [(.int (4 : Int32))])) _
                refine XS.istore X0.here hx rfl (hb hby d3_86) rfl (l' := #[.val (.long p1), .second, .val (.long p2), .second, .val (.int (4 : Int32))]) rfl ?_
                show Steps p.tables e below (s₁.setTop (mkF m 88 #[.val (.long p1), .second, .val (.long p2), .second, .val (.int (4 : Int32))] [])) _
                refine XS.iload X0.here hx rfl (hb hby d3_88) rfl ?_
                show Steps p.tables e below (s₁.setTop (mkF m 90 #[.val (.long p1), .second, .val (.long p2), .second, .val (.int (4 : Int32))] [(.int (4 : Int32))])) _
                have ev : own_wd p1 p2 = (4 : Int32) := by first | rfl | (rw [own_wd, if_neg c3, if_neg c11, if_pos c23, if_neg c45, if_pos c53, if_pos c67]; done) | (simp only [own_wd, c3, c11, c23, c45, c53, c67, if_true, if_false]; done) | (simp [own_wd, c3, c11, c23, c45, c53, c67]; done) | contradiction | ((unfold own_wd; repeat' split) <;> first | rfl | contradiction | (simp_all; done))
                rw [ev] at hr
                exact retI X0 hx Bd.returns (hb hby d3_90) hr
              · refine XS.ifNo X0.here hx rfl (hb hby d3_67) rfl ((if0 _ _).trans (flt (fun q => c67 ((lw_lt _ _).mp q))).1) ?_
                show Steps p.tables e below (s₁.setTop (mkF m 70 #[.val (.long p1), .second, .val (.long p2), .second, .unset] [])) _
                refine XS.lloadN X0.here hx rfl (hb hby d3_70) rfl ?_
                show Steps p.tables e below (s₁.setTop (mkF m 71 #[.val (.long p1), .second, .val (.long p2), .second, .unset] [(.long p2)])) _
                refine X0.ldc2J hx hown (mvT hZ (hw _ (List.mem_of_getElem? (i := 35) rfl))) rfl (hb hby d3_71) ?_
                show Steps p.tables e below (s₁.setTop (mkF m 74 #[.val (.long p1), .second, .val (.long p2), .second, .unset] [(.long (32767 : Int64)), (.long p2)])) _
                refine XS.lcmp X0.here hx rfl (hb hby d3_74) rfl ?_
                show Steps p.tables e below (s₁.setTop (mkF m 75 #[.val (.long p1), .second, .val (.long p2), .second, .unset] [(.int (lcmpW p2 (32767 : Int64)))])) _
                by_cases c75 : (32767 : Int64) < p2
                · refine XS.ifYes X0.here hx rfl (pc0 := 75) (pc' := 85) rfl (hb hby d3_75) rfl ((if0 _ _).trans (tlt ((lw_gt _ _).mpr c75)).2.2.1) (by decide) (by decide) ?_
                  show Steps p.tables e below (s₁.setTop (mkF m 85 #[.val (.long p1), .second, .val (.long p2), .second, .unset] [])) _
                  refine XS.iconst X0.here hx rfl (hb hby d3_85) ?_
                  show Steps p.tables e below (s₁.setTop (mkF m 86 #[.val (.long p1), .second, .val (.long p2), .second, .unset] [(.int (4 : Int32))])) _
                  refine XS.istore X0.here hx rfl (hb hby d3_86) rfl (l' := #[.val (.long p1), .second, .val (.long p2), .second, .val (.int (4 : Int32))]) rfl ?_
                  show Steps p.tables e below (s₁.setTop (mkF m 88 #[.val (.long p1), .second, .val (.long p2), .second, .val (.int (4 : Int32))] [])) _
                  refine XS.iload X0.here hx rfl (hb hby d3_88) rfl ?_
                  show Steps p.tables e below (s₁.setTop (mkF m 90 #[.val (.long p1), .second, .val (.long p2), .second, .val (.int (4 : Int32))] [(.int (4 : Int32))])) _
                  have ev : own_wd p1 p2 = (4 : Int32) := by first | rfl | (rw [own_wd, if_neg c3, if_neg c11, if_pos c23, if_neg c45, if_pos c53, if_neg c67, if_pos c75]; done) | (simp only [own_wd, c3, c11, c23, c45, c53, c67, c75, if_true, if_false]; done) | (simp [own_wd, c3, c11, c23, c45, c53, c67, c75]; done) | contradiction | ((unfold own_wd; repeat' split) <;> first | rfl | contradiction | (simp_all; done))
                  rw [ev] at hr
                  exact retI X0 hx Bd.returns (hb hby d3_90) hr
                · refine XS.ifNo X0.here hx rfl (hb hby d3_75) rfl ((if0 _ _).trans (flt (fun q => c75 ((lw_gt _ _).mp q))).2.2.1) ?_
                  show Steps p.tables e below (s₁.setTop (mkF m 78 #[.val (.long p1), .second, .val (.long p2), .second, .unset] [])) _
                  refine XS.bipush X0.here hx rfl (hb hby d3_78) ?_
                  show Steps p.tables e below (s₁.setTop (mkF m 80 #[.val (.long p1), .second, .val (.long p2), .second, .unset] [(.int (-2 : Int32))])) _
                  refine XS.istore X0.here hx rfl (hb hby d3_80) rfl (l' := #[.val (.long p1), .second, .val (.long p2), .second, .val (.int (-2 : Int32))]) rfl ?_
                  show Steps p.tables e below (s₁.setTop (mkF m 82 #[.val (.long p1), .second, .val (.long p2), .second, .val (.int (-2 : Int32))] [])) _
                  refine XS.goto X0.here hx rfl (pc0 := 82) (pc' := 88) rfl (hb hby d3_82) (by decide) (by decide) ?_
                  show Steps p.tables e below (s₁.setTop (mkF m 88 #[.val (.long p1), .second, .val (.long p2), .second, .val (.int (-2 : Int32))] [])) _
                  refine XS.iload X0.here hx rfl (hb hby d3_88) rfl ?_
                  show Steps p.tables e below (s₁.setTop (mkF m 90 #[.val (.long p1), .second, .val (.long p2), .second, .val (.int (-2 : Int32))] [(.int (-2 : Int32))])) _
                  have ev : own_wd p1 p2 = (-2 : Int32) := by first | rfl | (rw [own_wd, if_neg c3, if_neg c11, if_pos c23, if_neg c45, if_pos c53, if_neg c67, if_neg c75]; done) | (simp only [own_wd, c3, c11, c23, c45, c53, c67, c75, if_true, if_false]; done) | (simp [own_wd, c3, c11, c23, c45, c53, c67, c75]; done) | contradiction | ((unfold own_wd; repeat' split) <;> first | rfl | contradiction | (simp_all; done))
                  rw [ev] at hr
                  exact retI X0 hx Bd.returns (hb hby d3_90) hr
            · refine XS.ifNo X0.here hx rfl (hb hby d3_53) rfl ((if0 _ _).trans (flt (fun q => c53 ((lw_gt _ _).mp q))).2.2.1) ?_
              show Steps p.tables e below (s₁.setTop (mkF m 56 #[.val (.long p1), .second, .val (.long p2), .second, .unset] [])) _
              refine XS.iconst X0.here hx rfl (hb hby d3_56) ?_
              show Steps p.tables e below (s₁.setTop (mkF m 57 #[.val (.long p1), .second, .val (.long p2), .second, .unset] [(.int (-1 : Int32))])) _
              refine XS.istore X0.here hx rfl (hb hby d3_57) rfl (l' := #[.val (.long p1), .second, .val (.long p2), .second, .val (.int (-1 : Int32))]) rfl ?_
              show Steps p.tables e below (s₁.setTop (mkF m 59 #[.val (.long p1), .second, .val (.long p2), .second, .val (.int (-1 : Int32))] [])) _
              refine XS.goto X0.here hx rfl (pc0 := 59) (pc' := 88) rfl (hb hby d3_59) (by decide) (by decide) ?_
              show Steps p.tables e below (s₁.setTop (mkF m 88 #[.val (.long p1), .second, .val (.long p2), .second, .val (.int (-1 : Int32))] [])) _
              refine XS.iload X0.here hx rfl (hb hby d3_88) rfl ?_
              show Steps p.tables e below (s₁.setTop (mkF m 90 #[.val (.long p1), .second, .val (.long p2), .second, .val (.int (-1 : Int32))] [(.int (-1 : Int32))])) _
              have ev : own_wd p1 p2 = (-1 : Int32) := by first | rfl | (rw [own_wd, if_neg c3, if_neg c11, if_pos c23, if_neg c45, if_neg c53]; done) | (simp only [own_wd, c3, c11, c23, c45, c53, if_true, if_false]; done) | (simp [own_wd, c3, c11, c23, c45, c53]; done) | contradiction | ((unfold own_wd; repeat' split) <;> first | rfl | contradiction | (simp_all; done))
              rw [ev] at hr
              exact retI X0 hx Bd.returns (hb hby d3_90) hr
        · refine XS.ifNo X0.here hx rfl (hb hby d3_23) rfl ((if0 _ _).trans (flt (fun q => c23 ((lw_lt _ _).mp q))).1) ?_
          show Steps p.tables e below (s₁.setTop (mkF m 26 #[.val (.long p1), .second, .val (.long p2), .second, .unset] [])) _
          refine XS.lloadN X0.here hx rfl (hb hby d3_26) rfl ?_
          show Steps p.tables e below (s₁.setTop (mkF m 27 #[.val (.long p1), .second, .val (.long p2), .second, .unset] [(.long p2)])) _
          refine X0.ldc2J hx hown (mvT hZ (hw _ (List.mem_of_getElem? (i := 34) rfl))) rfl (hb hby d3_27) ?_
          show Steps p.tables e below (s₁.setTop (mkF m 30 #[.val (.long p1), .second, .val (.long p2), .second, .unset] [(.long (65536 : Int64)), (.long p2)])) _
          refine XS.lcmp X0.here hx rfl (hb hby d3_30) rfl ?_
          show Steps p.tables e below (s₁.setTop (mkF m 31 #[.val (.long p1), .second, .val (.long p2), .second, .unset] [(.int (lcmpW p2 (65536 : Int64)))])) _
          by_cases c31 : p2 < (65536 : Int64)
          · refine XS.ifNo X0.here hx rfl (hb hby d3_31) rfl ((if0 _ _).trans (tlt ((lw_lt _ _).mpr c31)).2.1) ?_
            show Steps p.tables e below (s₁.setTop (mkF m 34 #[.val (.long p1), .second, .val (.long p2), .second, .unset] [])) _
            refine XS.iconst X0.here hx rfl (hb hby d3_34) ?_
            show Steps p.tables e below (s₁.setTop (mkF m 35 #[.val (.long p1), .second, .val (.long p2), .second, .unset] [(.int (2 : Int32))])) _
            refine XS.istore X0.here hx rfl (hb hby d3_35) rfl (l' := #[.val (.long p1), .second, .val (.long p2), .second, .val (.int (2 : Int32))]) rfl ?_
            show Steps p.tables e below (s₁.setTop (mkF m 37 #[.val (.long p1), .second, .val (.long p2), .second, .val (.int (2 : Int32))] [])) _
            refine XS.goto X0.here hx rfl (pc0 := 37) (pc' := 88) rfl (hb hby d3_37) (by decide) (by decide) ?_
            show Steps p.tables e below (s₁.setTop (mkF m 88 #[.val (.long p1), .second, .val (.long p2), .second, .val (.int (2 : Int32))] [])) _
            refine XS.iload X0.here hx rfl (hb hby d3_88) rfl ?_
            show Steps p.tables e below (s₁.setTop (mkF m 90 #[.val (.long p1), .second, .val (.long p2), .second, .val (.int (2 : Int32))] [(.int (2 : Int32))])) _
            have ev : own_wd p1 p2 = (2 : Int32) := by first | rfl | (rw [own_wd, if_neg c3, if_neg c11, if_neg c23, if_pos c31]; done) | (simp only [own_wd, c3, c11, c23, c31, if_true, if_false]; done) | (simp [own_wd, c3, c11, c23, c31]; done) | contradiction | ((unfold own_wd; repeat' split) <;> first | rfl | contradiction | (simp_all; done))
            rw [ev] at hr
            exact retI X0 hx Bd.returns (hb hby d3_90) hr
          · refine XS.ifYes X0.here hx rfl (pc0 := 31) (pc' := 40) rfl (hb hby d3_31) rfl ((if0 _ _).trans (flt (fun q => c31 ((lw_lt _ _).mp q))).2.1) (by decide) (by decide) ?_
            show Steps p.tables e below (s₁.setTop (mkF m 40 #[.val (.long p1), .second, .val (.long p2), .second, .unset] [])) _
            refine XS.lloadN X0.here hx rfl (hb hby d3_40) rfl ?_
            show Steps p.tables e below (s₁.setTop (mkF m 41 #[.val (.long p1), .second, .val (.long p2), .second, .unset] [(.long p1)])) _
            refine X0.ldc2J hx hown (mvT hZ (hw _ (List.mem_of_getElem? (i := 26) rfl))) rfl (hb hby d3_41) ?_
            show Steps p.tables e below (s₁.setTop (mkF m 44 #[.val (.long p1), .second, .val (.long p2), .second, .unset] [(.long (-128 : Int64)), (.long p1)])) _
            refine XS.lcmp X0.here hx rfl (hb hby d3_44) rfl ?_
            show Steps p.tables e below (s₁.setTop (mkF m 45 #[.val (.long p1), .second, .val (.long p2), .second, .unset] [(.int (lcmpW p1 (-128 : Int64)))])) _
            by_cases c45 : p1 < (-128 : Int64)
            · refine XS.ifYes X0.here hx rfl (pc0 := 45) (pc' := 62) rfl (hb hby d3_45) rfl ((if0 _ _).trans (tlt ((lw_lt _ _).mpr c45)).1) (by decide) (by decide) ?_
              show Steps p.tables e below (s₁.setTop (mkF m 62 #[.val (.long p1), .second, .val (.long p2), .second, .unset] [])) _
              refine XS.lloadN X0.here hx rfl (hb hby d3_62) rfl ?_
              show Steps p.tables e below (s₁.setTop (mkF m 63 #[.val (.long p1), .second, .val (.long p2), .second, .unset] [(.long p1)])) _
              refine X0.ldc2J hx hown (mvT hZ (hw _ (List.mem_of_getElem? (i := 27) rfl))) rfl (hb hby d3_63) ?_
              show Steps p.tables e below (s₁.setTop (mkF m 66 #[.val (.long p1), .second, .val (.long p2), .second, .unset] [(.long (-32768 : Int64)), (.long p1)])) _
              refine XS.lcmp X0.here hx rfl (hb hby d3_66) rfl ?_
              show Steps p.tables e below (s₁.setTop (mkF m 67 #[.val (.long p1), .second, .val (.long p2), .second, .unset] [(.int (lcmpW p1 (-32768 : Int64)))])) _
              by_cases c67 : p1 < (-32768 : Int64)
              · refine XS.ifYes X0.here hx rfl (pc0 := 67) (pc' := 85) rfl (hb hby d3_67) rfl ((if0 _ _).trans (tlt ((lw_lt _ _).mpr c67)).1) (by decide) (by decide) ?_
                show Steps p.tables e below (s₁.setTop (mkF m 85 #[.val (.long p1), .second, .val (.long p2), .second, .unset] [])) _
                refine XS.iconst X0.here hx rfl (hb hby d3_85) ?_
                show Steps p.tables e below (s₁.setTop (mkF m 86 #[.val (.long p1), .second, .val (.long p2), .second, .unset] [(.int (4 : Int32))])) _
                refine XS.istore X0.here hx rfl (hb hby d3_86) rfl (l' := #[.val (.long p1), .second, .val (.long p2), .second, .val (.int (4 : Int32))]) rfl ?_
                show Steps p.tables e below (s₁.setTop (mkF m 88 #[.val (.long p1), .second, .val (.long p2), .second, .val (.int (4 : Int32))] [])) _
                refine XS.iload X0.here hx rfl (hb hby d3_88) rfl ?_
                show Steps p.tables e below (s₁.setTop (mkF m 90 #[.val (.long p1), .second, .val (.long p2), .second, .val (.int (4 : Int32))] [(.int (4 : Int32))])) _
                have ev : own_wd p1 p2 = (4 : Int32) := by first | rfl | (rw [own_wd, if_neg c3, if_neg c11, if_neg c23, if_neg c31, if_pos c45, if_pos c67]; done) | (simp only [own_wd, c3, c11, c23, c31, c45, c67, if_true, if_false]; done) | (simp [own_wd, c3, c11, c23, c31, c45, c67]; done) | contradiction | ((unfold own_wd; repeat' split) <;> first | rfl | contradiction | (simp_all; done))
                rw [ev] at hr
                exact retI X0 hx Bd.returns (hb hby d3_90) hr
              · refine XS.ifNo X0.here hx rfl (hb hby d3_67) rfl ((if0 _ _).trans (flt (fun q => c67 ((lw_lt _ _).mp q))).1) ?_
                show Steps p.tables e below (s₁.setTop (mkF m 70 #[.val (.long p1), .second, .val (.long p2), .second, .unset] [])) _
                refine XS.lloadN X0.here hx rfl (hb hby d3_70) rfl ?_
                show Steps p.tables e below (s₁.setTop (mkF m 71 #[.val (.long p1), .second, .val (.long p2), .second, .unset] [(.long p2)])) _
                refine X0.ldc2J hx hown (mvT hZ (hw _ (List.mem_of_getElem? (i := 35) rfl))) rfl (hb hby d3_71) ?_
                show Steps p.tables e below (s₁.setTop (mkF m 74 #[.val (.long p1), .second, .val (.long p2), .second, .unset] [(.long (32767 : Int64)), (.long p2)])) _
                refine XS.lcmp X0.here hx rfl (hb hby d3_74) rfl ?_
                show Steps p.tables e below (s₁.setTop (mkF m 75 #[.val (.long p1), .second, .val (.long p2), .second, .unset] [(.int (lcmpW p2 (32767 : Int64)))])) _
                by_cases c75 : (32767 : Int64) < p2
                · refine XS.ifYes X0.here hx rfl (pc0 := 75) (pc' := 85) rfl (hb hby d3_75) rfl ((if0 _ _).trans (tlt ((lw_gt _ _).mpr c75)).2.2.1) (by decide) (by decide) ?_
                  show Steps p.tables e below (s₁.setTop (mkF m 85 #[.val (.long p1), .second, .val (.long p2), .second, .unset] [])) _
                  refine XS.iconst X0.here hx rfl (hb hby d3_85) ?_
                  show Steps p.tables e below (s₁.setTop (mkF m 86 #[.val (.long p1), .second, .val (.long p2), .second, .unset] [(.int (4 : Int32))])) _
                  refine XS.istore X0.here hx rfl (hb hby d3_86) rfl (l' := #[.val (.long p1), .second, .val (.long p2), .second, .val (.int (4 : Int32))]) rfl ?_
                  show Steps p.tables e below (s₁.setTop (mkF m 88 #[.val (.long p1), .second, .val (.long p2), .second, .val (.int (4 : Int32))] [])) _
                  refine XS.iload X0.here hx rfl (hb hby d3_88) rfl ?_
                  show Steps p.tables e below (s₁.setTop (mkF m 90 #[.val (.long p1), .second, .val (.long p2), .second, .val (.int (4 : Int32))] [(.int (4 : Int32))])) _
                  have ev : own_wd p1 p2 = (4 : Int32) := by first | rfl | (rw [own_wd, if_neg c3, if_neg c11, if_neg c23, if_neg c31, if_pos c45, if_neg c67, if_pos c75]; done) | (simp only [own_wd, c3, c11, c23, c31, c45, c67, c75, if_true, if_false]; done) | (simp [own_wd, c3, c11, c23, c31, c45, c67, c75]; done) | contradiction | ((unfold own_wd; repeat' split) <;> first | rfl | contradiction | (simp_all; done))
                  rw [ev] at hr
                  exact retI X0 hx Bd.returns (hb hby d3_90) hr
                · refine XS.ifNo X0.here hx rfl (hb hby d3_75) rfl ((if0 _ _).trans (flt (fun q => c75 ((lw_gt _ _).mp q))).2.2.1) ?_
                  show Steps p.tables e below (s₁.setTop (mkF m 78 #[.val (.long p1), .second, .val (.long p2), .second, .unset] [])) _
                  refine XS.bipush X0.here hx rfl (hb hby d3_78) ?_
                  show Steps p.tables e below (s₁.setTop (mkF m 80 #[.val (.long p1), .second, .val (.long p2), .second, .unset] [(.int (-2 : Int32))])) _
                  refine XS.istore X0.here hx rfl (hb hby d3_80) rfl (l' := #[.val (.long p1), .second, .val (.long p2), .second, .val (.int (-2 : Int32))]) rfl ?_
                  show Steps p.tables e below (s₁.setTop (mkF m 82 #[.val (.long p1), .second, .val (.long p2), .second, .val (.int (-2 : Int32))] [])) _
                  refine XS.goto X0.here hx rfl (pc0 := 82) (pc' := 88) rfl (hb hby d3_82) (by decide) (by decide) ?_
                  show Steps p.tables e below (s₁.setTop (mkF m 88 #[.val (.long p1), .second, .val (.long p2), .second, .val (.int (-2 : Int32))] [])) _
                  refine XS.iload X0.here hx rfl (hb hby d3_88) rfl ?_
                  show Steps p.tables e below (s₁.setTop (mkF m 90 #[.val (.long p1), .second, .val (.long p2), .second, .val (.int (-2 : Int32))] [(.int (-2 : Int32))])) _
                  have ev : own_wd p1 p2 = (-2 : Int32) := by first | rfl | (rw [own_wd, if_neg c3, if_neg c11, if_neg c23, if_neg c31, if_pos c45, if_neg c67, if_neg c75]; done) | (simp only [own_wd, c3, c11, c23, c31, c45, c67, c75, if_true, if_false]; done) | (simp [own_wd, c3, c11, c23, c31, c45, c67, c75]; done) | contradiction | ((unfold own_wd; repeat' split) <;> first | rfl | contradiction | (simp_all; done))
                  rw [ev] at hr
                  exact retI X0 hx Bd.returns (hb hby d3_90) hr
            · refine XS.ifNo X0.here hx rfl (hb hby d3_45) rfl ((if0 _ _).trans (flt (fun q => c45 ((lw_lt _ _).mp q))).1) ?_
              show Steps p.tables e below (s₁.setTop (mkF m 48 #[.val (.long p1), .second, .val (.long p2), .second, .unset] [])) _
              refine XS.lloadN X0.here hx rfl (hb hby d3_48) rfl ?_
              show Steps p.tables e below (s₁.setTop (mkF m 49 #[.val (.long p1), .second, .val (.long p2), .second, .unset] [(.long p2)])) _
              refine X0.ldc2J hx hown (mvT hZ (hw _ (List.mem_of_getElem? (i := 32) rfl))) rfl (hb hby d3_49) ?_
              show Steps p.tables e below (s₁.setTop (mkF m 52 #[.val (.long p1), .second, .val (.long p2), .second, .unset] [(.long (127 : Int64)), (.long p2)])) _
              refine XS.lcmp X0.here hx rfl (hb hby d3_52) rfl ?_
              show Steps p.tables e below (s₁.setTop (mkF m 53 #[.val (.long p1), .second, .val (.long p2), .second, .unset] [(.int (lcmpW p2 (127 : Int64)))])) _
              by_cases c53 : (127 : Int64) < p2
              · refine XS.ifYes X0.here hx rfl (pc0 := 53) (pc' := 62) rfl (hb hby d3_53) rfl ((if0 _ _).trans (tlt ((lw_gt _ _).mpr c53)).2.2.1) (by decide) (by decide) ?_
                show Steps p.tables e below (s₁.setTop (mkF m 62 #[.val (.long p1), .second, .val (.long p2), .second, .unset] [])) _
                refine XS.lloadN X0.here hx rfl (hb hby d3_62) rfl ?_
                show Steps p.tables e below (s₁.setTop (mkF m 63 #[.val (.long p1), .second, .val (.long p2), .second, .unset] [(.long p1)])) _
                refine X0.ldc2J hx hown (mvT hZ (hw _ (List.mem_of_getElem? (i := 27) rfl))) rfl (hb hby d3_63) ?_
                show Steps p.tables e below (s₁.setTop (mkF m 66 #[.val (.long p1), .second, .val (.long p2), .second, .unset] [(.long (-32768 : Int64)), (.long p1)])) _
                refine XS.lcmp X0.here hx rfl (hb hby d3_66) rfl ?_
                show Steps p.tables e below (s₁.setTop (mkF m 67 #[.val (.long p1), .second, .val (.long p2), .second, .unset] [(.int (lcmpW p1 (-32768 : Int64)))])) _
                by_cases c67 : p1 < (-32768 : Int64)
                · refine XS.ifYes X0.here hx rfl (pc0 := 67) (pc' := 85) rfl (hb hby d3_67) rfl ((if0 _ _).trans (tlt ((lw_lt _ _).mpr c67)).1) (by decide) (by decide) ?_
                  show Steps p.tables e below (s₁.setTop (mkF m 85 #[.val (.long p1), .second, .val (.long p2), .second, .unset] [])) _
                  refine XS.iconst X0.here hx rfl (hb hby d3_85) ?_
                  show Steps p.tables e below (s₁.setTop (mkF m 86 #[.val (.long p1), .second, .val (.long p2), .second, .unset] [(.int (4 : Int32))])) _
                  refine XS.istore X0.here hx rfl (hb hby d3_86) rfl (l' := #[.val (.long p1), .second, .val (.long p2), .second, .val (.int (4 : Int32))]) rfl ?_
                  show Steps p.tables e below (s₁.setTop (mkF m 88 #[.val (.long p1), .second, .val (.long p2), .second, .val (.int (4 : Int32))] [])) _
                  refine XS.iload X0.here hx rfl (hb hby d3_88) rfl ?_
                  show Steps p.tables e below (s₁.setTop (mkF m 90 #[.val (.long p1), .second, .val (.long p2), .second, .val (.int (4 : Int32))] [(.int (4 : Int32))])) _
                  have ev : own_wd p1 p2 = (4 : Int32) := by first | rfl | (rw [own_wd, if_neg c3, if_neg c11, if_neg c23, if_neg c31, if_neg c45, if_pos c53, if_pos c67]; done) | (simp only [own_wd, c3, c11, c23, c31, c45, c53, c67, if_true, if_false]; done) | (simp [own_wd, c3, c11, c23, c31, c45, c53, c67]; done) | contradiction | ((unfold own_wd; repeat' split) <;> first | rfl | contradiction | (simp_all; done))
                  rw [ev] at hr
                  exact retI X0 hx Bd.returns (hb hby d3_90) hr
                · refine XS.ifNo X0.here hx rfl (hb hby d3_67) rfl ((if0 _ _).trans (flt (fun q => c67 ((lw_lt _ _).mp q))).1) ?_
                  show Steps p.tables e below (s₁.setTop (mkF m 70 #[.val (.long p1), .second, .val (.long p2), .second, .unset] [])) _
                  refine XS.lloadN X0.here hx rfl (hb hby d3_70) rfl ?_
                  show Steps p.tables e below (s₁.setTop (mkF m 71 #[.val (.long p1), .second, .val (.long p2), .second, .unset] [(.long p2)])) _
                  refine X0.ldc2J hx hown (mvT hZ (hw _ (List.mem_of_getElem? (i := 35) rfl))) rfl (hb hby d3_71) ?_
                  show Steps p.tables e below (s₁.setTop (mkF m 74 #[.val (.long p1), .second, .val (.long p2), .second, .unset] [(.long (32767 : Int64)), (.long p2)])) _
                  refine XS.lcmp X0.here hx rfl (hb hby d3_74) rfl ?_
                  show Steps p.tables e below (s₁.setTop (mkF m 75 #[.val (.long p1), .second, .val (.long p2), .second, .unset] [(.int (lcmpW p2 (32767 : Int64)))])) _
                  by_cases c75 : (32767 : Int64) < p2
                  · refine XS.ifYes X0.here hx rfl (pc0 := 75) (pc' := 85) rfl (hb hby d3_75) rfl ((if0 _ _).trans (tlt ((lw_gt _ _).mpr c75)).2.2.1) (by decide) (by decide) ?_
                    show Steps p.tables e below (s₁.setTop (mkF m 85 #[.val (.long p1), .second, .val (.long p2), .second, .unset] [])) _
                    refine XS.iconst X0.here hx rfl (hb hby d3_85) ?_
                    show Steps p.tables e below (s₁.setTop (mkF m 86 #[.val (.long p1), .second, .val (.long p2), .second, .unset] [(.int (4 : Int32))])) _
                    refine XS.istore X0.here hx rfl (hb hby d3_86) rfl (l' := #[.val (.long p1), .second, .val (.long p2), .second, .val (.int (4 : Int32))]) rfl ?_
                    show Steps p.tables e below (s₁.setTop (mkF m 88 #[.val (.long p1), .second, .val (.long p2), .second, .val (.int (4 : Int32))] [])) _
                    refine XS.iload X0.here hx rfl (hb hby d3_88) rfl ?_
                    show Steps p.tables e below (s₁.setTop (mkF m 90 #[.val (.long p1), .second, .val (.long p2), .second, .val (.int (4 : Int32))] [(.int (4 : Int32))])) _
                    have ev : own_wd p1 p2 = (4 : Int32) := by first | rfl | (rw [own_wd, if_neg c3, if_neg c11, if_neg c23, if_neg c31, if_neg c45, if_pos c53, if_neg c67, if_pos c75]; done) | (simp only [own_wd, c3, c11, c23, c31, c45, c53, c67, c75, if_true, if_false]; done) | (simp [own_wd, c3, c11, c23, c31, c45, c53, c67, c75]; done) | contradiction | ((unfold own_wd; repeat' split) <;> first | rfl | contradiction | (simp_all; done))
                    rw [ev] at hr
                    exact retI X0 hx Bd.returns (hb hby d3_90) hr
                  · refine XS.ifNo X0.here hx rfl (hb hby d3_75) rfl ((if0 _ _).trans (flt (fun q => c75 ((lw_gt _ _).mp q))).2.2.1) ?_
                    show Steps p.tables e below (s₁.setTop (mkF m 78 #[.val (.long p1), .second, .val (.long p2), .second, .unset] [])) _
                    refine XS.bipush X0.here hx rfl (hb hby d3_78) ?_
                    show Steps p.tables e below (s₁.setTop (mkF m 80 #[.val (.long p1), .second, .val (.long p2), .second, .unset] [(.int (-2 : Int32))])) _
                    refine XS.istore X0.here hx rfl (hb hby d3_80) rfl (l' := #[.val (.long p1), .second, .val (.long p2), .second, .val (.int (-2 : Int32))]) rfl ?_
                    show Steps p.tables e below (s₁.setTop (mkF m 82 #[.val (.long p1), .second, .val (.long p2), .second, .val (.int (-2 : Int32))] [])) _
                    refine XS.goto X0.here hx rfl (pc0 := 82) (pc' := 88) rfl (hb hby d3_82) (by decide) (by decide) ?_
                    show Steps p.tables e below (s₁.setTop (mkF m 88 #[.val (.long p1), .second, .val (.long p2), .second, .val (.int (-2 : Int32))] [])) _
                    refine XS.iload X0.here hx rfl (hb hby d3_88) rfl ?_
                    show Steps p.tables e below (s₁.setTop (mkF m 90 #[.val (.long p1), .second, .val (.long p2), .second, .val (.int (-2 : Int32))] [(.int (-2 : Int32))])) _
                    have ev : own_wd p1 p2 = (-2 : Int32) := by first | rfl | (rw [own_wd, if_neg c3, if_neg c11, if_neg c23, if_neg c31, if_neg c45, if_pos c53, if_neg c67, if_neg c75]; done) | (simp only [own_wd, c3, c11, c23, c31, c45, c53, c67, c75, if_true, if_false]; done) | (simp [own_wd, c3, c11, c23, c31, c45, c53, c67, c75]; done) | contradiction | ((unfold own_wd; repeat' split) <;> first | rfl | contradiction | (simp_all; done))
                    rw [ev] at hr
                    exact retI X0 hx Bd.returns (hb hby d3_90) hr
              · refine XS.ifNo X0.here hx rfl (hb hby d3_53) rfl ((if0 _ _).trans (flt (fun q => c53 ((lw_gt _ _).mp q))).2.2.1) ?_
                show Steps p.tables e below (s₁.setTop (mkF m 56 #[.val (.long p1), .second, .val (.long p2), .second, .unset] [])) _
                refine XS.iconst X0.here hx rfl (hb hby d3_56) ?_
                show Steps p.tables e below (s₁.setTop (mkF m 57 #[.val (.long p1), .second, .val (.long p2), .second, .unset] [(.int (-1 : Int32))])) _
                refine XS.istore X0.here hx rfl (hb hby d3_57) rfl (l' := #[.val (.long p1), .second, .val (.long p2), .second, .val (.int (-1 : Int32))]) rfl ?_
                show Steps p.tables e below (s₁.setTop (mkF m 59 #[.val (.long p1), .second, .val (.long p2), .second, .val (.int (-1 : Int32))] [])) _
                refine XS.goto X0.here hx rfl (pc0 := 59) (pc' := 88) rfl (hb hby d3_59) (by decide) (by decide) ?_
                show Steps p.tables e below (s₁.setTop (mkF m 88 #[.val (.long p1), .second, .val (.long p2), .second, .val (.int (-1 : Int32))] [])) _
                refine XS.iload X0.here hx rfl (hb hby d3_88) rfl ?_
                show Steps p.tables e below (s₁.setTop (mkF m 90 #[.val (.long p1), .second, .val (.long p2), .second, .val (.int (-1 : Int32))] [(.int (-1 : Int32))])) _
                have ev : own_wd p1 p2 = (-1 : Int32) := by first | rfl | (rw [own_wd, if_neg c3, if_neg c11, if_neg c23, if_neg c31, if_neg c45, if_neg c53]; done) | (simp only [own_wd, c3, c11, c23, c31, c45, c53, if_true, if_false]; done) | (simp [own_wd, c3, c11, c23, c31, c45, c53]; done) | contradiction | ((unfold own_wd; repeat' split) <;> first | rfl | contradiction | (simp_all; done))
                rw [ev] at hr
                exact retI X0 hx Bd.returns (hb hby d3_90) hr
  · show Q3 Z p1 p2 h0 n0 _ s₁.heap _
    rw [e0]
    exact ⟨rfl, N0, rfl⟩
theorem d4_0 : decode method_3_code 0 = .ok (.iload_n 0, 1) := by decide +kernel
theorem d4_1 : decode method_3_code 1 = .ok (.iconst 1, 1) := by decide +kernel
theorem d4_2 : decode method_3_code 2 = .ok (.if_icmp .eq 8, 3) := by decide +kernel
theorem d4_5 : decode method_3_code 5 = .ok (.iload_n 0, 1) := by decide +kernel
theorem d4_6 : decode method_3_code 6 = .ok (.iconst 2, 1) := by decide +kernel
theorem d4_7 : decode method_3_code 7 = .ok (.if_icmp .ne 5, 3) := by decide +kernel
theorem d4_10 : decode method_3_code 10 = .ok (.lconst 0, 1) := by decide +kernel
theorem d4_11 : decode method_3_code 11 = .ok (.lreturn, 1) := by decide +kernel
theorem d4_12 : decode method_3_code 12 = .ok (.iload_n 0, 1) := by decide +kernel
theorem d4_13 : decode method_3_code 13 = .ok (.iconst (-1), 1) := by decide +kernel
theorem d4_14 : decode method_3_code 14 = .ok (.if_icmp .ne 7, 3) := by decide +kernel
theorem d4_17 : decode method_3_code 17 = .ok (.ldc2_w 32, 3) := by decide +kernel
theorem d4_20 : decode method_3_code 20 = .ok (.lreturn, 1) := by decide +kernel
theorem d4_21 : decode method_3_code 21 = .ok (.iload_n 0, 1) := by decide +kernel
theorem d4_22 : decode method_3_code 22 = .ok (.bipush (-2), 2) := by decide +kernel
theorem d4_24 : decode method_3_code 24 = .ok (.if_icmp .ne 7, 3) := by decide +kernel
theorem d4_27 : decode method_3_code 27 = .ok (.ldc2_w 34, 3) := by decide +kernel
theorem d4_30 : decode method_3_code 30 = .ok (.lreturn, 1) := by decide +kernel
theorem d4_31 : decode method_3_code 31 = .ok (.ldc2_w 36, 3) := by decide +kernel
theorem d4_34 : decode method_3_code 34 = .ok (.lreturn, 1) := by decide +kernel
theorem pn_4 : plainName "com/example/trailgen/trailgen/promela/StateCodecWidthForPinLaw" = true := by first | (simp [plainName, overriddenIn]; done) | decide +kernel
theorem ef_4 (m : MethodId) (x0 : Int32) : entryFrame m #[(.int x0)] 1 = mkF m 0 #[.val (.int x0)] [] := by first | (simp [entryFrame, mkF, argsToLocals, Value.category]; done) | rfl
def Q4 (Z : State) (p1 : Int32) (h0 : Heap) (n0 : Nat) (v : Option Value) (h : Heap) (L : List Loc) : Prop := v = some (.long (own_lo p1)) ∧ Fr n0 L ∧ h = h0
set_option maxRecDepth 65536 in
set_option maxHeartbeats 40000000 in
theorem rm4 (l : Launch) (Z : State) (a0 : Array Value) (hw : ∀ d ∈ tables_1, d.before a0 Z = true) (ws : List Jvm.Cond) (p1 : Int32) (h0 : Heap) (n0 : Nat) (Z0 : n0 ≤ h0.size) :
    MetFree l (⟨"com/example/trailgen/trailgen/promela/StateCodecWidthForPinLaw", "lo", "(I)J"⟩ : MethodName) (head1 (Jvm.Cond.code (⟨"com/example/trailgen/trailgen/promela/StateCodecWidthForPinLaw", "lo", "(I)J"⟩ : MethodName) method_3_code 1 (some .long) :: ws) ({ frames := 0, cells := 0, slots := 0, locals := 0 } : Room)) (fun a U => a = #[(.int p1)] ∧ Z.Warmed39 U.vm ∧ U.heap = h0) (fun _ _ _ _ _ => True) (fun _ U o U' => ∃ v L, o = .returned v ∧ Q4 Z p1 h0 n0 v U'.heap L ∧ FrameEnd U o U' L (({ frames := 0, cells := 0, slots := 0, locals := 0 } : Room)).cells (({ frames := 0, cells := 0, slots := 0, locals := 0 } : Room)).slots) := by
  refine MetFree.of_bodySF (plainFor_of_name pn_4) hisR ?_
  intro p e s m args below meth c s₁ Bd hml0 hP hK
  obtain ⟨rfl, hZ, hh⟩ := hP
  have hx := Bd.exec
  have hby := Bd.bytes
  have hml : c.maxLocals = 1 := hml0
  have hown : s.vm.findClass "com/example/trailgen/trailgen/promela/StateCodecWidthForPinLaw" = some m.cls := findClass_of_methodNamed Bd.named
  have hnm := (name_of_methodNamed Bd.named Bd.method).1
  have X0 : Stand p l e ({ frames := 0, cells := 0, slots := 0, locals := 0 } : Room) s m #[(.int p1)] below meth c s₁ [] 0 0 := Stand.of_body Bd
  have e0 : s₁.heap = h0 := by rw [← hh, Bd.state]; rfl
  have N0 := Fr.nil n0
  have pre0 : ∀ t, Steps p.tables e below (s₁.setTop (mkF m 0 #[.val (.int p1)] [])) t → Steps p.tables e below (s₁.setTop (entryFrame m #[(.int p1)] 1)) t := fun t k => castTop (ef_4 m p1) k
  obtain ⟨fs, hr, hrun, hended, hW, hsame⟩ := X0.leave (v := some (.long (own_lo p1))) (fun h => by rw [Bd.returns] at h; cases h)
  refine ⟨_, _, pre0 _ ?_, hrun, hended, _, _, rfl, ?_, ⟨_, rfl⟩, hW, hsame.mono (by decide) (by decide)⟩
  · show Steps p.tables e below (s₁.setTop (mkF m 0 #[.val (.int p1)] [])) _
    refine XS.iloadN X0.here hx rfl (hb hby d4_0) rfl ?_
    show Steps p.tables e below (s₁.setTop (mkF m 1 #[.val (.int p1)] [(.int p1)])) _
    refine XS.iconst X0.here hx rfl (hb hby d4_1) ?_
    show Steps p.tables e below (s₁.setTop (mkF m 2 #[.val (.int p1)] [(.int (1 : Int32)), (.int p1)])) _
    by_cases c2 : p1 = (1 : Int32)
    · refine XS.icmpYes X0.here hx rfl (pc0 := 2) (pc' := 10) rfl (hb hby d4_2) rfl (teq c2).1 (by decide) (by decide) ?_
      show Steps p.tables e below (s₁.setTop (mkF m 10 #[.val (.int p1)] [])) _
      refine XS.lconst X0.here hx rfl (hb hby d4_10) ?_
      show Steps p.tables e below (s₁.setTop (mkF m 11 #[.val (.int p1)] [(.long (0 : Int64))])) _
      have ev : own_lo p1 = (0 : Int64) := by first | rfl | (rw [own_lo, if_pos c2]; done) | (simp only [own_lo, c2, if_true, if_false]; done) | (simp [own_lo, c2]; done) | contradiction | ((unfold own_lo; repeat' split) <;> first | rfl | contradiction | (simp_all; done))
      rw [ev] at hr
      exact X0.lreturnOut hx Bd.returns (hb hby d4_11) hr
    · refine XS.icmpNo X0.here hx rfl (hb hby d4_2) rfl (feq c2).1 ?_
      show Steps p.tables e below (s₁.setTop (mkF m 5 #[.val (.int p1)] [])) _
      refine XS.iloadN X0.here hx rfl (hb hby d4_5) rfl ?_
      show Steps p.tables e below (s₁.setTop (mkF m 6 #[.val (.int p1)] [(.int p1)])) _
      refine XS.iconst X0.here hx rfl (hb hby d4_6) ?_
      show Steps p.tables e below (s₁.setTop (mkF m 7 #[.val (.int p1)] [(.int (2 : Int32)), (.int p1)])) _
      by_cases c7 : p1 = (2 : Int32)
      · refine XS.icmpNo X0.here hx rfl (hb hby d4_7) rfl (teq c7).2 ?_
        show Steps p.tables e below (s₁.setTop (mkF m 10 #[.val (.int p1)] [])) _
        refine XS.lconst X0.here hx rfl (hb hby d4_10) ?_
        show Steps p.tables e below (s₁.setTop (mkF m 11 #[.val (.int p1)] [(.long (0 : Int64))])) _
        have ev : own_lo p1 = (0 : Int64) := by first | rfl | (rw [own_lo, if_neg c2, if_pos c7]; done) | (simp only [own_lo, c2, c7, if_true, if_false]; done) | (simp [own_lo, c2, c7]; done) | contradiction | ((unfold own_lo; repeat' split) <;> first | rfl | contradiction | (simp_all; done))
        rw [ev] at hr
        exact X0.lreturnOut hx Bd.returns (hb hby d4_11) hr
      · refine XS.icmpYes X0.here hx rfl (pc0 := 7) (pc' := 12) rfl (hb hby d4_7) rfl (feq c7).2 (by decide) (by decide) ?_
        show Steps p.tables e below (s₁.setTop (mkF m 12 #[.val (.int p1)] [])) _
        refine XS.iloadN X0.here hx rfl (hb hby d4_12) rfl ?_
        show Steps p.tables e below (s₁.setTop (mkF m 13 #[.val (.int p1)] [(.int p1)])) _
        refine XS.iconst X0.here hx rfl (hb hby d4_13) ?_
        show Steps p.tables e below (s₁.setTop (mkF m 14 #[.val (.int p1)] [(.int (-1 : Int32)), (.int p1)])) _
        by_cases c14 : p1 = (-1 : Int32)
        · refine XS.icmpNo X0.here hx rfl (hb hby d4_14) rfl (teq c14).2 ?_
          show Steps p.tables e below (s₁.setTop (mkF m 17 #[.val (.int p1)] [])) _
          refine X0.ldc2J hx hown (mvT hZ (hw _ (List.mem_of_getElem? (i := 30) rfl))) rfl (hb hby d4_17) ?_
          show Steps p.tables e below (s₁.setTop (mkF m 20 #[.val (.int p1)] [(.long (-128 : Int64))])) _
          have ev : own_lo p1 = (-128 : Int64) := by first | rfl | (rw [own_lo, if_neg c2, if_neg c7, if_pos c14]; done) | (simp only [own_lo, c2, c7, c14, if_true, if_false]; done) | (simp [own_lo, c2, c7, c14]; done) | contradiction | ((unfold own_lo; repeat' split) <;> first | rfl | contradiction | (simp_all; done))
          rw [ev] at hr
          exact X0.lreturnOut hx Bd.returns (hb hby d4_20) hr
        · refine XS.icmpYes X0.here hx rfl (pc0 := 14) (pc' := 21) rfl (hb hby d4_14) rfl (feq c14).2 (by decide) (by decide) ?_
          show Steps p.tables e below (s₁.setTop (mkF m 21 #[.val (.int p1)] [])) _
          refine XS.iloadN X0.here hx rfl (hb hby d4_21) rfl ?_
          show Steps p.tables e below (s₁.setTop (mkF m 22 #[.val (.int p1)] [(.int p1)])) _
          refine XS.bipush X0.here hx rfl (hb hby d4_22) ?_
          show Steps p.tables e below (s₁.setTop (mkF m 24 #[.val (.int p1)] [(.int (-2 : Int32)), (.int p1)])) _
          by_cases c24 : p1 = (-2 : Int32)
          · refine XS.icmpNo X0.here hx rfl (hb hby d4_24) rfl (teq c24).2 ?_
            show Steps p.tables e below (s₁.setTop (mkF m 27 #[.val (.int p1)] [])) _
            refine X0.ldc2J hx hown (mvT hZ (hw _ (List.mem_of_getElem? (i := 31) rfl))) rfl (hb hby d4_27) ?_
            show Steps p.tables e below (s₁.setTop (mkF m 30 #[.val (.int p1)] [(.long (-32768 : Int64))])) _
            have ev : own_lo p1 = (-32768 : Int64) := by first | rfl | (rw [own_lo, if_neg c2, if_neg c7, if_neg c14, if_pos c24]; done) | (simp only [own_lo, c2, c7, c14, c24, if_true, if_false]; done) | (simp [own_lo, c2, c7, c14, c24]; done) | contradiction | ((unfold own_lo; repeat' split) <;> first | rfl | contradiction | (simp_all; done))
            rw [ev] at hr
            exact X0.lreturnOut hx Bd.returns (hb hby d4_30) hr
          · refine XS.icmpYes X0.here hx rfl (pc0 := 24) (pc' := 31) rfl (hb hby d4_24) rfl (feq c24).2 (by decide) (by decide) ?_
            show Steps p.tables e below (s₁.setTop (mkF m 31 #[.val (.int p1)] [])) _
            refine X0.ldc2J hx hown (mvT hZ (hw _ (List.mem_of_getElem? (i := 28) rfl))) rfl (hb hby d4_31) ?_
            show Steps p.tables e below (s₁.setTop (mkF m 34 #[.val (.int p1)] [(.long (-2147483648 : Int64))])) _
            have ev : own_lo p1 = (-2147483648 : Int64) := by first | rfl | (rw [own_lo, if_neg c2, if_neg c7, if_neg c14, if_neg c24]; done) | (simp only [own_lo, c2, c7, c14, c24, if_true, if_false]; done) | (simp [own_lo, c2, c7, c14, c24]; done) | contradiction | ((unfold own_lo; repeat' split) <;> first | rfl | contradiction | (simp_all; done))
            rw [ev] at hr
            exact X0.lreturnOut hx Bd.returns (hb hby d4_34) hr
  · show Q4 Z p1 h0 n0 _ s₁.heap _
    rw [e0]
    exact ⟨rfl, N0, rfl⟩
theorem d5_0 : decode method_4_code 0 = .ok (.iload_n 0, 1) := by decide +kernel
theorem d5_1 : decode method_4_code 1 = .ok (.iconst 1, 1) := by decide +kernel
theorem d5_2 : decode method_4_code 2 = .ok (.if_icmp .ne 7, 3) := by decide +kernel
theorem d5_5 : decode method_4_code 5 = .ok (.ldc2_w 38, 3) := by decide +kernel
theorem d5_8 : decode method_4_code 8 = .ok (.lreturn, 1) := by decide +kernel
theorem d5_9 : decode method_4_code 9 = .ok (.iload_n 0, 1) := by decide +kernel
theorem d5_10 : decode method_4_code 10 = .ok (.iconst 2, 1) := by decide +kernel
theorem d5_11 : decode method_4_code 11 = .ok (.if_icmp .ne 7, 3) := by decide +kernel
theorem d5_14 : decode method_4_code 14 = .ok (.ldc2_w 40, 3) := by decide +kernel
theorem d5_17 : decode method_4_code 17 = .ok (.lreturn, 1) := by decide +kernel
theorem d5_18 : decode method_4_code 18 = .ok (.iload_n 0, 1) := by decide +kernel
theorem d5_19 : decode method_4_code 19 = .ok (.iconst (-1), 1) := by decide +kernel
theorem d5_20 : decode method_4_code 20 = .ok (.if_icmp .ne 7, 3) := by decide +kernel
theorem d5_23 : decode method_4_code 23 = .ok (.ldc2_w 42, 3) := by decide +kernel
theorem d5_26 : decode method_4_code 26 = .ok (.lreturn, 1) := by decide +kernel
theorem d5_27 : decode method_4_code 27 = .ok (.iload_n 0, 1) := by decide +kernel
theorem d5_28 : decode method_4_code 28 = .ok (.bipush (-2), 2) := by decide +kernel
theorem d5_30 : decode method_4_code 30 = .ok (.if_icmp .ne 7, 3) := by decide +kernel
theorem d5_33 : decode method_4_code 33 = .ok (.ldc2_w 44, 3) := by decide +kernel
theorem d5_36 : decode method_4_code 36 = .ok (.lreturn, 1) := by decide +kernel
theorem d5_37 : decode method_4_code 37 = .ok (.ldc2_w 46, 3) := by decide +kernel
theorem d5_40 : decode method_4_code 40 = .ok (.lreturn, 1) := by decide +kernel
theorem pn_5 : plainName "com/example/trailgen/trailgen/promela/StateCodecWidthForPinLaw" = true := by first | (simp [plainName, overriddenIn]; done) | decide +kernel
theorem ef_5 (m : MethodId) (x0 : Int32) : entryFrame m #[(.int x0)] 1 = mkF m 0 #[.val (.int x0)] [] := by first | (simp [entryFrame, mkF, argsToLocals, Value.category]; done) | rfl
def Q5 (Z : State) (p1 : Int32) (h0 : Heap) (n0 : Nat) (v : Option Value) (h : Heap) (L : List Loc) : Prop := v = some (.long (own_hi p1)) ∧ Fr n0 L ∧ h = h0
set_option maxRecDepth 65536 in
set_option maxHeartbeats 40000000 in
theorem rm5 (l : Launch) (Z : State) (a0 : Array Value) (hw : ∀ d ∈ tables_1, d.before a0 Z = true) (ws : List Jvm.Cond) (p1 : Int32) (h0 : Heap) (n0 : Nat) (Z0 : n0 ≤ h0.size) :
    MetFree l (⟨"com/example/trailgen/trailgen/promela/StateCodecWidthForPinLaw", "hi", "(I)J"⟩ : MethodName) (head1 (Jvm.Cond.code (⟨"com/example/trailgen/trailgen/promela/StateCodecWidthForPinLaw", "hi", "(I)J"⟩ : MethodName) method_4_code 1 (some .long) :: ws) ({ frames := 0, cells := 0, slots := 0, locals := 0 } : Room)) (fun a U => a = #[(.int p1)] ∧ Z.Warmed39 U.vm ∧ U.heap = h0) (fun _ _ _ _ _ => True) (fun _ U o U' => ∃ v L, o = .returned v ∧ Q5 Z p1 h0 n0 v U'.heap L ∧ FrameEnd U o U' L (({ frames := 0, cells := 0, slots := 0, locals := 0 } : Room)).cells (({ frames := 0, cells := 0, slots := 0, locals := 0 } : Room)).slots) := by
  refine MetFree.of_bodySF (plainFor_of_name pn_5) hisR ?_
  intro p e s m args below meth c s₁ Bd hml0 hP hK
  obtain ⟨rfl, hZ, hh⟩ := hP
  have hx := Bd.exec
  have hby := Bd.bytes
  have hml : c.maxLocals = 1 := hml0
  have hown : s.vm.findClass "com/example/trailgen/trailgen/promela/StateCodecWidthForPinLaw" = some m.cls := findClass_of_methodNamed Bd.named
  have hnm := (name_of_methodNamed Bd.named Bd.method).1
  have X0 : Stand p l e ({ frames := 0, cells := 0, slots := 0, locals := 0 } : Room) s m #[(.int p1)] below meth c s₁ [] 0 0 := Stand.of_body Bd
  have e0 : s₁.heap = h0 := by rw [← hh, Bd.state]; rfl
  have N0 := Fr.nil n0
  have pre0 : ∀ t, Steps p.tables e below (s₁.setTop (mkF m 0 #[.val (.int p1)] [])) t → Steps p.tables e below (s₁.setTop (entryFrame m #[(.int p1)] 1)) t := fun t k => castTop (ef_5 m p1) k
  obtain ⟨fs, hr, hrun, hended, hW, hsame⟩ := X0.leave (v := some (.long (own_hi p1))) (fun h => by rw [Bd.returns] at h; cases h)
  refine ⟨_, _, pre0 _ ?_, hrun, hended, _, _, rfl, ?_, ⟨_, rfl⟩, hW, hsame.mono (by decide) (by decide)⟩
  · show Steps p.tables e below (s₁.setTop (mkF m 0 #[.val (.int p1)] [])) _
    refine XS.iloadN X0.here hx rfl (hb hby d5_0) rfl ?_
    show Steps p.tables e below (s₁.setTop (mkF m 1 #[.val (.int p1)] [(.int p1)])) _
    refine XS.iconst X0.here hx rfl (hb hby d5_1) ?_
    show Steps p.tables e below (s₁.setTop (mkF m 2 #[.val (.int p1)] [(.int (1 : Int32)), (.int p1)])) _
    by_cases c2 : p1 = (1 : Int32)
    · refine XS.icmpNo X0.here hx rfl (hb hby d5_2) rfl (teq c2).2 ?_
      show Steps p.tables e below (s₁.setTop (mkF m 5 #[.val (.int p1)] [])) _
      refine X0.ldc2J hx hown (mvT hZ (hw _ (List.mem_of_getElem? (i := 22) rfl))) rfl (hb hby d5_5) ?_
      show Steps p.tables e below (s₁.setTop (mkF m 8 #[.val (.int p1)] [(.long (255 : Int64))])) _
      have ev : own_hi p1 = (255 : Int64) := by first | rfl | (rw [own_hi, if_pos c2]; done) | (simp only [own_hi, c2, if_true, if_false]; done) | (simp [own_hi, c2]; done) | contradiction | ((unfold own_hi; repeat' split) <;> first | rfl | contradiction | (simp_all; done))
      rw [ev] at hr
      exact X0.lreturnOut hx Bd.returns (hb hby d5_8) hr
    · refine XS.icmpYes X0.here hx rfl (pc0 := 2) (pc' := 9) rfl (hb hby d5_2) rfl (feq c2).2 (by decide) (by decide) ?_
      show Steps p.tables e below (s₁.setTop (mkF m 9 #[.val (.int p1)] [])) _
      refine XS.iloadN X0.here hx rfl (hb hby d5_9) rfl ?_
      show Steps p.tables e below (s₁.setTop (mkF m 10 #[.val (.int p1)] [(.int p1)])) _
      refine XS.iconst X0.here hx rfl (hb hby d5_10) ?_
      show Steps p.tables e below (s₁.setTop (mkF m 11 #[.val (.int p1)] [(.int (2 : Int32)), (.int p1)])) _
      by_cases c11 : p1 = (2 : Int32)
      · refine XS.icmpNo X0.here hx rfl (hb hby d5_11) rfl (teq c11).2 ?_
        show Steps p.tables e below (s₁.setTop (mkF m 14 #[.val (.int p1)] [])) _
        refine X0.ldc2J hx hown (mvT hZ (hw _ (List.mem_of_getElem? (i := 36) rfl))) rfl (hb hby d5_14) ?_
        show Steps p.tables e below (s₁.setTop (mkF m 17 #[.val (.int p1)] [(.long (65535 : Int64))])) _
        have ev : own_hi p1 = (65535 : Int64) := by first | rfl | (rw [own_hi, if_neg c2, if_pos c11]; done) | (simp only [own_hi, c2, c11, if_true, if_false]; done) | (simp [own_hi, c2, c11]; done) | contradiction | ((unfold own_hi; repeat' split) <;> first | rfl | contradiction | (simp_all; done))
        rw [ev] at hr
        exact X0.lreturnOut hx Bd.returns (hb hby d5_17) hr
      · refine XS.icmpYes X0.here hx rfl (pc0 := 11) (pc' := 18) rfl (hb hby d5_11) rfl (feq c11).2 (by decide) (by decide) ?_
        show Steps p.tables e below (s₁.setTop (mkF m 18 #[.val (.int p1)] [])) _
        refine XS.iloadN X0.here hx rfl (hb hby d5_18) rfl ?_
        show Steps p.tables e below (s₁.setTop (mkF m 19 #[.val (.int p1)] [(.int p1)])) _
        refine XS.iconst X0.here hx rfl (hb hby d5_19) ?_
        show Steps p.tables e below (s₁.setTop (mkF m 20 #[.val (.int p1)] [(.int (-1 : Int32)), (.int p1)])) _
        by_cases c20 : p1 = (-1 : Int32)
        · refine XS.icmpNo X0.here hx rfl (hb hby d5_20) rfl (teq c20).2 ?_
          show Steps p.tables e below (s₁.setTop (mkF m 23 #[.val (.int p1)] [])) _
          refine X0.ldc2J hx hown (mvT hZ (hw _ (List.mem_of_getElem? (i := 33) rfl))) rfl (hb hby d5_23) ?_
          show Steps p.tables e below (s₁.setTop (mkF m 26 #[.val (.int p1)] [(.long (127 : Int64))])) _
          have ev : own_hi p1 = (127 : Int64) := by first | rfl | (rw [own_hi, if_neg c2, if_neg c11, if_pos c20]; done) | (simp only [own_hi, c2, c11, c20, if_true, if_false]; done) | (simp [own_hi, c2, c11, c20]; done) | contradiction | ((unfold own_hi; repeat' split) <;> first | rfl | contradiction | (simp_all; done))
          rw [ev] at hr
          exact X0.lreturnOut hx Bd.returns (hb hby d5_26) hr
        · refine XS.icmpYes X0.here hx rfl (pc0 := 20) (pc' := 27) rfl (hb hby d5_20) rfl (feq c20).2 (by decide) (by decide) ?_
          show Steps p.tables e below (s₁.setTop (mkF m 27 #[.val (.int p1)] [])) _
          refine XS.iloadN X0.here hx rfl (hb hby d5_27) rfl ?_
          show Steps p.tables e below (s₁.setTop (mkF m 28 #[.val (.int p1)] [(.int p1)])) _
          refine XS.bipush X0.here hx rfl (hb hby d5_28) ?_
          show Steps p.tables e below (s₁.setTop (mkF m 30 #[.val (.int p1)] [(.int (-2 : Int32)), (.int p1)])) _
          by_cases c30 : p1 = (-2 : Int32)
          · refine XS.icmpNo X0.here hx rfl (hb hby d5_30) rfl (teq c30).2 ?_
            show Steps p.tables e below (s₁.setTop (mkF m 33 #[.val (.int p1)] [])) _
            refine X0.ldc2J hx hown (mvT hZ (hw _ (List.mem_of_getElem? (i := 37) rfl))) rfl (hb hby d5_33) ?_
            show Steps p.tables e below (s₁.setTop (mkF m 36 #[.val (.int p1)] [(.long (32767 : Int64))])) _
            have ev : own_hi p1 = (32767 : Int64) := by first | rfl | (rw [own_hi, if_neg c2, if_neg c11, if_neg c20, if_pos c30]; done) | (simp only [own_hi, c2, c11, c20, c30, if_true, if_false]; done) | (simp [own_hi, c2, c11, c20, c30]; done) | contradiction | ((unfold own_hi; repeat' split) <;> first | rfl | contradiction | (simp_all; done))
            rw [ev] at hr
            exact X0.lreturnOut hx Bd.returns (hb hby d5_36) hr
          · refine XS.icmpYes X0.here hx rfl (pc0 := 30) (pc' := 37) rfl (hb hby d5_30) rfl (feq c30).2 (by decide) (by decide) ?_
            show Steps p.tables e below (s₁.setTop (mkF m 37 #[.val (.int p1)] [])) _
            refine X0.ldc2J hx hown (mvT hZ (hw _ (List.mem_of_getElem? (i := 29) rfl))) rfl (hb hby d5_37) ?_
            show Steps p.tables e below (s₁.setTop (mkF m 40 #[.val (.int p1)] [(.long (2147483647 : Int64))])) _
            have ev : own_hi p1 = (2147483647 : Int64) := by first | rfl | (rw [own_hi, if_neg c2, if_neg c11, if_neg c20, if_neg c30]; done) | (simp only [own_hi, c2, c11, c20, c30, if_true, if_false]; done) | (simp [own_hi, c2, c11, c20, c30]; done) | contradiction | ((unfold own_hi; repeat' split) <;> first | rfl | contradiction | (simp_all; done))
            rw [ev] at hr
            exact X0.lreturnOut hx Bd.returns (hb hby d5_40) hr
  · show Q5 Z p1 h0 n0 _ s₁.heap _
    rw [e0]
    exact ⟨rfl, N0, rfl⟩
theorem d6_0 : decode jdk_29_method_59_code 0 = .ok (.iload_n 0, 1) := by decide +kernel
theorem d6_1 : decode jdk_29_method_59_code 1 = .ok (.ifCond .ge 8, 3) := by decide +kernel
theorem d6_4 : decode jdk_29_method_59_code 4 = .ok (.iload_n 0, 1) := by decide +kernel
theorem d6_5 : decode jdk_29_method_59_code 5 = .ok (.ineg, 1) := by decide +kernel
theorem d6_6 : decode jdk_29_method_59_code 6 = .ok (.goto 4, 3) := by decide +kernel
theorem d6_9 : decode jdk_29_method_59_code 9 = .ok (.iload_n 0, 1) := by decide +kernel
theorem d6_10 : decode jdk_29_method_59_code 10 = .ok (.ireturn, 1) := by decide +kernel
theorem ef_6 (m : MethodId) (x0 : Int32) : entryFrame m #[(.int x0)] 1 = mkF m 0 #[.val (.int x0)] [] := by first | (simp [entryFrame, mkF, argsToLocals, Value.category]; done) | rfl
def Q6 (Z : State) (p1 : Int32) (h0 : Heap) (n0 : Nat) (v : Option Value) (h : Heap) (L : List Loc) : Prop := v = some (.int (own_abs p1)) ∧ Fr n0 L ∧ h = h0
set_option maxRecDepth 65536 in
set_option maxHeartbeats 40000000 in
theorem rm6 (l : Launch) (Z : State) (a0 : Array Value) (hw : ∀ d ∈ tables_1, d.before a0 Z = true) (ws : List Jvm.Cond) (p1 : Int32) (h0 : Heap) (n0 : Nat) (Z0 : n0 ≤ h0.size) :
    MetFree l (⟨"java/lang/Math", "abs", "(I)I"⟩ : MethodName) (head1 (Jvm.Cond.code (⟨"java/lang/Math", "abs", "(I)I"⟩ : MethodName) jdk_29_method_59_code 1 (some .int) :: ws) ({ frames := 0, cells := 0, slots := 0, locals := 0 } : Room)) (fun a U => a = #[(.int p1)] ∧ Z.Warmed39 U.vm ∧ U.heap = h0) (fun _ _ _ _ _ => True) (fun _ U o U' => ∃ v L, o = .returned v ∧ Q6 Z p1 h0 n0 v U'.heap L ∧ FrameEnd U o U' L (({ frames := 0, cells := 0, slots := 0, locals := 0 } : Room)).cells (({ frames := 0, cells := 0, slots := 0, locals := 0 } : Room)).slots) := by
  refine MetFree.of_bodySF (Jvm.Free.JP.mathPlain rfl (by decide)) hisR ?_
  intro p e s m args below meth c s₁ Bd hml0 hP hK
  obtain ⟨rfl, hZ, hh⟩ := hP
  have hx := Bd.exec
  have hby := Bd.bytes
  have hml : c.maxLocals = 1 := hml0
  have hown : s.vm.findClass "java/lang/Math" = some m.cls := findClass_of_methodNamed Bd.named
  have hnm := (name_of_methodNamed Bd.named Bd.method).1
  have X0 : Stand p l e ({ frames := 0, cells := 0, slots := 0, locals := 0 } : Room) s m #[(.int p1)] below meth c s₁ [] 0 0 := Stand.of_body Bd
  have e0 : s₁.heap = h0 := by rw [← hh, Bd.state]; rfl
  have N0 := Fr.nil n0
  have pre0 : ∀ t, Steps p.tables e below (s₁.setTop (mkF m 0 #[.val (.int p1)] [])) t → Steps p.tables e below (s₁.setTop (entryFrame m #[(.int p1)] 1)) t := fun t k => castTop (ef_6 m p1) k
  obtain ⟨fs, hr, hrun, hended, hW, hsame⟩ := X0.leave (v := some (.int (own_abs p1))) (fun h => by rw [Bd.returns] at h; cases h)
  refine ⟨_, _, pre0 _ ?_, hrun, hended, _, _, rfl, ?_, ⟨_, rfl⟩, hW, hsame.mono (by decide) (by decide)⟩
  · show Steps p.tables e below (s₁.setTop (mkF m 0 #[.val (.int p1)] [])) _
    refine XS.iloadN X0.here hx rfl (hb hby d6_0) rfl ?_
    show Steps p.tables e below (s₁.setTop (mkF m 1 #[.val (.int p1)] [(.int p1)])) _
    by_cases c1 : p1 < (0 : Int32)
    · refine XS.ifNo X0.here hx rfl (hb hby d6_1) rfl ((if0 _ _).trans (tlt c1).2.1) ?_
      show Steps p.tables e below (s₁.setTop (mkF m 4 #[.val (.int p1)] [])) _
      refine XS.iloadN X0.here hx rfl (hb hby d6_4) rfl ?_
      show Steps p.tables e below (s₁.setTop (mkF m 5 #[.val (.int p1)] [(.int p1)])) _
      refine XS.ineg X0.here hx rfl (hb hby d6_5) rfl ?_
      show Steps p.tables e below (s₁.setTop (mkF m 6 #[.val (.int p1)] [(.int (-p1))])) _
      refine XS.goto X0.here hx rfl (pc0 := 6) (pc' := 10) rfl (hb hby d6_6) (by decide) (by decide) ?_
      show Steps p.tables e below (s₁.setTop (mkF m 10 #[.val (.int p1)] [(.int (-p1))])) _
      have ev : own_abs p1 = (-p1) := by first | rfl | (rw [own_abs, if_pos c1]; done) | (simp only [own_abs, c1, if_true, if_false]; done) | (simp [own_abs, c1]; done) | contradiction | ((unfold own_abs; repeat' split) <;> first | rfl | contradiction | (simp_all; done))
      rw [ev] at hr
      exact retI X0 hx Bd.returns (hb hby d6_10) hr
    · refine XS.ifYes X0.here hx rfl (pc0 := 1) (pc' := 9) rfl (hb hby d6_1) rfl ((if0 _ _).trans (flt c1).2.1) (by decide) (by decide) ?_
      show Steps p.tables e below (s₁.setTop (mkF m 9 #[.val (.int p1)] [])) _
      refine XS.iloadN X0.here hx rfl (hb hby d6_9) rfl ?_
      show Steps p.tables e below (s₁.setTop (mkF m 10 #[.val (.int p1)] [(.int p1)])) _
      have ev : own_abs p1 = p1 := by first | rfl | (rw [own_abs, if_neg c1]; done) | (simp only [own_abs, c1, if_true, if_false]; done) | (simp [own_abs, c1]; done) | contradiction | ((unfold own_abs; repeat' split) <;> first | rfl | contradiction | (simp_all; done))
      rw [ev] at hr
      exact retI X0 hx Bd.returns (hb hby d6_10) hr
  · show Q6 Z p1 h0 n0 _ s₁.heap _
    rw [e0]
    exact ⟨rfl, N0, rfl⟩
theorem pd_lo : parseMethodDescriptor "(I)J" = some ⟨[.int], some .long⟩ := by decide +kernel
theorem pd_mm : parseMethodDescriptor "(II)I" = some ⟨[.int, .int], some .int⟩ := by decide +kernel
theorem pd_wd : parseMethodDescriptor "(JJ)I" = some ⟨[.long, .long], some .int⟩ := by decide +kernel
theorem pd_ho : parseMethodDescriptor "(IJJ)Z" = some ⟨[.int, .long, .long], some .boolean⟩ := by decide +kernel
theorem pd_ab : parseMethodDescriptor "(I)I" = some ⟨[.int], some .int⟩ := by decide +kernel
theorem d7_0 : decode method_5_code 0 = .ok (.iload_n 0, 1) := by decide +kernel
theorem d7_1 : decode method_5_code 1 = .ok (.invokestatic 48, 3) := by decide +kernel
theorem d7_4 : decode method_5_code 4 = .ok (.lload_n 1, 1) := by decide +kernel
theorem d7_5 : decode method_5_code 5 = .ok (.lcmp, 1) := by decide +kernel
theorem d7_6 : decode method_5_code 6 = .ok (.ifCond .gt 16, 3) := by decide +kernel
theorem d7_9 : decode method_5_code 9 = .ok (.lload_n 3, 1) := by decide +kernel
theorem d7_10 : decode method_5_code 10 = .ok (.iload_n 0, 1) := by decide +kernel
theorem d7_11 : decode method_5_code 11 = .ok (.invokestatic 52, 3) := by decide +kernel
theorem d7_14 : decode method_5_code 14 = .ok (.lcmp, 1) := by decide +kernel
theorem d7_15 : decode method_5_code 15 = .ok (.ifCond .gt 7, 3) := by decide +kernel
theorem d7_18 : decode method_5_code 18 = .ok (.iconst 1, 1) := by decide +kernel
theorem d7_19 : decode method_5_code 19 = .ok (.goto 4, 3) := by decide +kernel
theorem d7_22 : decode method_5_code 22 = .ok (.iconst 0, 1) := by decide +kernel
theorem d7_23 : decode method_5_code 23 = .ok (.ireturn, 1) := by decide +kernel
theorem pn_7 : plainName "com/example/trailgen/trailgen/promela/StateCodecWidthForPinLaw" = true := by first | (simp [plainName, overriddenIn]; done) | decide +kernel
theorem ef_7 (m : MethodId) (x0 : Int32) (x1 : Int64) (x2 : Int64) : entryFrame m #[(.int x0), (.long x1), (.long x2)] 5 = mkF m 0 #[.val (.int x0), .val (.long x1), .second, .val (.long x2), .second] [] := by first | (simp [entryFrame, mkF, argsToLocals, Value.category]; done) | rfl
def Q7 (Z : State) (p1 : Int32) (p2 : Int64) (p3 : Int64) (h0 : Heap) (n0 : Nat) (v : Option Value) (h : Heap) (L : List Loc) : Prop := v = some (.int (own_ho p1 p2 p3)) ∧ Fr n0 L ∧ h = h0
set_option maxRecDepth 65536 in
set_option maxHeartbeats 40000000 in
theorem rm7 (l : Launch) (Z : State) (a0 : Array Value) (hw : ∀ d ∈ tables_1, d.before a0 Z = true) (ws : List Jvm.Cond) (p1 : Int32) (p2 : Int64) (p3 : Int64) (h0 : Heap) (n0 : Nat) (Z0 : n0 ≤ h0.size) :
    MetFree l (⟨"com/example/trailgen/trailgen/promela/StateCodecWidthForPinLaw", "holds", "(IJJ)Z"⟩ : MethodName) (head1 (Jvm.Cond.code (⟨"com/example/trailgen/trailgen/promela/StateCodecWidthForPinLaw", "holds", "(IJJ)Z"⟩ : MethodName) method_5_code 5 (some .boolean) :: ws) ({ frames := 1, cells := 0, slots := 0, locals := 16 } : Room)) (fun a U => a = #[(.int p1), (.long p2), (.long p3)] ∧ Z.Warmed39 U.vm ∧ U.heap = h0) (fun _ _ _ _ _ => True) (fun _ U o U' => ∃ v L, o = .returned v ∧ Q7 Z p1 p2 p3 h0 n0 v U'.heap L ∧ FrameEnd U o U' L (({ frames := 1, cells := 0, slots := 0, locals := 16 } : Room)).cells (({ frames := 1, cells := 0, slots := 0, locals := 16 } : Room)).slots) := by
  refine MetFree.of_bodySF (plainFor_of_name pn_7) hisR ?_
  intro p e s m args below meth c s₁ Bd hml0 hP hK
  obtain ⟨rfl, hZ, hh⟩ := hP
  have hx := Bd.exec
  have hby := Bd.bytes
  have hml : c.maxLocals = 5 := hml0
  have hown : s.vm.findClass "com/example/trailgen/trailgen/promela/StateCodecWidthForPinLaw" = some m.cls := findClass_of_methodNamed Bd.named
  have hnm := (name_of_methodNamed Bd.named Bd.method).1
  have X0 : Stand p l e ({ frames := 1, cells := 0, slots := 0, locals := 16 } : Room) s m #[(.int p1), (.long p2), (.long p3)] below meth c s₁ [] 0 0 := Stand.of_body Bd
  have e0 : s₁.heap = h0 := by rw [← hh, Bd.state]; rfl
  have N0 := Fr.nil n0
  have pre0 : ∀ t, Steps p.tables e below (s₁.setTop (mkF m 0 #[.val (.int p1), .val (.long p2), .second, .val (.long p3), .second] [])) t → Steps p.tables e below (s₁.setTop (entryFrame m #[(.int p1), (.long p2), (.long p3)] 5)) t := fun t k => castTop (ef_7 m p1 p2 p3) k
  obtain ⟨_, _, ⟨T1, L1, k1, n1⟩, -, X1, ⟨Lc1, hQ1, l1, y1, z1⟩, st1⟩ := Jvm.LawKit.callS X0 hx (y := (⟨"com/example/trailgen/trailgen/promela/StateCodecWidthForPinLaw", "lo", "(I)J"⟩ : MethodName)) hown (mvT hZ (hw _ (List.mem_of_getElem? (i := 16) rfl))) (mvT hZ (hw _ (List.mem_of_getElem? (i := 17) rfl))) (mvT hZ (hw _ (List.mem_of_getElem? (i := 14) rfl))) (mvT hZ (hw _ (List.mem_of_getElem? (i := 18) rfl))) (by decide) (backOf (W := 0) (rm4 l Z a0 hw [] p1 h0 n0 Z0) hZ (hw _ (List.mem_of_getElem? (i := 18) rfl)) (hw _ (List.mem_of_getElem? (i := 14) rfl)) (by decide) (by decide)) (g := (mkF m 1 #[.val (.int p1), .val (.long p2), .second, .val (.long p3), .second] [(.int p1)])) rfl (by rw [hml]; rfl) (argsL := [(.int p1)]) (rest := []) (lenOf pd_lo rfl) rfl (by show 2 * 0 + _ ≤ _; exact Nat.le_of_eq rfl) (hb hby d7_1) (fun _ _ => ⟨rfl, e0, (by decide : 0 + 0 ≤ _), (by decide : 0 + 0 ≤ _)⟩)
  dsimp only [Pt.U, Pt.locs, Pt.cells, Pt.slots] at X1 l1 y1 z1 st1 hQ1
  subst l1 y1 z1
  obtain ⟨rfl, N1q, e1⟩ := hQ1
  have N1 := Fr.app N0 N1q
  by_cases c6 : p2 < own_lo p1
  · have ev : own_ho p1 p2 p3 = 0 := by simp [own_ho, c6]
    obtain ⟨fs, hr, hrun, hended, hW, hsame⟩ := X1.leave (v := some (.int (0 : Int32))) (fun h => by rw [Bd.returns] at h; cases h)
    refine ⟨_, _, pre0 _ ?_, hrun, hended, _, _, rfl, ?_, ⟨_, rfl⟩, hW, hsame.mono (by decide) (by decide)⟩
    · show Steps p.tables e below (s₁.setTop (mkF m 0 #[.val (.int p1), .val (.long p2), .second, .val (.long p3), .second] [])) _
      refine XS.iloadN X0.here hx rfl (hb hby d7_0) rfl ?_
      show Steps p.tables e below (s₁.setTop (mkF m 1 #[.val (.int p1), .val (.long p2), .second, .val (.long p3), .second] [(.int p1)])) _
      refine st1 _ ?_
      show Steps p.tables e below (T1.setTop (mkF m 4 #[.val (.int p1), .val (.long p2), .second, .val (.long p3), .second] [(.long (own_lo p1))])) _
      refine XS.lloadN X1.here hx rfl (hb hby d7_4) rfl ?_
      show Steps p.tables e below (T1.setTop (mkF m 5 #[.val (.int p1), .val (.long p2), .second, .val (.long p3), .second] [(.long p2), (.long (own_lo p1))])) _
      refine XS.lcmp X1.here hx rfl (hb hby d7_5) rfl ?_
      show Steps p.tables e below (T1.setTop (mkF m 6 #[.val (.int p1), .val (.long p2), .second, .val (.long p3), .second] [(.int (lcmpW (own_lo p1) p2))])) _
      refine XS.ifYes X1.here hx rfl (pc0 := 6) (pc' := 22) rfl (hb hby d7_6) rfl ((if0 _ _).trans (tlt ((lw_gt _ _).mpr c6)).2.2.1) (by decide) (by decide) ?_
      show Steps p.tables e below (T1.setTop (mkF m 22 #[.val (.int p1), .val (.long p2), .second, .val (.long p3), .second] [])) _
      refine XS.iconst X1.here hx rfl (hb hby d7_22) ?_
      show Steps p.tables e below (T1.setTop (mkF m 23 #[.val (.int p1), .val (.long p2), .second, .val (.long p3), .second] [(.int (0 : Int32))])) _
      exact retN X1 hx (t := .boolean) Bd.returns (by simp) (hb hby d7_23) hr
    · show Q7 Z p1 p2 p3 h0 n0 _ T1.heap _
      exact ⟨by rw [ev], N1, e1⟩
  · obtain ⟨_, _, ⟨T2, L2, k2, n2⟩, -, X2, ⟨Lc2, hQ2, l2, y2, z2⟩, st2⟩ := Jvm.LawKit.callS X1 hx (y := (⟨"com/example/trailgen/trailgen/promela/StateCodecWidthForPinLaw", "hi", "(I)J"⟩ : MethodName)) hown (mvT hZ (hw _ (List.mem_of_getElem? (i := 19) rfl))) (mvT hZ (hw _ (List.mem_of_getElem? (i := 20) rfl))) (mvT hZ (hw _ (List.mem_of_getElem? (i := 14) rfl))) (mvT hZ (hw _ (List.mem_of_getElem? (i := 21) rfl))) (by decide) (backOf (W := 2) (rm5 l Z a0 hw [] p1 h0 n0 Z0) hZ (hw _ (List.mem_of_getElem? (i := 21) rfl)) (hw _ (List.mem_of_getElem? (i := 14) rfl)) (by decide) (by decide)) (g := (mkF m 11 #[.val (.int p1), .val (.long p2), .second, .val (.long p3), .second] [(.int p1), (.long p3)])) rfl (by rw [hml]; rfl) (argsL := [(.int p1)]) (rest := [(.long p3)]) (lenOf pd_lo rfl) rfl (by show 2 * 0 + _ ≤ _; exact Nat.le_of_eq rfl) (hb hby d7_11) (fun _ _ => ⟨rfl, e1, (by decide : 0 + 0 ≤ _), (by decide : 0 + 0 ≤ _)⟩)
    dsimp only [Pt.U, Pt.locs, Pt.cells, Pt.slots] at X2 l2 y2 z2 st2 hQ2
    subst l2 y2 z2
    obtain ⟨rfl, N2q, e2⟩ := hQ2
    have N2 := Fr.app N1 N2q
    by_cases c15 : own_hi p1 < p3
    · have ev : own_ho p1 p2 p3 = (0 : Int32) := by simp [own_ho, c6, c15]
      obtain ⟨fs, hr, hrun, hended, hW, hsame⟩ := X2.leave (v := some (.int (0 : Int32))) (fun h => by rw [Bd.returns] at h; cases h)
      refine ⟨_, _, pre0 _ ?_, hrun, hended, _, _, rfl, ?_, ⟨_, rfl⟩, hW, hsame.mono (by decide) (by decide)⟩
      · show Steps p.tables e below (s₁.setTop (mkF m 0 #[.val (.int p1), .val (.long p2), .second, .val (.long p3), .second] [])) _
        refine XS.iloadN X0.here hx rfl (hb hby d7_0) rfl ?_
        show Steps p.tables e below (s₁.setTop (mkF m 1 #[.val (.int p1), .val (.long p2), .second, .val (.long p3), .second] [(.int p1)])) _
        refine st1 _ ?_
        show Steps p.tables e below (T1.setTop (mkF m 4 #[.val (.int p1), .val (.long p2), .second, .val (.long p3), .second] [(.long (own_lo p1))])) _
        refine XS.lloadN X1.here hx rfl (hb hby d7_4) rfl ?_
        show Steps p.tables e below (T1.setTop (mkF m 5 #[.val (.int p1), .val (.long p2), .second, .val (.long p3), .second] [(.long p2), (.long (own_lo p1))])) _
        refine XS.lcmp X1.here hx rfl (hb hby d7_5) rfl ?_
        show Steps p.tables e below (T1.setTop (mkF m 6 #[.val (.int p1), .val (.long p2), .second, .val (.long p3), .second] [(.int (lcmpW (own_lo p1) p2))])) _
        refine XS.ifNo X1.here hx rfl (hb hby d7_6) rfl ((if0 _ _).trans (flt (fun q => c6 ((lw_gt _ _).mp q))).2.2.1) ?_
        show Steps p.tables e below (T1.setTop (mkF m 9 #[.val (.int p1), .val (.long p2), .second, .val (.long p3), .second] [])) _
        refine XS.lloadN X1.here hx rfl (hb hby d7_9) rfl ?_
        show Steps p.tables e below (T1.setTop (mkF m 10 #[.val (.int p1), .val (.long p2), .second, .val (.long p3), .second] [(.long p3)])) _
        refine XS.iloadN X1.here hx rfl (hb hby d7_10) rfl ?_
        show Steps p.tables e below (T1.setTop (mkF m 11 #[.val (.int p1), .val (.long p2), .second, .val (.long p3), .second] [(.int p1), (.long p3)])) _
        refine st2 _ ?_
        show Steps p.tables e below (T2.setTop (mkF m 14 #[.val (.int p1), .val (.long p2), .second, .val (.long p3), .second] [(.long (own_hi p1)), (.long p3)])) _
        refine XS.lcmp X2.here hx rfl (hb hby d7_14) rfl ?_
        show Steps p.tables e below (T2.setTop (mkF m 15 #[.val (.int p1), .val (.long p2), .second, .val (.long p3), .second] [(.int (lcmpW p3 (own_hi p1)))])) _
        refine XS.ifYes X2.here hx rfl (pc0 := 15) (pc' := 22) rfl (hb hby d7_15) rfl ((if0 _ _).trans (tlt ((lw_gt _ _).mpr c15)).2.2.1) (by decide) (by decide) ?_
        show Steps p.tables e below (T2.setTop (mkF m 22 #[.val (.int p1), .val (.long p2), .second, .val (.long p3), .second] [])) _
        refine XS.iconst X2.here hx rfl (hb hby d7_22) ?_
        show Steps p.tables e below (T2.setTop (mkF m 23 #[.val (.int p1), .val (.long p2), .second, .val (.long p3), .second] [(.int (0 : Int32))])) _
        exact retN X2 hx (t := .boolean) Bd.returns (by simp) (hb hby d7_23) hr
      · show Q7 Z p1 p2 p3 h0 n0 _ T2.heap _
        exact ⟨by rw [ev], N2, e2⟩
    · have ev : own_ho p1 p2 p3 = (1 : Int32) := by simp [own_ho, c6, c15]
      obtain ⟨fs, hr, hrun, hended, hW, hsame⟩ := X2.leave (v := some (.int (1 : Int32))) (fun h => by rw [Bd.returns] at h; cases h)
      refine ⟨_, _, pre0 _ ?_, hrun, hended, _, _, rfl, ?_, ⟨_, rfl⟩, hW, hsame.mono (by decide) (by decide)⟩
      · show Steps p.tables e below (s₁.setTop (mkF m 0 #[.val (.int p1), .val (.long p2), .second, .val (.long p3), .second] [])) _
        refine XS.iloadN X0.here hx rfl (hb hby d7_0) rfl ?_
        show Steps p.tables e below (s₁.setTop (mkF m 1 #[.val (.int p1), .val (.long p2), .second, .val (.long p3), .second] [(.int p1)])) _
        refine st1 _ ?_
        show Steps p.tables e below (T1.setTop (mkF m 4 #[.val (.int p1), .val (.long p2), .second, .val (.long p3), .second] [(.long (own_lo p1))])) _
        refine XS.lloadN X1.here hx rfl (hb hby d7_4) rfl ?_
        show Steps p.tables e below (T1.setTop (mkF m 5 #[.val (.int p1), .val (.long p2), .second, .val (.long p3), .second] [(.long p2), (.long (own_lo p1))])) _
        refine XS.lcmp X1.here hx rfl (hb hby d7_5) rfl ?_
        show Steps p.tables e below (T1.setTop (mkF m 6 #[.val (.int p1), .val (.long p2), .second, .val (.long p3), .second] [(.int (lcmpW (own_lo p1) p2))])) _
        refine XS.ifNo X1.here hx rfl (hb hby d7_6) rfl ((if0 _ _).trans (flt (fun q => c6 ((lw_gt _ _).mp q))).2.2.1) ?_
        show Steps p.tables e below (T1.setTop (mkF m 9 #[.val (.int p1), .val (.long p2), .second, .val (.long p3), .second] [])) _
        refine XS.lloadN X1.here hx rfl (hb hby d7_9) rfl ?_
        show Steps p.tables e below (T1.setTop (mkF m 10 #[.val (.int p1), .val (.long p2), .second, .val (.long p3), .second] [(.long p3)])) _
        refine XS.iloadN X1.here hx rfl (hb hby d7_10) rfl ?_
        show Steps p.tables e below (T1.setTop (mkF m 11 #[.val (.int p1), .val (.long p2), .second, .val (.long p3), .second] [(.int p1), (.long p3)])) _
        refine st2 _ ?_
        show Steps p.tables e below (T2.setTop (mkF m 14 #[.val (.int p1), .val (.long p2), .second, .val (.long p3), .second] [(.long (own_hi p1)), (.long p3)])) _
        refine XS.lcmp X2.here hx rfl (hb hby d7_14) rfl ?_
        show Steps p.tables e below (T2.setTop (mkF m 15 #[.val (.int p1), .val (.long p2), .second, .val (.long p3), .second] [(.int (lcmpW p3 (own_hi p1)))])) _
        refine XS.ifNo X2.here hx rfl (hb hby d7_15) rfl ((if0 _ _).trans (flt (fun q => c15 ((lw_gt _ _).mp q))).2.2.1) ?_
        show Steps p.tables e below (T2.setTop (mkF m 18 #[.val (.int p1), .val (.long p2), .second, .val (.long p3), .second] [])) _
        refine XS.iconst X2.here hx rfl (hb hby d7_18) ?_
        show Steps p.tables e below (T2.setTop (mkF m 19 #[.val (.int p1), .val (.long p2), .second, .val (.long p3), .second] [(.int (1 : Int32))])) _
        refine XS.goto X2.here hx rfl (pc0 := 19) (pc' := 23) rfl (hb hby d7_19) (by decide) (by decide) ?_
        show Steps p.tables e below (T2.setTop (mkF m 23 #[.val (.int p1), .val (.long p2), .second, .val (.long p3), .second] [(.int (1 : Int32))])) _
        exact retN X2 hx (t := .boolean) Bd.returns (by simp) (hb hby d7_23) hr
      · show Q7 Z p1 p2 p3 h0 n0 _ T2.heap _
        exact ⟨by rw [ev], N2, e2⟩
theorem pn_0 : plainName "com/example/trailgen/trailgen/promela/StateCodecWidthForPinLaw" = true := by first | (simp [plainName, overriddenIn]; done) | decide +kernel
theorem ef_0 (m : MethodId) (x0 : Int32) (x1 : Int32) : entryFrame m #[(.int x0), (.int x1)] maxLocals = mkF m 0 #[.val (.int x0), .val (.int x1), .unset, .unset, .unset, .unset, .unset, .unset] [] := by first | (simp [entryFrame, mkF, argsToLocals, Value.category, maxLocals]; done) | rfl
def Q0 (Z : State) (p1 : Int32) (p2 : Int32) (h0 : Heap) (n0 : Nat) (v : Option Value) (h : Heap) (L : List Loc) : Prop := v = some (.int 1) ∧ Fr n0 L
set_option maxRecDepth 65536 in
set_option maxHeartbeats 40000000 in
theorem rm0 (l : Launch) (Z : State) (a0 : Array Value) (hw : ∀ d ∈ tables_1, d.before a0 Z = true) (ws : List Jvm.Cond) (p1 : Int32) (p2 : Int32) (h0 : Heap) (n0 : Nat) (Z0 : n0 ≤ h0.size) :
    MetFree l x (head1 (Jvm.Cond.code x code maxLocals ret :: ws) room_1) (fun a U => a = #[(.int p1), (.int p2)] ∧ Z.Warmed39 U.vm ∧ U.heap = h0) (fun _ _ _ _ _ => True) (fun _ U o U' => ∃ v L, o = .returned v ∧ Q0 Z p1 p2 h0 n0 v U'.heap L ∧ FrameEnd U o U' L (room_1).cells (room_1).slots) := by
  refine MetFree.of_bodySF (plainFor_of_name pn_0) hisR ?_
  intro p e s m args below meth c s₁ Bd hml0 hP hK
  obtain ⟨rfl, hZ, hh⟩ := hP
  have hx := Bd.exec
  have hby := Bd.bytes
  have hml : c.maxLocals = 8 := hml0
  have hown : s.vm.findClass "com/example/trailgen/trailgen/promela/StateCodecWidthForPinLaw" = some m.cls := findClass_of_methodNamed Bd.named
  have hnm := (name_of_methodNamed Bd.named Bd.method).1
  have X0 : Stand p l e room_1 s m #[(.int p1), (.int p2)] below meth c s₁ [] 0 0 := Stand.of_body Bd
  have e0 : s₁.heap = h0 := by rw [← hh, Bd.state]; rfl
  have N0 := Fr.nil n0
  have pre0 : ∀ t, Steps p.tables e below (s₁.setTop (mkF m 0 #[.val (.int p1), .val (.int p2), .unset, .unset, .unset, .unset, .unset, .unset] [])) t → Steps p.tables e below (s₁.setTop (entryFrame m #[(.int p1), (.int p2)] maxLocals)) t := fun t k => castTop (ef_0 m p1 p2) k
  obtain ⟨_, _, ⟨T1, L1, k1, n1⟩, -, X1, ⟨Lc1, hQ1, l1, y1, z1⟩, st1⟩ := Jvm.LawKit.callS X0 hx (y := (⟨"java/lang/Math", "min", "(II)I"⟩ : MethodName)) hown (mvT hZ (hw _ (List.mem_of_getElem? (i := 0) rfl))) (mvT hZ (hw _ (List.mem_of_getElem? (i := 1) rfl))) (mvT hZ (hw _ (List.mem_of_getElem? (i := 2) rfl))) (mvT hZ (hw _ (List.mem_of_getElem? (i := 3) rfl))) (by decide) (backOf (W := 0) (rm1 l Z a0 hw [] p1 p2 h0 n0 Z0) hZ (hw _ (List.mem_of_getElem? (i := 3) rfl)) (hw _ (List.mem_of_getElem? (i := 2) rfl)) (by decide) (by decide)) (g := (mkF m 2 #[.val (.int p1), .val (.int p2), .unset, .unset, .unset, .unset, .unset, .unset] [(.int p2), (.int p1)])) rfl (by rw [hml]; rfl) (argsL := [(.int p1), (.int p2)]) (rest := []) (lenOf pd_mm rfl) rfl (by show 2 * 0 + _ ≤ _; exact Nat.le_of_eq rfl) (hb hby at_2) (fun _ _ => ⟨rfl, e0, (by decide : 0 + 0 ≤ _), (by decide : 0 + 0 ≤ _)⟩)
  dsimp only [Pt.U, Pt.locs, Pt.cells, Pt.slots] at X1 l1 y1 z1 st1 hQ1
  subst l1 y1 z1
  obtain ⟨rfl, N1q, e1⟩ := hQ1
  have N1 := Fr.app N0 N1q
  obtain ⟨_, _, ⟨T2, L2, k2, n2⟩, -, X2, ⟨Lc2, hQ2, l2, y2, z2⟩, st2⟩ := Jvm.LawKit.callS X1 hx (y := (⟨"java/lang/Math", "max", "(II)I"⟩ : MethodName)) hown (mvT hZ (hw _ (List.mem_of_getElem? (i := 4) rfl))) (mvT hZ (hw _ (List.mem_of_getElem? (i := 5) rfl))) (mvT hZ (hw _ (List.mem_of_getElem? (i := 2) rfl))) (mvT hZ (hw _ (List.mem_of_getElem? (i := 6) rfl))) (by decide) (backOf (W := 0) (rm2 l Z a0 hw [] p1 p2 h0 n0 Z0) hZ (hw _ (List.mem_of_getElem? (i := 6) rfl)) (hw _ (List.mem_of_getElem? (i := 2) rfl)) (by decide) (by decide)) (g := (mkF m 9 #[.val (.int p1), .val (.int p2), .val (.long ((own_min p1 p2).toInt64)), .second, .unset, .unset, .unset, .unset] [(.int p2), (.int p1)])) rfl (by rw [hml]; rfl) (argsL := [(.int p1), (.int p2)]) (rest := []) (lenOf pd_mm rfl) rfl (by show 2 * 0 + _ ≤ _; exact Nat.le_of_eq rfl) (hb hby at_9) (fun _ _ => ⟨rfl, e1, (by decide : 0 + 0 ≤ _), (by decide : 0 + 0 ≤ _)⟩)
  dsimp only [Pt.U, Pt.locs, Pt.cells, Pt.slots] at X2 l2 y2 z2 st2 hQ2
  subst l2 y2 z2
  obtain ⟨rfl, N2q, e2⟩ := hQ2
  have N2 := Fr.app N1 N2q
  obtain ⟨_, _, ⟨T3, L3, k3, n3⟩, -, X3, ⟨Lc3, hQ3, l3, y3, z3⟩, st3⟩ := Jvm.LawKit.callS X2 hx (y := (⟨"com/example/trailgen/trailgen/promela/StateCodec", "widthFor", "(JJ)I"⟩ : MethodName)) hown (mvT hZ (hw _ (List.mem_of_getElem? (i := 7) rfl))) (mvT hZ (hw _ (List.mem_of_getElem? (i := 8) rfl))) (mvT hZ (hw _ (List.mem_of_getElem? (i := 9) rfl))) (mvT hZ (hw _ (List.mem_of_getElem? (i := 10) rfl))) (by decide) (backOf (W := 0) (rm3 l Z a0 hw [] (own_min p1 p2).toInt64 (own_max p1 p2).toInt64 h0 n0 Z0) hZ (hw _ (List.mem_of_getElem? (i := 10) rfl)) (hw _ (List.mem_of_getElem? (i := 9) rfl)) (by decide) (by decide)) (g := (mkF m 18 #[.val (.int p1), .val (.int p2), .val (.long ((own_min p1 p2).toInt64)), .second, .val (.long ((own_max p1 p2).toInt64)), .second, .unset, .unset] [(.long ((own_max p1 p2).toInt64)), (.long ((own_min p1 p2).toInt64))])) rfl (by rw [hml]; rfl) (argsL := [(.long ((own_min p1 p2).toInt64)), (.long ((own_max p1 p2).toInt64))]) (rest := []) (lenOf pd_wd rfl) rfl (by show 2 * 0 + _ ≤ _; exact Nat.le_of_eq rfl) (hb hby at_18) (fun _ _ => ⟨rfl, e2, (by decide : 0 + 0 ≤ _), (by decide : 0 + 0 ≤ _)⟩)
  dsimp only [Pt.U, Pt.locs, Pt.cells, Pt.slots] at X3 l3 y3 z3 st3 hQ3
  subst l3 y3 z3
  obtain ⟨rfl, N3q, e3⟩ := hQ3
  have N3 := Fr.app N2 N3q
  obtain ⟨r1, r2, r3⟩ := own_reg p1 p2
  have R0 := own_reg0 _ _ r1 r2 r3
  generalize hrr : own_wd (own_min p1 p2).toInt64 (own_max p1 p2).toInt64 = rr at *
  rcases R0 with ⟨rfl, f1, f0⟩ | ⟨rfl, f1, f0⟩ | ⟨rfl, f1, f2, f3, f0⟩ | ⟨rfl, f1, f2, f3, f0⟩ | ⟨rfl, f1, f2, f3, f4, f5⟩
  · obtain ⟨_, _, ⟨T4, L4, k4, n4⟩, -, X4, ⟨Lc4, hQ4, l4, y4, z4⟩, st4⟩ := Jvm.LawKit.callS X3 hx (y := (⟨"com/example/trailgen/trailgen/promela/StateCodecWidthForPinLaw", "holds", "(IJJ)Z"⟩ : MethodName)) hown (mvT hZ (hw _ (List.mem_of_getElem? (i := 12) rfl))) (mvT hZ (hw _ (List.mem_of_getElem? (i := 13) rfl))) (mvT hZ (hw _ (List.mem_of_getElem? (i := 14) rfl))) (mvT hZ (hw _ (List.mem_of_getElem? (i := 15) rfl))) (by decide) (backOf (W := 0) (rm7 l Z a0 hw [] (1 : Int32) ((own_min p1 p2).toInt64) ((own_max p1 p2).toInt64) h0 n0 Z0) hZ (hw _ (List.mem_of_getElem? (i := 15) rfl)) (hw _ (List.mem_of_getElem? (i := 14) rfl)) (by decide) (by decide)) (g := (mkF m 61 #[.val (.int p1), .val (.int p2), .val (.long ((own_min p1 p2).toInt64)), .second, .val (.long ((own_max p1 p2).toInt64)), .second, .val (.int (1 : Int32)), .unset] [(.long ((own_max p1 p2).toInt64)), (.long ((own_min p1 p2).toInt64)), (.int (1 : Int32))])) rfl (by rw [hml]; rfl) (argsL := [(.int (1 : Int32)), (.long ((own_min p1 p2).toInt64)), (.long ((own_max p1 p2).toInt64))]) (rest := []) (lenOf pd_ho rfl) rfl (by show 2 * 0 + _ ≤ _; exact Nat.le_of_eq rfl) (hb hby at_61) (fun _ _ => ⟨rfl, e3, (by decide : 0 + 0 ≤ _), (by decide : 0 + 0 ≤ _)⟩)
    dsimp only [Pt.U, Pt.locs, Pt.cells, Pt.slots] at X4 l4 y4 z4 st4 hQ4
    subst l4 y4 z4
    obtain ⟨rfl, N4q, e4⟩ := hQ4
    have N4 := Fr.app N3 N4q
    obtain ⟨_, _, ⟨T5, L5, k5, n5⟩, -, X5, ⟨Lc5, hQ5, l5, y5, z5⟩, st5⟩ := Jvm.LawKit.callS X4 hx (y := (⟨"java/lang/Math", "abs", "(I)I"⟩ : MethodName)) hown (mvT hZ (hw _ (List.mem_of_getElem? (i := 23) rfl))) (mvT hZ (hw _ (List.mem_of_getElem? (i := 24) rfl))) (mvT hZ (hw _ (List.mem_of_getElem? (i := 2) rfl))) (mvT hZ (hw _ (List.mem_of_getElem? (i := 25) rfl))) (by decide) (backOf (W := 0) (rm6 l Z a0 hw [] (1 : Int32) h0 n0 Z0) hZ (hw _ (List.mem_of_getElem? (i := 25) rfl)) (hw _ (List.mem_of_getElem? (i := 2) rfl)) (by decide) (by decide)) (g := (mkF m 71 #[.val (.int p1), .val (.int p2), .val (.long ((own_min p1 p2).toInt64)), .second, .val (.long ((own_max p1 p2).toInt64)), .second, .val (.int (1 : Int32)), .unset] [(.int (1 : Int32))])) rfl (by rw [hml]; rfl) (argsL := [(.int (1 : Int32))]) (rest := []) (lenOf pd_ab rfl) rfl (by show 2 * 0 + _ ≤ _; exact Nat.le_of_eq rfl) (hb hby at_71) (fun _ _ => ⟨rfl, e4, (by decide : 0 + 0 ≤ _), (by decide : 0 + 0 ≤ _)⟩)
    dsimp only [Pt.U, Pt.locs, Pt.cells, Pt.slots] at X5 l5 y5 z5 st5 hQ5
    subst l5 y5 z5
    obtain ⟨rfl, N5q, e5⟩ := hQ5
    have N5 := Fr.app N4 N5q
    obtain ⟨fs, hr, hrun, hended, hW, hsame⟩ := X5.leave (v := some (.int (1 : Int32))) (fun h => by rw [Bd.returns] at h; cases h)
    refine ⟨_, _, pre0 _ ?_, hrun, hended, _, _, rfl, ?_, ⟨_, rfl⟩, hW, hsame.mono (by decide) (by decide)⟩
    · show Steps p.tables e below (s₁.setTop (mkF m 0 #[.val (.int p1), .val (.int p2), .unset, .unset, .unset, .unset, .unset, .unset] [])) _
      refine XS.iloadN X0.here hx rfl (hb hby at_0) rfl ?_
      show Steps p.tables e below (s₁.setTop (mkF m 1 #[.val (.int p1), .val (.int p2), .unset, .unset, .unset, .unset, .unset, .unset] [(.int p1)])) _
      refine XS.iloadN X0.here hx rfl (hb hby at_1) rfl ?_
      show Steps p.tables e below (s₁.setTop (mkF m 2 #[.val (.int p1), .val (.int p2), .unset, .unset, .unset, .unset, .unset, .unset] [(.int p2), (.int p1)])) _
      refine st1 _ ?_
      show Steps p.tables e below (T1.setTop (mkF m 5 #[.val (.int p1), .val (.int p2), .unset, .unset, .unset, .unset, .unset, .unset] [(.int (own_min p1 p2))])) _
      refine XS.i2l X1.here hx rfl (hb hby at_5) rfl ?_
      show Steps p.tables e below (T1.setTop (mkF m 6 #[.val (.int p1), .val (.int p2), .unset, .unset, .unset, .unset, .unset, .unset] [(.long ((own_min p1 p2).toInt64))])) _
      refine XS.lstoreN X1.here hx rfl (hb hby at_6) rfl (l' := #[.val (.int p1), .val (.int p2), .val (.long ((own_min p1 p2).toInt64)), .second, .unset, .unset, .unset, .unset]) rfl ?_
      show Steps p.tables e below (T1.setTop (mkF m 7 #[.val (.int p1), .val (.int p2), .val (.long ((own_min p1 p2).toInt64)), .second, .unset, .unset, .unset, .unset] [])) _
      refine XS.iloadN X1.here hx rfl (hb hby at_7) rfl ?_
      show Steps p.tables e below (T1.setTop (mkF m 8 #[.val (.int p1), .val (.int p2), .val (.long ((own_min p1 p2).toInt64)), .second, .unset, .unset, .unset, .unset] [(.int p1)])) _
      refine XS.iloadN X1.here hx rfl (hb hby at_8) rfl ?_
      show Steps p.tables e below (T1.setTop (mkF m 9 #[.val (.int p1), .val (.int p2), .val (.long ((own_min p1 p2).toInt64)), .second, .unset, .unset, .unset, .unset] [(.int p2), (.int p1)])) _
      refine st2 _ ?_
      show Steps p.tables e below (T2.setTop (mkF m 12 #[.val (.int p1), .val (.int p2), .val (.long ((own_min p1 p2).toInt64)), .second, .unset, .unset, .unset, .unset] [(.int (own_max p1 p2))])) _
      refine XS.i2l X2.here hx rfl (hb hby at_12) rfl ?_
      show Steps p.tables e below (T2.setTop (mkF m 13 #[.val (.int p1), .val (.int p2), .val (.long ((own_min p1 p2).toInt64)), .second, .unset, .unset, .unset, .unset] [(.long ((own_max p1 p2).toInt64))])) _
      refine XS.lstore X2.here hx rfl (hb hby at_13) rfl (l' := #[.val (.int p1), .val (.int p2), .val (.long ((own_min p1 p2).toInt64)), .second, .val (.long ((own_max p1 p2).toInt64)), .second, .unset, .unset]) rfl ?_
      show Steps p.tables e below (T2.setTop (mkF m 15 #[.val (.int p1), .val (.int p2), .val (.long ((own_min p1 p2).toInt64)), .second, .val (.long ((own_max p1 p2).toInt64)), .second, .unset, .unset] [])) _
      refine XS.lloadN X2.here hx rfl (hb hby at_15) rfl ?_
      show Steps p.tables e below (T2.setTop (mkF m 16 #[.val (.int p1), .val (.int p2), .val (.long ((own_min p1 p2).toInt64)), .second, .val (.long ((own_max p1 p2).toInt64)), .second, .unset, .unset] [(.long ((own_min p1 p2).toInt64))])) _
      refine XS.lload X2.here hx rfl (hb hby at_16) rfl ?_
      show Steps p.tables e below (T2.setTop (mkF m 18 #[.val (.int p1), .val (.int p2), .val (.long ((own_min p1 p2).toInt64)), .second, .val (.long ((own_max p1 p2).toInt64)), .second, .unset, .unset] [(.long ((own_max p1 p2).toInt64)), (.long ((own_min p1 p2).toInt64))])) _
      refine st3 _ ?_
      show Steps p.tables e below (T3.setTop (mkF m 21 #[.val (.int p1), .val (.int p2), .val (.long ((own_min p1 p2).toInt64)), .second, .val (.long ((own_max p1 p2).toInt64)), .second, .unset, .unset] [(.int (1 : Int32))])) _
      refine XS.istore X3.here hx rfl (hb hby at_21) rfl (l' := #[.val (.int p1), .val (.int p2), .val (.long ((own_min p1 p2).toInt64)), .second, .val (.long ((own_max p1 p2).toInt64)), .second, .val (.int (1 : Int32)), .unset]) rfl ?_
      show Steps p.tables e below (T3.setTop (mkF m 23 #[.val (.int p1), .val (.int p2), .val (.long ((own_min p1 p2).toInt64)), .second, .val (.long ((own_max p1 p2).toInt64)), .second, .val (.int (1 : Int32)), .unset] [])) _
      refine XS.iload X3.here hx rfl (hb hby at_23) rfl ?_
      show Steps p.tables e below (T3.setTop (mkF m 25 #[.val (.int p1), .val (.int p2), .val (.long ((own_min p1 p2).toInt64)), .second, .val (.long ((own_max p1 p2).toInt64)), .second, .val (.int (1 : Int32)), .unset] [(.int (1 : Int32))])) _
      refine XS.iconst X3.here hx rfl (hb hby at_25) ?_
      show Steps p.tables e below (T3.setTop (mkF m 26 #[.val (.int p1), .val (.int p2), .val (.long ((own_min p1 p2).toInt64)), .second, .val (.long ((own_max p1 p2).toInt64)), .second, .val (.int (1 : Int32)), .unset] [(.int (1 : Int32)), (.int (1 : Int32))])) _
      refine XS.icmpYes X3.here hx rfl (pc0 := 26) (pc' := 56) rfl (hb hby at_26) rfl (teq (by decide)).1 (by decide) (by decide) ?_
      show Steps p.tables e below (T3.setTop (mkF m 56 #[.val (.int p1), .val (.int p2), .val (.long ((own_min p1 p2).toInt64)), .second, .val (.long ((own_max p1 p2).toInt64)), .second, .val (.int (1 : Int32)), .unset] [])) _
      refine XS.iload X3.here hx rfl (hb hby at_56) rfl ?_
      show Steps p.tables e below (T3.setTop (mkF m 58 #[.val (.int p1), .val (.int p2), .val (.long ((own_min p1 p2).toInt64)), .second, .val (.long ((own_max p1 p2).toInt64)), .second, .val (.int (1 : Int32)), .unset] [(.int (1 : Int32))])) _
      refine XS.lloadN X3.here hx rfl (hb hby at_58) rfl ?_
      show Steps p.tables e below (T3.setTop (mkF m 59 #[.val (.int p1), .val (.int p2), .val (.long ((own_min p1 p2).toInt64)), .second, .val (.long ((own_max p1 p2).toInt64)), .second, .val (.int (1 : Int32)), .unset] [(.long ((own_min p1 p2).toInt64)), (.int (1 : Int32))])) _
      refine XS.lload X3.here hx rfl (hb hby at_59) rfl ?_
      show Steps p.tables e below (T3.setTop (mkF m 61 #[.val (.int p1), .val (.int p2), .val (.long ((own_min p1 p2).toInt64)), .second, .val (.long ((own_max p1 p2).toInt64)), .second, .val (.int (1 : Int32)), .unset] [(.long ((own_max p1 p2).toInt64)), (.long ((own_min p1 p2).toInt64)), (.int (1 : Int32))])) _
      refine st4 _ ?_
      show Steps p.tables e below (T4.setTop (mkF m 64 #[.val (.int p1), .val (.int p2), .val (.long ((own_min p1 p2).toInt64)), .second, .val (.long ((own_max p1 p2).toInt64)), .second, .val (.int (1 : Int32)), .unset] [(.int (own_ho (1 : Int32) ((own_min p1 p2).toInt64) ((own_max p1 p2).toInt64)))])) _
      refine XS.ifYes X4.here hx rfl (pc0 := 64) (pc' := 69) rfl (hb hby at_64) rfl ((if0 _ _).trans (feq (by rw [f1]; decide)).2) (by decide) (by decide) ?_
      show Steps p.tables e below (T4.setTop (mkF m 69 #[.val (.int p1), .val (.int p2), .val (.long ((own_min p1 p2).toInt64)), .second, .val (.long ((own_max p1 p2).toInt64)), .second, .val (.int (1 : Int32)), .unset] [])) _
      refine XS.iload X4.here hx rfl (hb hby at_69) rfl ?_
      show Steps p.tables e below (T4.setTop (mkF m 71 #[.val (.int p1), .val (.int p2), .val (.long ((own_min p1 p2).toInt64)), .second, .val (.long ((own_max p1 p2).toInt64)), .second, .val (.int (1 : Int32)), .unset] [(.int (1 : Int32))])) _
      refine st5 _ ?_
      show Steps p.tables e below (T5.setTop (mkF m 74 #[.val (.int p1), .val (.int p2), .val (.long ((own_min p1 p2).toInt64)), .second, .val (.long ((own_max p1 p2).toInt64)), .second, .val (.int (1 : Int32)), .unset] [(.int (own_abs (1 : Int32)))])) _
      refine XS.istore X5.here hx rfl (hb hby at_74) rfl (l' := #[.val (.int p1), .val (.int p2), .val (.long ((own_min p1 p2).toInt64)), .second, .val (.long ((own_max p1 p2).toInt64)), .second, .val (.int (1 : Int32)), .val (.int (own_abs (1 : Int32)))]) rfl ?_
      show Steps p.tables e below (T5.setTop (mkF m 76 #[.val (.int p1), .val (.int p2), .val (.long ((own_min p1 p2).toInt64)), .second, .val (.long ((own_max p1 p2).toInt64)), .second, .val (.int (1 : Int32)), .val (.int (own_abs (1 : Int32)))] [])) _
      refine XS.iload X5.here hx rfl (hb hby at_76) rfl ?_
      show Steps p.tables e below (T5.setTop (mkF m 78 #[.val (.int p1), .val (.int p2), .val (.long ((own_min p1 p2).toInt64)), .second, .val (.long ((own_max p1 p2).toInt64)), .second, .val (.int (1 : Int32)), .val (.int (own_abs (1 : Int32)))] [(.int (own_abs (1 : Int32)))])) _
      refine XS.iconst X5.here hx rfl (hb hby at_78) ?_
      show Steps p.tables e below (T5.setTop (mkF m 79 #[.val (.int p1), .val (.int p2), .val (.long ((own_min p1 p2).toInt64)), .second, .val (.long ((own_max p1 p2).toInt64)), .second, .val (.int (1 : Int32)), .val (.int (own_abs (1 : Int32)))] [(.int (1 : Int32)), (.int (own_abs (1 : Int32)))])) _
      refine XS.icmpYes X5.here hx rfl (pc0 := 79) (pc' := 104) rfl (hb hby at_79) rfl (flt (by decide)).2.2.2 (by decide) (by decide) ?_
      show Steps p.tables e below (T5.setTop (mkF m 104 #[.val (.int p1), .val (.int p2), .val (.long ((own_min p1 p2).toInt64)), .second, .val (.long ((own_max p1 p2).toInt64)), .second, .val (.int (1 : Int32)), .val (.int (own_abs (1 : Int32)))] [])) _
      refine XS.iload X5.here hx rfl (hb hby at_104) rfl ?_
      show Steps p.tables e below (T5.setTop (mkF m 106 #[.val (.int p1), .val (.int p2), .val (.long ((own_min p1 p2).toInt64)), .second, .val (.long ((own_max p1 p2).toInt64)), .second, .val (.int (1 : Int32)), .val (.int (own_abs (1 : Int32)))] [(.int (own_abs (1 : Int32)))])) _
      refine XS.iconst X5.here hx rfl (hb hby at_106) ?_
      show Steps p.tables e below (T5.setTop (mkF m 107 #[.val (.int p1), .val (.int p2), .val (.long ((own_min p1 p2).toInt64)), .second, .val (.long ((own_max p1 p2).toInt64)), .second, .val (.int (1 : Int32)), .val (.int (own_abs (1 : Int32)))] [(.int (2 : Int32)), (.int (own_abs (1 : Int32)))])) _
      refine XS.icmpYes X5.here hx rfl (pc0 := 107) (pc' := 133) rfl (hb hby at_107) rfl (flt (by decide)).2.2.2 (by decide) (by decide) ?_
      show Steps p.tables e below (T5.setTop (mkF m 133 #[.val (.int p1), .val (.int p2), .val (.long ((own_min p1 p2).toInt64)), .second, .val (.long ((own_max p1 p2).toInt64)), .second, .val (.int (1 : Int32)), .val (.int (own_abs (1 : Int32)))] [])) _
      refine XS.lloadN X5.here hx rfl (hb hby at_133) rfl ?_
      show Steps p.tables e below (T5.setTop (mkF m 134 #[.val (.int p1), .val (.int p2), .val (.long ((own_min p1 p2).toInt64)), .second, .val (.long ((own_max p1 p2).toInt64)), .second, .val (.int (1 : Int32)), .val (.int (own_abs (1 : Int32)))] [(.long ((own_min p1 p2).toInt64))])) _
      refine XS.lconst X5.here hx rfl (hb hby at_134) ?_
      show Steps p.tables e below (T5.setTop (mkF m 135 #[.val (.int p1), .val (.int p2), .val (.long ((own_min p1 p2).toInt64)), .second, .val (.long ((own_max p1 p2).toInt64)), .second, .val (.int (1 : Int32)), .val (.int (own_abs (1 : Int32)))] [(.long (0 : Int64)), (.long ((own_min p1 p2).toInt64))])) _
      refine XS.lcmp X5.here hx rfl (hb hby at_135) rfl ?_
      show Steps p.tables e below (T5.setTop (mkF m 136 #[.val (.int p1), .val (.int p2), .val (.long ((own_min p1 p2).toInt64)), .second, .val (.long ((own_max p1 p2).toInt64)), .second, .val (.int (1 : Int32)), .val (.int (own_abs (1 : Int32)))] [(.int (lcmpW ((own_min p1 p2).toInt64) (0 : Int64)))])) _
      refine XS.ifNo X5.here hx rfl (hb hby at_136) rfl ((if0 _ _).trans (flt (fun q => f0 ((lw_lt _ _).mp q))).1) ?_
      show Steps p.tables e below (T5.setTop (mkF m 139 #[.val (.int p1), .val (.int p2), .val (.long ((own_min p1 p2).toInt64)), .second, .val (.long ((own_max p1 p2).toInt64)), .second, .val (.int (1 : Int32)), .val (.int (own_abs (1 : Int32)))] [])) _
      refine XS.iload X5.here hx rfl (hb hby at_139) rfl ?_
      show Steps p.tables e below (T5.setTop (mkF m 141 #[.val (.int p1), .val (.int p2), .val (.long ((own_min p1 p2).toInt64)), .second, .val (.long ((own_max p1 p2).toInt64)), .second, .val (.int (1 : Int32)), .val (.int (own_abs (1 : Int32)))] [(.int (1 : Int32))])) _
      refine XS.ifNo X5.here hx rfl (hb hby at_141) rfl ((if0 _ _).trans (tlt (by decide)).2.2.2) ?_
      show Steps p.tables e below (T5.setTop (mkF m 144 #[.val (.int p1), .val (.int p2), .val (.long ((own_min p1 p2).toInt64)), .second, .val (.long ((own_max p1 p2).toInt64)), .second, .val (.int (1 : Int32)), .val (.int (own_abs (1 : Int32)))] [])) _
      refine XS.iconst X5.here hx rfl (hb hby at_144) ?_
      show Steps p.tables e below (T5.setTop (mkF m 145 #[.val (.int p1), .val (.int p2), .val (.long ((own_min p1 p2).toInt64)), .second, .val (.long ((own_max p1 p2).toInt64)), .second, .val (.int (1 : Int32)), .val (.int (own_abs (1 : Int32)))] [(.int (1 : Int32))])) _
      refine XS.goto X5.here hx rfl (pc0 := 145) (pc' := 149) rfl (hb hby at_145) (by decide) (by decide) ?_
      show Steps p.tables e below (T5.setTop (mkF m 149 #[.val (.int p1), .val (.int p2), .val (.long ((own_min p1 p2).toInt64)), .second, .val (.long ((own_max p1 p2).toInt64)), .second, .val (.int (1 : Int32)), .val (.int (own_abs (1 : Int32)))] [(.int (1 : Int32))])) _
      exact retN X5 hx (t := .boolean) Bd.returns (by simp) (hb hby at_149) hr
    · show Q0 Z p1 p2 h0 n0 _ T5.heap _
      exact ⟨rfl, N5⟩
  · obtain ⟨_, _, ⟨T4, L4, k4, n4⟩, -, X4, ⟨Lc4, hQ4, l4, y4, z4⟩, st4⟩ := Jvm.LawKit.callS X3 hx (y := (⟨"com/example/trailgen/trailgen/promela/StateCodecWidthForPinLaw", "holds", "(IJJ)Z"⟩ : MethodName)) hown (mvT hZ (hw _ (List.mem_of_getElem? (i := 12) rfl))) (mvT hZ (hw _ (List.mem_of_getElem? (i := 13) rfl))) (mvT hZ (hw _ (List.mem_of_getElem? (i := 14) rfl))) (mvT hZ (hw _ (List.mem_of_getElem? (i := 15) rfl))) (by decide) (backOf (W := 0) (rm7 l Z a0 hw [] (-1 : Int32) ((own_min p1 p2).toInt64) ((own_max p1 p2).toInt64) h0 n0 Z0) hZ (hw _ (List.mem_of_getElem? (i := 15) rfl)) (hw _ (List.mem_of_getElem? (i := 14) rfl)) (by decide) (by decide)) (g := (mkF m 61 #[.val (.int p1), .val (.int p2), .val (.long ((own_min p1 p2).toInt64)), .second, .val (.long ((own_max p1 p2).toInt64)), .second, .val (.int (-1 : Int32)), .unset] [(.long ((own_max p1 p2).toInt64)), (.long ((own_min p1 p2).toInt64)), (.int (-1 : Int32))])) rfl (by rw [hml]; rfl) (argsL := [(.int (-1 : Int32)), (.long ((own_min p1 p2).toInt64)), (.long ((own_max p1 p2).toInt64))]) (rest := []) (lenOf pd_ho rfl) rfl (by show 2 * 0 + _ ≤ _; exact Nat.le_of_eq rfl) (hb hby at_61) (fun _ _ => ⟨rfl, e3, (by decide : 0 + 0 ≤ _), (by decide : 0 + 0 ≤ _)⟩)
    dsimp only [Pt.U, Pt.locs, Pt.cells, Pt.slots] at X4 l4 y4 z4 st4 hQ4
    subst l4 y4 z4
    obtain ⟨rfl, N4q, e4⟩ := hQ4
    have N4 := Fr.app N3 N4q
    obtain ⟨_, _, ⟨T5, L5, k5, n5⟩, -, X5, ⟨Lc5, hQ5, l5, y5, z5⟩, st5⟩ := Jvm.LawKit.callS X4 hx (y := (⟨"java/lang/Math", "abs", "(I)I"⟩ : MethodName)) hown (mvT hZ (hw _ (List.mem_of_getElem? (i := 23) rfl))) (mvT hZ (hw _ (List.mem_of_getElem? (i := 24) rfl))) (mvT hZ (hw _ (List.mem_of_getElem? (i := 2) rfl))) (mvT hZ (hw _ (List.mem_of_getElem? (i := 25) rfl))) (by decide) (backOf (W := 0) (rm6 l Z a0 hw [] (-1 : Int32) h0 n0 Z0) hZ (hw _ (List.mem_of_getElem? (i := 25) rfl)) (hw _ (List.mem_of_getElem? (i := 2) rfl)) (by decide) (by decide)) (g := (mkF m 71 #[.val (.int p1), .val (.int p2), .val (.long ((own_min p1 p2).toInt64)), .second, .val (.long ((own_max p1 p2).toInt64)), .second, .val (.int (-1 : Int32)), .unset] [(.int (-1 : Int32))])) rfl (by rw [hml]; rfl) (argsL := [(.int (-1 : Int32))]) (rest := []) (lenOf pd_ab rfl) rfl (by show 2 * 0 + _ ≤ _; exact Nat.le_of_eq rfl) (hb hby at_71) (fun _ _ => ⟨rfl, e4, (by decide : 0 + 0 ≤ _), (by decide : 0 + 0 ≤ _)⟩)
    dsimp only [Pt.U, Pt.locs, Pt.cells, Pt.slots] at X5 l5 y5 z5 st5 hQ5
    subst l5 y5 z5
    obtain ⟨rfl, N5q, e5⟩ := hQ5
    have N5 := Fr.app N4 N5q
    obtain ⟨fs, hr, hrun, hended, hW, hsame⟩ := X5.leave (v := some (.int (1 : Int32))) (fun h => by rw [Bd.returns] at h; cases h)
    refine ⟨_, _, pre0 _ ?_, hrun, hended, _, _, rfl, ?_, ⟨_, rfl⟩, hW, hsame.mono (by decide) (by decide)⟩
    · show Steps p.tables e below (s₁.setTop (mkF m 0 #[.val (.int p1), .val (.int p2), .unset, .unset, .unset, .unset, .unset, .unset] [])) _
      refine XS.iloadN X0.here hx rfl (hb hby at_0) rfl ?_
      show Steps p.tables e below (s₁.setTop (mkF m 1 #[.val (.int p1), .val (.int p2), .unset, .unset, .unset, .unset, .unset, .unset] [(.int p1)])) _
      refine XS.iloadN X0.here hx rfl (hb hby at_1) rfl ?_
      show Steps p.tables e below (s₁.setTop (mkF m 2 #[.val (.int p1), .val (.int p2), .unset, .unset, .unset, .unset, .unset, .unset] [(.int p2), (.int p1)])) _
      refine st1 _ ?_
      show Steps p.tables e below (T1.setTop (mkF m 5 #[.val (.int p1), .val (.int p2), .unset, .unset, .unset, .unset, .unset, .unset] [(.int (own_min p1 p2))])) _
      refine XS.i2l X1.here hx rfl (hb hby at_5) rfl ?_
      show Steps p.tables e below (T1.setTop (mkF m 6 #[.val (.int p1), .val (.int p2), .unset, .unset, .unset, .unset, .unset, .unset] [(.long ((own_min p1 p2).toInt64))])) _
      refine XS.lstoreN X1.here hx rfl (hb hby at_6) rfl (l' := #[.val (.int p1), .val (.int p2), .val (.long ((own_min p1 p2).toInt64)), .second, .unset, .unset, .unset, .unset]) rfl ?_
      show Steps p.tables e below (T1.setTop (mkF m 7 #[.val (.int p1), .val (.int p2), .val (.long ((own_min p1 p2).toInt64)), .second, .unset, .unset, .unset, .unset] [])) _
      refine XS.iloadN X1.here hx rfl (hb hby at_7) rfl ?_
      show Steps p.tables e below (T1.setTop (mkF m 8 #[.val (.int p1), .val (.int p2), .val (.long ((own_min p1 p2).toInt64)), .second, .unset, .unset, .unset, .unset] [(.int p1)])) _
      refine XS.iloadN X1.here hx rfl (hb hby at_8) rfl ?_
      show Steps p.tables e below (T1.setTop (mkF m 9 #[.val (.int p1), .val (.int p2), .val (.long ((own_min p1 p2).toInt64)), .second, .unset, .unset, .unset, .unset] [(.int p2), (.int p1)])) _
      refine st2 _ ?_
      show Steps p.tables e below (T2.setTop (mkF m 12 #[.val (.int p1), .val (.int p2), .val (.long ((own_min p1 p2).toInt64)), .second, .unset, .unset, .unset, .unset] [(.int (own_max p1 p2))])) _
      refine XS.i2l X2.here hx rfl (hb hby at_12) rfl ?_
      show Steps p.tables e below (T2.setTop (mkF m 13 #[.val (.int p1), .val (.int p2), .val (.long ((own_min p1 p2).toInt64)), .second, .unset, .unset, .unset, .unset] [(.long ((own_max p1 p2).toInt64))])) _
      refine XS.lstore X2.here hx rfl (hb hby at_13) rfl (l' := #[.val (.int p1), .val (.int p2), .val (.long ((own_min p1 p2).toInt64)), .second, .val (.long ((own_max p1 p2).toInt64)), .second, .unset, .unset]) rfl ?_
      show Steps p.tables e below (T2.setTop (mkF m 15 #[.val (.int p1), .val (.int p2), .val (.long ((own_min p1 p2).toInt64)), .second, .val (.long ((own_max p1 p2).toInt64)), .second, .unset, .unset] [])) _
      refine XS.lloadN X2.here hx rfl (hb hby at_15) rfl ?_
      show Steps p.tables e below (T2.setTop (mkF m 16 #[.val (.int p1), .val (.int p2), .val (.long ((own_min p1 p2).toInt64)), .second, .val (.long ((own_max p1 p2).toInt64)), .second, .unset, .unset] [(.long ((own_min p1 p2).toInt64))])) _
      refine XS.lload X2.here hx rfl (hb hby at_16) rfl ?_
      show Steps p.tables e below (T2.setTop (mkF m 18 #[.val (.int p1), .val (.int p2), .val (.long ((own_min p1 p2).toInt64)), .second, .val (.long ((own_max p1 p2).toInt64)), .second, .unset, .unset] [(.long ((own_max p1 p2).toInt64)), (.long ((own_min p1 p2).toInt64))])) _
      refine st3 _ ?_
      show Steps p.tables e below (T3.setTop (mkF m 21 #[.val (.int p1), .val (.int p2), .val (.long ((own_min p1 p2).toInt64)), .second, .val (.long ((own_max p1 p2).toInt64)), .second, .unset, .unset] [(.int (-1 : Int32))])) _
      refine XS.istore X3.here hx rfl (hb hby at_21) rfl (l' := #[.val (.int p1), .val (.int p2), .val (.long ((own_min p1 p2).toInt64)), .second, .val (.long ((own_max p1 p2).toInt64)), .second, .val (.int (-1 : Int32)), .unset]) rfl ?_
      show Steps p.tables e below (T3.setTop (mkF m 23 #[.val (.int p1), .val (.int p2), .val (.long ((own_min p1 p2).toInt64)), .second, .val (.long ((own_max p1 p2).toInt64)), .second, .val (.int (-1 : Int32)), .unset] [])) _
      refine XS.iload X3.here hx rfl (hb hby at_23) rfl ?_
      show Steps p.tables e below (T3.setTop (mkF m 25 #[.val (.int p1), .val (.int p2), .val (.long ((own_min p1 p2).toInt64)), .second, .val (.long ((own_max p1 p2).toInt64)), .second, .val (.int (-1 : Int32)), .unset] [(.int (-1 : Int32))])) _
      refine XS.iconst X3.here hx rfl (hb hby at_25) ?_
      show Steps p.tables e below (T3.setTop (mkF m 26 #[.val (.int p1), .val (.int p2), .val (.long ((own_min p1 p2).toInt64)), .second, .val (.long ((own_max p1 p2).toInt64)), .second, .val (.int (-1 : Int32)), .unset] [(.int (1 : Int32)), (.int (-1 : Int32))])) _
      refine XS.icmpNo X3.here hx rfl (hb hby at_26) rfl (feq (by decide)).1 ?_
      show Steps p.tables e below (T3.setTop (mkF m 29 #[.val (.int p1), .val (.int p2), .val (.long ((own_min p1 p2).toInt64)), .second, .val (.long ((own_max p1 p2).toInt64)), .second, .val (.int (-1 : Int32)), .unset] [])) _
      refine XS.iload X3.here hx rfl (hb hby at_29) rfl ?_
      show Steps p.tables e below (T3.setTop (mkF m 31 #[.val (.int p1), .val (.int p2), .val (.long ((own_min p1 p2).toInt64)), .second, .val (.long ((own_max p1 p2).toInt64)), .second, .val (.int (-1 : Int32)), .unset] [(.int (-1 : Int32))])) _
      refine XS.iconst X3.here hx rfl (hb hby at_31) ?_
      show Steps p.tables e below (T3.setTop (mkF m 32 #[.val (.int p1), .val (.int p2), .val (.long ((own_min p1 p2).toInt64)), .second, .val (.long ((own_max p1 p2).toInt64)), .second, .val (.int (-1 : Int32)), .unset] [(.int (-1 : Int32)), (.int (-1 : Int32))])) _
      refine XS.icmpYes X3.here hx rfl (pc0 := 32) (pc' := 56) rfl (hb hby at_32) rfl (teq (by decide)).1 (by decide) (by decide) ?_
      show Steps p.tables e below (T3.setTop (mkF m 56 #[.val (.int p1), .val (.int p2), .val (.long ((own_min p1 p2).toInt64)), .second, .val (.long ((own_max p1 p2).toInt64)), .second, .val (.int (-1 : Int32)), .unset] [])) _
      refine XS.iload X3.here hx rfl (hb hby at_56) rfl ?_
      show Steps p.tables e below (T3.setTop (mkF m 58 #[.val (.int p1), .val (.int p2), .val (.long ((own_min p1 p2).toInt64)), .second, .val (.long ((own_max p1 p2).toInt64)), .second, .val (.int (-1 : Int32)), .unset] [(.int (-1 : Int32))])) _
      refine XS.lloadN X3.here hx rfl (hb hby at_58) rfl ?_
      show Steps p.tables e below (T3.setTop (mkF m 59 #[.val (.int p1), .val (.int p2), .val (.long ((own_min p1 p2).toInt64)), .second, .val (.long ((own_max p1 p2).toInt64)), .second, .val (.int (-1 : Int32)), .unset] [(.long ((own_min p1 p2).toInt64)), (.int (-1 : Int32))])) _
      refine XS.lload X3.here hx rfl (hb hby at_59) rfl ?_
      show Steps p.tables e below (T3.setTop (mkF m 61 #[.val (.int p1), .val (.int p2), .val (.long ((own_min p1 p2).toInt64)), .second, .val (.long ((own_max p1 p2).toInt64)), .second, .val (.int (-1 : Int32)), .unset] [(.long ((own_max p1 p2).toInt64)), (.long ((own_min p1 p2).toInt64)), (.int (-1 : Int32))])) _
      refine st4 _ ?_
      show Steps p.tables e below (T4.setTop (mkF m 64 #[.val (.int p1), .val (.int p2), .val (.long ((own_min p1 p2).toInt64)), .second, .val (.long ((own_max p1 p2).toInt64)), .second, .val (.int (-1 : Int32)), .unset] [(.int (own_ho (-1 : Int32) ((own_min p1 p2).toInt64) ((own_max p1 p2).toInt64)))])) _
      refine XS.ifYes X4.here hx rfl (pc0 := 64) (pc' := 69) rfl (hb hby at_64) rfl ((if0 _ _).trans (feq (by rw [f1]; decide)).2) (by decide) (by decide) ?_
      show Steps p.tables e below (T4.setTop (mkF m 69 #[.val (.int p1), .val (.int p2), .val (.long ((own_min p1 p2).toInt64)), .second, .val (.long ((own_max p1 p2).toInt64)), .second, .val (.int (-1 : Int32)), .unset] [])) _
      refine XS.iload X4.here hx rfl (hb hby at_69) rfl ?_
      show Steps p.tables e below (T4.setTop (mkF m 71 #[.val (.int p1), .val (.int p2), .val (.long ((own_min p1 p2).toInt64)), .second, .val (.long ((own_max p1 p2).toInt64)), .second, .val (.int (-1 : Int32)), .unset] [(.int (-1 : Int32))])) _
      refine st5 _ ?_
      show Steps p.tables e below (T5.setTop (mkF m 74 #[.val (.int p1), .val (.int p2), .val (.long ((own_min p1 p2).toInt64)), .second, .val (.long ((own_max p1 p2).toInt64)), .second, .val (.int (-1 : Int32)), .unset] [(.int (own_abs (-1 : Int32)))])) _
      refine XS.istore X5.here hx rfl (hb hby at_74) rfl (l' := #[.val (.int p1), .val (.int p2), .val (.long ((own_min p1 p2).toInt64)), .second, .val (.long ((own_max p1 p2).toInt64)), .second, .val (.int (-1 : Int32)), .val (.int (own_abs (-1 : Int32)))]) rfl ?_
      show Steps p.tables e below (T5.setTop (mkF m 76 #[.val (.int p1), .val (.int p2), .val (.long ((own_min p1 p2).toInt64)), .second, .val (.long ((own_max p1 p2).toInt64)), .second, .val (.int (-1 : Int32)), .val (.int (own_abs (-1 : Int32)))] [])) _
      refine XS.iload X5.here hx rfl (hb hby at_76) rfl ?_
      show Steps p.tables e below (T5.setTop (mkF m 78 #[.val (.int p1), .val (.int p2), .val (.long ((own_min p1 p2).toInt64)), .second, .val (.long ((own_max p1 p2).toInt64)), .second, .val (.int (-1 : Int32)), .val (.int (own_abs (-1 : Int32)))] [(.int (own_abs (-1 : Int32)))])) _
      refine XS.iconst X5.here hx rfl (hb hby at_78) ?_
      show Steps p.tables e below (T5.setTop (mkF m 79 #[.val (.int p1), .val (.int p2), .val (.long ((own_min p1 p2).toInt64)), .second, .val (.long ((own_max p1 p2).toInt64)), .second, .val (.int (-1 : Int32)), .val (.int (own_abs (-1 : Int32)))] [(.int (1 : Int32)), (.int (own_abs (-1 : Int32)))])) _
      refine XS.icmpYes X5.here hx rfl (pc0 := 79) (pc' := 104) rfl (hb hby at_79) rfl (flt (by decide)).2.2.2 (by decide) (by decide) ?_
      show Steps p.tables e below (T5.setTop (mkF m 104 #[.val (.int p1), .val (.int p2), .val (.long ((own_min p1 p2).toInt64)), .second, .val (.long ((own_max p1 p2).toInt64)), .second, .val (.int (-1 : Int32)), .val (.int (own_abs (-1 : Int32)))] [])) _
      refine XS.iload X5.here hx rfl (hb hby at_104) rfl ?_
      show Steps p.tables e below (T5.setTop (mkF m 106 #[.val (.int p1), .val (.int p2), .val (.long ((own_min p1 p2).toInt64)), .second, .val (.long ((own_max p1 p2).toInt64)), .second, .val (.int (-1 : Int32)), .val (.int (own_abs (-1 : Int32)))] [(.int (own_abs (-1 : Int32)))])) _
      refine XS.iconst X5.here hx rfl (hb hby at_106) ?_
      show Steps p.tables e below (T5.setTop (mkF m 107 #[.val (.int p1), .val (.int p2), .val (.long ((own_min p1 p2).toInt64)), .second, .val (.long ((own_max p1 p2).toInt64)), .second, .val (.int (-1 : Int32)), .val (.int (own_abs (-1 : Int32)))] [(.int (2 : Int32)), (.int (own_abs (-1 : Int32)))])) _
      refine XS.icmpYes X5.here hx rfl (pc0 := 107) (pc' := 133) rfl (hb hby at_107) rfl (flt (by decide)).2.2.2 (by decide) (by decide) ?_
      show Steps p.tables e below (T5.setTop (mkF m 133 #[.val (.int p1), .val (.int p2), .val (.long ((own_min p1 p2).toInt64)), .second, .val (.long ((own_max p1 p2).toInt64)), .second, .val (.int (-1 : Int32)), .val (.int (own_abs (-1 : Int32)))] [])) _
      refine XS.lloadN X5.here hx rfl (hb hby at_133) rfl ?_
      show Steps p.tables e below (T5.setTop (mkF m 134 #[.val (.int p1), .val (.int p2), .val (.long ((own_min p1 p2).toInt64)), .second, .val (.long ((own_max p1 p2).toInt64)), .second, .val (.int (-1 : Int32)), .val (.int (own_abs (-1 : Int32)))] [(.long ((own_min p1 p2).toInt64))])) _
      refine XS.lconst X5.here hx rfl (hb hby at_134) ?_
      show Steps p.tables e below (T5.setTop (mkF m 135 #[.val (.int p1), .val (.int p2), .val (.long ((own_min p1 p2).toInt64)), .second, .val (.long ((own_max p1 p2).toInt64)), .second, .val (.int (-1 : Int32)), .val (.int (own_abs (-1 : Int32)))] [(.long (0 : Int64)), (.long ((own_min p1 p2).toInt64))])) _
      refine XS.lcmp X5.here hx rfl (hb hby at_135) rfl ?_
      show Steps p.tables e below (T5.setTop (mkF m 136 #[.val (.int p1), .val (.int p2), .val (.long ((own_min p1 p2).toInt64)), .second, .val (.long ((own_max p1 p2).toInt64)), .second, .val (.int (-1 : Int32)), .val (.int (own_abs (-1 : Int32)))] [(.int (lcmpW ((own_min p1 p2).toInt64) (0 : Int64)))])) _
      refine XS.ifYes X5.here hx rfl (pc0 := 136) (pc' := 144) rfl (hb hby at_136) rfl ((if0 _ _).trans (tlt ((lw_lt _ _).mpr f0)).1) (by decide) (by decide) ?_
      show Steps p.tables e below (T5.setTop (mkF m 144 #[.val (.int p1), .val (.int p2), .val (.long ((own_min p1 p2).toInt64)), .second, .val (.long ((own_max p1 p2).toInt64)), .second, .val (.int (-1 : Int32)), .val (.int (own_abs (-1 : Int32)))] [])) _
      refine XS.iconst X5.here hx rfl (hb hby at_144) ?_
      show Steps p.tables e below (T5.setTop (mkF m 145 #[.val (.int p1), .val (.int p2), .val (.long ((own_min p1 p2).toInt64)), .second, .val (.long ((own_max p1 p2).toInt64)), .second, .val (.int (-1 : Int32)), .val (.int (own_abs (-1 : Int32)))] [(.int (1 : Int32))])) _
      refine XS.goto X5.here hx rfl (pc0 := 145) (pc' := 149) rfl (hb hby at_145) (by decide) (by decide) ?_
      show Steps p.tables e below (T5.setTop (mkF m 149 #[.val (.int p1), .val (.int p2), .val (.long ((own_min p1 p2).toInt64)), .second, .val (.long ((own_max p1 p2).toInt64)), .second, .val (.int (-1 : Int32)), .val (.int (own_abs (-1 : Int32)))] [(.int (1 : Int32))])) _
      exact retN X5 hx (t := .boolean) Bd.returns (by simp) (hb hby at_149) hr
    · show Q0 Z p1 p2 h0 n0 _ T5.heap _
      exact ⟨rfl, N5⟩
  · obtain ⟨_, _, ⟨T4, L4, k4, n4⟩, -, X4, ⟨Lc4, hQ4, l4, y4, z4⟩, st4⟩ := Jvm.LawKit.callS X3 hx (y := (⟨"com/example/trailgen/trailgen/promela/StateCodecWidthForPinLaw", "holds", "(IJJ)Z"⟩ : MethodName)) hown (mvT hZ (hw _ (List.mem_of_getElem? (i := 12) rfl))) (mvT hZ (hw _ (List.mem_of_getElem? (i := 13) rfl))) (mvT hZ (hw _ (List.mem_of_getElem? (i := 14) rfl))) (mvT hZ (hw _ (List.mem_of_getElem? (i := 15) rfl))) (by decide) (backOf (W := 0) (rm7 l Z a0 hw [] (2 : Int32) ((own_min p1 p2).toInt64) ((own_max p1 p2).toInt64) h0 n0 Z0) hZ (hw _ (List.mem_of_getElem? (i := 15) rfl)) (hw _ (List.mem_of_getElem? (i := 14) rfl)) (by decide) (by decide)) (g := (mkF m 61 #[.val (.int p1), .val (.int p2), .val (.long ((own_min p1 p2).toInt64)), .second, .val (.long ((own_max p1 p2).toInt64)), .second, .val (.int (2 : Int32)), .unset] [(.long ((own_max p1 p2).toInt64)), (.long ((own_min p1 p2).toInt64)), (.int (2 : Int32))])) rfl (by rw [hml]; rfl) (argsL := [(.int (2 : Int32)), (.long ((own_min p1 p2).toInt64)), (.long ((own_max p1 p2).toInt64))]) (rest := []) (lenOf pd_ho rfl) rfl (by show 2 * 0 + _ ≤ _; exact Nat.le_of_eq rfl) (hb hby at_61) (fun _ _ => ⟨rfl, e3, (by decide : 0 + 0 ≤ _), (by decide : 0 + 0 ≤ _)⟩)
    dsimp only [Pt.U, Pt.locs, Pt.cells, Pt.slots] at X4 l4 y4 z4 st4 hQ4
    subst l4 y4 z4
    obtain ⟨rfl, N4q, e4⟩ := hQ4
    have N4 := Fr.app N3 N4q
    obtain ⟨_, _, ⟨T5, L5, k5, n5⟩, -, X5, ⟨Lc5, hQ5, l5, y5, z5⟩, st5⟩ := Jvm.LawKit.callS X4 hx (y := (⟨"java/lang/Math", "abs", "(I)I"⟩ : MethodName)) hown (mvT hZ (hw _ (List.mem_of_getElem? (i := 23) rfl))) (mvT hZ (hw _ (List.mem_of_getElem? (i := 24) rfl))) (mvT hZ (hw _ (List.mem_of_getElem? (i := 2) rfl))) (mvT hZ (hw _ (List.mem_of_getElem? (i := 25) rfl))) (by decide) (backOf (W := 0) (rm6 l Z a0 hw [] (2 : Int32) h0 n0 Z0) hZ (hw _ (List.mem_of_getElem? (i := 25) rfl)) (hw _ (List.mem_of_getElem? (i := 2) rfl)) (by decide) (by decide)) (g := (mkF m 71 #[.val (.int p1), .val (.int p2), .val (.long ((own_min p1 p2).toInt64)), .second, .val (.long ((own_max p1 p2).toInt64)), .second, .val (.int (2 : Int32)), .unset] [(.int (2 : Int32))])) rfl (by rw [hml]; rfl) (argsL := [(.int (2 : Int32))]) (rest := []) (lenOf pd_ab rfl) rfl (by show 2 * 0 + _ ≤ _; exact Nat.le_of_eq rfl) (hb hby at_71) (fun _ _ => ⟨rfl, e4, (by decide : 0 + 0 ≤ _), (by decide : 0 + 0 ≤ _)⟩)
    dsimp only [Pt.U, Pt.locs, Pt.cells, Pt.slots] at X5 l5 y5 z5 st5 hQ5
    subst l5 y5 z5
    obtain ⟨rfl, N5q, e5⟩ := hQ5
    have N5 := Fr.app N4 N5q
    obtain ⟨_, _, ⟨T6, L6, k6, n6⟩, -, X6, ⟨Lc6, hQ6, l6, y6, z6⟩, st6⟩ := Jvm.LawKit.callS X5 hx (y := (⟨"com/example/trailgen/trailgen/promela/StateCodecWidthForPinLaw", "holds", "(IJJ)Z"⟩ : MethodName)) hown (mvT hZ (hw _ (List.mem_of_getElem? (i := 12) rfl))) (mvT hZ (hw _ (List.mem_of_getElem? (i := 13) rfl))) (mvT hZ (hw _ (List.mem_of_getElem? (i := 14) rfl))) (mvT hZ (hw _ (List.mem_of_getElem? (i := 15) rfl))) (by decide) (backOf (W := 0) (rm7 l Z a0 hw [] (1 : Int32) ((own_min p1 p2).toInt64) ((own_max p1 p2).toInt64) h0 n0 Z0) hZ (hw _ (List.mem_of_getElem? (i := 15) rfl)) (hw _ (List.mem_of_getElem? (i := 14) rfl)) (by decide) (by decide)) (g := (mkF m 86 #[.val (.int p1), .val (.int p2), .val (.long ((own_min p1 p2).toInt64)), .second, .val (.long ((own_max p1 p2).toInt64)), .second, .val (.int (2 : Int32)), .val (.int (own_abs (2 : Int32)))] [(.long ((own_max p1 p2).toInt64)), (.long ((own_min p1 p2).toInt64)), (.int (1 : Int32))])) rfl (by rw [hml]; rfl) (argsL := [(.int (1 : Int32)), (.long ((own_min p1 p2).toInt64)), (.long ((own_max p1 p2).toInt64))]) (rest := []) (lenOf pd_ho rfl) rfl (by show 2 * 0 + _ ≤ _; exact Nat.le_of_eq rfl) (hb hby at_86) (fun _ _ => ⟨rfl, e5, (by decide : 0 + 0 ≤ _), (by decide : 0 + 0 ≤ _)⟩)
    dsimp only [Pt.U, Pt.locs, Pt.cells, Pt.slots] at X6 l6 y6 z6 st6 hQ6
    subst l6 y6 z6
    obtain ⟨rfl, N6q, e6⟩ := hQ6
    have N6 := Fr.app N5 N6q
    obtain ⟨_, _, ⟨T7, L7, k7, n7⟩, -, X7, ⟨Lc7, hQ7, l7, y7, z7⟩, st7⟩ := Jvm.LawKit.callS X6 hx (y := (⟨"com/example/trailgen/trailgen/promela/StateCodecWidthForPinLaw", "holds", "(IJJ)Z"⟩ : MethodName)) hown (mvT hZ (hw _ (List.mem_of_getElem? (i := 12) rfl))) (mvT hZ (hw _ (List.mem_of_getElem? (i := 13) rfl))) (mvT hZ (hw _ (List.mem_of_getElem? (i := 14) rfl))) (mvT hZ (hw _ (List.mem_of_getElem? (i := 15) rfl))) (by decide) (backOf (W := 0) (rm7 l Z a0 hw [] (-1 : Int32) ((own_min p1 p2).toInt64) ((own_max p1 p2).toInt64) h0 n0 Z0) hZ (hw _ (List.mem_of_getElem? (i := 15) rfl)) (hw _ (List.mem_of_getElem? (i := 14) rfl)) (by decide) (by decide)) (g := (mkF m 96 #[.val (.int p1), .val (.int p2), .val (.long ((own_min p1 p2).toInt64)), .second, .val (.long ((own_max p1 p2).toInt64)), .second, .val (.int (2 : Int32)), .val (.int (own_abs (2 : Int32)))] [(.long ((own_max p1 p2).toInt64)), (.long ((own_min p1 p2).toInt64)), (.int (-1 : Int32))])) rfl (by rw [hml]; rfl) (argsL := [(.int (-1 : Int32)), (.long ((own_min p1 p2).toInt64)), (.long ((own_max p1 p2).toInt64))]) (rest := []) (lenOf pd_ho rfl) rfl (by show 2 * 0 + _ ≤ _; exact Nat.le_of_eq rfl) (hb hby at_96) (fun _ _ => ⟨rfl, e6, (by decide : 0 + 0 ≤ _), (by decide : 0 + 0 ≤ _)⟩)
    dsimp only [Pt.U, Pt.locs, Pt.cells, Pt.slots] at X7 l7 y7 z7 st7 hQ7
    subst l7 y7 z7
    obtain ⟨rfl, N7q, e7⟩ := hQ7
    have N7 := Fr.app N6 N7q
    obtain ⟨fs, hr, hrun, hended, hW, hsame⟩ := X7.leave (v := some (.int (1 : Int32))) (fun h => by rw [Bd.returns] at h; cases h)
    refine ⟨_, _, pre0 _ ?_, hrun, hended, _, _, rfl, ?_, ⟨_, rfl⟩, hW, hsame.mono (by decide) (by decide)⟩
    · show Steps p.tables e below (s₁.setTop (mkF m 0 #[.val (.int p1), .val (.int p2), .unset, .unset, .unset, .unset, .unset, .unset] [])) _
      refine XS.iloadN X0.here hx rfl (hb hby at_0) rfl ?_
      show Steps p.tables e below (s₁.setTop (mkF m 1 #[.val (.int p1), .val (.int p2), .unset, .unset, .unset, .unset, .unset, .unset] [(.int p1)])) _
      refine XS.iloadN X0.here hx rfl (hb hby at_1) rfl ?_
      show Steps p.tables e below (s₁.setTop (mkF m 2 #[.val (.int p1), .val (.int p2), .unset, .unset, .unset, .unset, .unset, .unset] [(.int p2), (.int p1)])) _
      refine st1 _ ?_
      show Steps p.tables e below (T1.setTop (mkF m 5 #[.val (.int p1), .val (.int p2), .unset, .unset, .unset, .unset, .unset, .unset] [(.int (own_min p1 p2))])) _
      refine XS.i2l X1.here hx rfl (hb hby at_5) rfl ?_
      show Steps p.tables e below (T1.setTop (mkF m 6 #[.val (.int p1), .val (.int p2), .unset, .unset, .unset, .unset, .unset, .unset] [(.long ((own_min p1 p2).toInt64))])) _
      refine XS.lstoreN X1.here hx rfl (hb hby at_6) rfl (l' := #[.val (.int p1), .val (.int p2), .val (.long ((own_min p1 p2).toInt64)), .second, .unset, .unset, .unset, .unset]) rfl ?_
      show Steps p.tables e below (T1.setTop (mkF m 7 #[.val (.int p1), .val (.int p2), .val (.long ((own_min p1 p2).toInt64)), .second, .unset, .unset, .unset, .unset] [])) _
      refine XS.iloadN X1.here hx rfl (hb hby at_7) rfl ?_
      show Steps p.tables e below (T1.setTop (mkF m 8 #[.val (.int p1), .val (.int p2), .val (.long ((own_min p1 p2).toInt64)), .second, .unset, .unset, .unset, .unset] [(.int p1)])) _
      refine XS.iloadN X1.here hx rfl (hb hby at_8) rfl ?_
      show Steps p.tables e below (T1.setTop (mkF m 9 #[.val (.int p1), .val (.int p2), .val (.long ((own_min p1 p2).toInt64)), .second, .unset, .unset, .unset, .unset] [(.int p2), (.int p1)])) _
      refine st2 _ ?_
      show Steps p.tables e below (T2.setTop (mkF m 12 #[.val (.int p1), .val (.int p2), .val (.long ((own_min p1 p2).toInt64)), .second, .unset, .unset, .unset, .unset] [(.int (own_max p1 p2))])) _
      refine XS.i2l X2.here hx rfl (hb hby at_12) rfl ?_
      show Steps p.tables e below (T2.setTop (mkF m 13 #[.val (.int p1), .val (.int p2), .val (.long ((own_min p1 p2).toInt64)), .second, .unset, .unset, .unset, .unset] [(.long ((own_max p1 p2).toInt64))])) _
      refine XS.lstore X2.here hx rfl (hb hby at_13) rfl (l' := #[.val (.int p1), .val (.int p2), .val (.long ((own_min p1 p2).toInt64)), .second, .val (.long ((own_max p1 p2).toInt64)), .second, .unset, .unset]) rfl ?_
      show Steps p.tables e below (T2.setTop (mkF m 15 #[.val (.int p1), .val (.int p2), .val (.long ((own_min p1 p2).toInt64)), .second, .val (.long ((own_max p1 p2).toInt64)), .second, .unset, .unset] [])) _
      refine XS.lloadN X2.here hx rfl (hb hby at_15) rfl ?_
      show Steps p.tables e below (T2.setTop (mkF m 16 #[.val (.int p1), .val (.int p2), .val (.long ((own_min p1 p2).toInt64)), .second, .val (.long ((own_max p1 p2).toInt64)), .second, .unset, .unset] [(.long ((own_min p1 p2).toInt64))])) _
      refine XS.lload X2.here hx rfl (hb hby at_16) rfl ?_
      show Steps p.tables e below (T2.setTop (mkF m 18 #[.val (.int p1), .val (.int p2), .val (.long ((own_min p1 p2).toInt64)), .second, .val (.long ((own_max p1 p2).toInt64)), .second, .unset, .unset] [(.long ((own_max p1 p2).toInt64)), (.long ((own_min p1 p2).toInt64))])) _
      refine st3 _ ?_
      show Steps p.tables e below (T3.setTop (mkF m 21 #[.val (.int p1), .val (.int p2), .val (.long ((own_min p1 p2).toInt64)), .second, .val (.long ((own_max p1 p2).toInt64)), .second, .unset, .unset] [(.int (2 : Int32))])) _
      refine XS.istore X3.here hx rfl (hb hby at_21) rfl (l' := #[.val (.int p1), .val (.int p2), .val (.long ((own_min p1 p2).toInt64)), .second, .val (.long ((own_max p1 p2).toInt64)), .second, .val (.int (2 : Int32)), .unset]) rfl ?_
      show Steps p.tables e below (T3.setTop (mkF m 23 #[.val (.int p1), .val (.int p2), .val (.long ((own_min p1 p2).toInt64)), .second, .val (.long ((own_max p1 p2).toInt64)), .second, .val (.int (2 : Int32)), .unset] [])) _
      refine XS.iload X3.here hx rfl (hb hby at_23) rfl ?_
      show Steps p.tables e below (T3.setTop (mkF m 25 #[.val (.int p1), .val (.int p2), .val (.long ((own_min p1 p2).toInt64)), .second, .val (.long ((own_max p1 p2).toInt64)), .second, .val (.int (2 : Int32)), .unset] [(.int (2 : Int32))])) _
      refine XS.iconst X3.here hx rfl (hb hby at_25) ?_
      show Steps p.tables e below (T3.setTop (mkF m 26 #[.val (.int p1), .val (.int p2), .val (.long ((own_min p1 p2).toInt64)), .second, .val (.long ((own_max p1 p2).toInt64)), .second, .val (.int (2 : Int32)), .unset] [(.int (1 : Int32)), (.int (2 : Int32))])) _
      refine XS.icmpNo X3.here hx rfl (hb hby at_26) rfl (feq (by decide)).1 ?_
      show Steps p.tables e below (T3.setTop (mkF m 29 #[.val (.int p1), .val (.int p2), .val (.long ((own_min p1 p2).toInt64)), .second, .val (.long ((own_max p1 p2).toInt64)), .second, .val (.int (2 : Int32)), .unset] [])) _
      refine XS.iload X3.here hx rfl (hb hby at_29) rfl ?_
      show Steps p.tables e below (T3.setTop (mkF m 31 #[.val (.int p1), .val (.int p2), .val (.long ((own_min p1 p2).toInt64)), .second, .val (.long ((own_max p1 p2).toInt64)), .second, .val (.int (2 : Int32)), .unset] [(.int (2 : Int32))])) _
      refine XS.iconst X3.here hx rfl (hb hby at_31) ?_
      show Steps p.tables e below (T3.setTop (mkF m 32 #[.val (.int p1), .val (.int p2), .val (.long ((own_min p1 p2).toInt64)), .second, .val (.long ((own_max p1 p2).toInt64)), .second, .val (.int (2 : Int32)), .unset] [(.int (-1 : Int32)), (.int (2 : Int32))])) _
      refine XS.icmpNo X3.here hx rfl (hb hby at_32) rfl (feq (by decide)).1 ?_
      show Steps p.tables e below (T3.setTop (mkF m 35 #[.val (.int p1), .val (.int p2), .val (.long ((own_min p1 p2).toInt64)), .second, .val (.long ((own_max p1 p2).toInt64)), .second, .val (.int (2 : Int32)), .unset] [])) _
      refine XS.iload X3.here hx rfl (hb hby at_35) rfl ?_
      show Steps p.tables e below (T3.setTop (mkF m 37 #[.val (.int p1), .val (.int p2), .val (.long ((own_min p1 p2).toInt64)), .second, .val (.long ((own_max p1 p2).toInt64)), .second, .val (.int (2 : Int32)), .unset] [(.int (2 : Int32))])) _
      refine XS.iconst X3.here hx rfl (hb hby at_37) ?_
      show Steps p.tables e below (T3.setTop (mkF m 38 #[.val (.int p1), .val (.int p2), .val (.long ((own_min p1 p2).toInt64)), .second, .val (.long ((own_max p1 p2).toInt64)), .second, .val (.int (2 : Int32)), .unset] [(.int (2 : Int32)), (.int (2 : Int32))])) _
      refine XS.icmpYes X3.here hx rfl (pc0 := 38) (pc' := 56) rfl (hb hby at_38) rfl (teq (by decide)).1 (by decide) (by decide) ?_
      show Steps p.tables e below (T3.setTop (mkF m 56 #[.val (.int p1), .val (.int p2), .val (.long ((own_min p1 p2).toInt64)), .second, .val (.long ((own_max p1 p2).toInt64)), .second, .val (.int (2 : Int32)), .unset] [])) _
      refine XS.iload X3.here hx rfl (hb hby at_56) rfl ?_
      show Steps p.tables e below (T3.setTop (mkF m 58 #[.val (.int p1), .val (.int p2), .val (.long ((own_min p1 p2).toInt64)), .second, .val (.long ((own_max p1 p2).toInt64)), .second, .val (.int (2 : Int32)), .unset] [(.int (2 : Int32))])) _
      refine XS.lloadN X3.here hx rfl (hb hby at_58) rfl ?_
      show Steps p.tables e below (T3.setTop (mkF m 59 #[.val (.int p1), .val (.int p2), .val (.long ((own_min p1 p2).toInt64)), .second, .val (.long ((own_max p1 p2).toInt64)), .second, .val (.int (2 : Int32)), .unset] [(.long ((own_min p1 p2).toInt64)), (.int (2 : Int32))])) _
      refine XS.lload X3.here hx rfl (hb hby at_59) rfl ?_
      show Steps p.tables e below (T3.setTop (mkF m 61 #[.val (.int p1), .val (.int p2), .val (.long ((own_min p1 p2).toInt64)), .second, .val (.long ((own_max p1 p2).toInt64)), .second, .val (.int (2 : Int32)), .unset] [(.long ((own_max p1 p2).toInt64)), (.long ((own_min p1 p2).toInt64)), (.int (2 : Int32))])) _
      refine st4 _ ?_
      show Steps p.tables e below (T4.setTop (mkF m 64 #[.val (.int p1), .val (.int p2), .val (.long ((own_min p1 p2).toInt64)), .second, .val (.long ((own_max p1 p2).toInt64)), .second, .val (.int (2 : Int32)), .unset] [(.int (own_ho (2 : Int32) ((own_min p1 p2).toInt64) ((own_max p1 p2).toInt64)))])) _
      refine XS.ifYes X4.here hx rfl (pc0 := 64) (pc' := 69) rfl (hb hby at_64) rfl ((if0 _ _).trans (feq (by rw [f1]; decide)).2) (by decide) (by decide) ?_
      show Steps p.tables e below (T4.setTop (mkF m 69 #[.val (.int p1), .val (.int p2), .val (.long ((own_min p1 p2).toInt64)), .second, .val (.long ((own_max p1 p2).toInt64)), .second, .val (.int (2 : Int32)), .unset] [])) _
      refine XS.iload X4.here hx rfl (hb hby at_69) rfl ?_
      show Steps p.tables e below (T4.setTop (mkF m 71 #[.val (.int p1), .val (.int p2), .val (.long ((own_min p1 p2).toInt64)), .second, .val (.long ((own_max p1 p2).toInt64)), .second, .val (.int (2 : Int32)), .unset] [(.int (2 : Int32))])) _
      refine st5 _ ?_
      show Steps p.tables e below (T5.setTop (mkF m 74 #[.val (.int p1), .val (.int p2), .val (.long ((own_min p1 p2).toInt64)), .second, .val (.long ((own_max p1 p2).toInt64)), .second, .val (.int (2 : Int32)), .unset] [(.int (own_abs (2 : Int32)))])) _
      refine XS.istore X5.here hx rfl (hb hby at_74) rfl (l' := #[.val (.int p1), .val (.int p2), .val (.long ((own_min p1 p2).toInt64)), .second, .val (.long ((own_max p1 p2).toInt64)), .second, .val (.int (2 : Int32)), .val (.int (own_abs (2 : Int32)))]) rfl ?_
      show Steps p.tables e below (T5.setTop (mkF m 76 #[.val (.int p1), .val (.int p2), .val (.long ((own_min p1 p2).toInt64)), .second, .val (.long ((own_max p1 p2).toInt64)), .second, .val (.int (2 : Int32)), .val (.int (own_abs (2 : Int32)))] [])) _
      refine XS.iload X5.here hx rfl (hb hby at_76) rfl ?_
      show Steps p.tables e below (T5.setTop (mkF m 78 #[.val (.int p1), .val (.int p2), .val (.long ((own_min p1 p2).toInt64)), .second, .val (.long ((own_max p1 p2).toInt64)), .second, .val (.int (2 : Int32)), .val (.int (own_abs (2 : Int32)))] [(.int (own_abs (2 : Int32)))])) _
      refine XS.iconst X5.here hx rfl (hb hby at_78) ?_
      show Steps p.tables e below (T5.setTop (mkF m 79 #[.val (.int p1), .val (.int p2), .val (.long ((own_min p1 p2).toInt64)), .second, .val (.long ((own_max p1 p2).toInt64)), .second, .val (.int (2 : Int32)), .val (.int (own_abs (2 : Int32)))] [(.int (1 : Int32)), (.int (own_abs (2 : Int32)))])) _
      refine XS.icmpNo X5.here hx rfl (hb hby at_79) rfl (tlt (by decide)).2.2.2 ?_
      show Steps p.tables e below (T5.setTop (mkF m 82 #[.val (.int p1), .val (.int p2), .val (.long ((own_min p1 p2).toInt64)), .second, .val (.long ((own_max p1 p2).toInt64)), .second, .val (.int (2 : Int32)), .val (.int (own_abs (2 : Int32)))] [])) _
      refine XS.iconst X5.here hx rfl (hb hby at_82) ?_
      show Steps p.tables e below (T5.setTop (mkF m 83 #[.val (.int p1), .val (.int p2), .val (.long ((own_min p1 p2).toInt64)), .second, .val (.long ((own_max p1 p2).toInt64)), .second, .val (.int (2 : Int32)), .val (.int (own_abs (2 : Int32)))] [(.int (1 : Int32))])) _
      refine XS.lloadN X5.here hx rfl (hb hby at_83) rfl ?_
      show Steps p.tables e below (T5.setTop (mkF m 84 #[.val (.int p1), .val (.int p2), .val (.long ((own_min p1 p2).toInt64)), .second, .val (.long ((own_max p1 p2).toInt64)), .second, .val (.int (2 : Int32)), .val (.int (own_abs (2 : Int32)))] [(.long ((own_min p1 p2).toInt64)), (.int (1 : Int32))])) _
      refine XS.lload X5.here hx rfl (hb hby at_84) rfl ?_
      show Steps p.tables e below (T5.setTop (mkF m 86 #[.val (.int p1), .val (.int p2), .val (.long ((own_min p1 p2).toInt64)), .second, .val (.long ((own_max p1 p2).toInt64)), .second, .val (.int (2 : Int32)), .val (.int (own_abs (2 : Int32)))] [(.long ((own_max p1 p2).toInt64)), (.long ((own_min p1 p2).toInt64)), (.int (1 : Int32))])) _
      refine st6 _ ?_
      show Steps p.tables e below (T6.setTop (mkF m 89 #[.val (.int p1), .val (.int p2), .val (.long ((own_min p1 p2).toInt64)), .second, .val (.long ((own_max p1 p2).toInt64)), .second, .val (.int (2 : Int32)), .val (.int (own_abs (2 : Int32)))] [(.int (own_ho (1 : Int32) ((own_min p1 p2).toInt64) ((own_max p1 p2).toInt64)))])) _
      refine XS.ifNo X6.here hx rfl (hb hby at_89) rfl ((if0 _ _).trans (teq f2).2) ?_
      show Steps p.tables e below (T6.setTop (mkF m 92 #[.val (.int p1), .val (.int p2), .val (.long ((own_min p1 p2).toInt64)), .second, .val (.long ((own_max p1 p2).toInt64)), .second, .val (.int (2 : Int32)), .val (.int (own_abs (2 : Int32)))] [])) _
      refine XS.iconst X6.here hx rfl (hb hby at_92) ?_
      show Steps p.tables e below (T6.setTop (mkF m 93 #[.val (.int p1), .val (.int p2), .val (.long ((own_min p1 p2).toInt64)), .second, .val (.long ((own_max p1 p2).toInt64)), .second, .val (.int (2 : Int32)), .val (.int (own_abs (2 : Int32)))] [(.int (-1 : Int32))])) _
      refine XS.lloadN X6.here hx rfl (hb hby at_93) rfl ?_
      show Steps p.tables e below (T6.setTop (mkF m 94 #[.val (.int p1), .val (.int p2), .val (.long ((own_min p1 p2).toInt64)), .second, .val (.long ((own_max p1 p2).toInt64)), .second, .val (.int (2 : Int32)), .val (.int (own_abs (2 : Int32)))] [(.long ((own_min p1 p2).toInt64)), (.int (-1 : Int32))])) _
      refine XS.lload X6.here hx rfl (hb hby at_94) rfl ?_
      show Steps p.tables e below (T6.setTop (mkF m 96 #[.val (.int p1), .val (.int p2), .val (.long ((own_min p1 p2).toInt64)), .second, .val (.long ((own_max p1 p2).toInt64)), .second, .val (.int (2 : Int32)), .val (.int (own_abs (2 : Int32)))] [(.long ((own_max p1 p2).toInt64)), (.long ((own_min p1 p2).toInt64)), (.int (-1 : Int32))])) _
      refine st7 _ ?_
      show Steps p.tables e below (T7.setTop (mkF m 99 #[.val (.int p1), .val (.int p2), .val (.long ((own_min p1 p2).toInt64)), .second, .val (.long ((own_max p1 p2).toInt64)), .second, .val (.int (2 : Int32)), .val (.int (own_abs (2 : Int32)))] [(.int (own_ho (-1 : Int32) ((own_min p1 p2).toInt64) ((own_max p1 p2).toInt64)))])) _
      refine XS.ifYes X7.here hx rfl (pc0 := 99) (pc' := 104) rfl (hb hby at_99) rfl ((if0 _ _).trans (teq f3).1) (by decide) (by decide) ?_
      show Steps p.tables e below (T7.setTop (mkF m 104 #[.val (.int p1), .val (.int p2), .val (.long ((own_min p1 p2).toInt64)), .second, .val (.long ((own_max p1 p2).toInt64)), .second, .val (.int (2 : Int32)), .val (.int (own_abs (2 : Int32)))] [])) _
      refine XS.iload X7.here hx rfl (hb hby at_104) rfl ?_
      show Steps p.tables e below (T7.setTop (mkF m 106 #[.val (.int p1), .val (.int p2), .val (.long ((own_min p1 p2).toInt64)), .second, .val (.long ((own_max p1 p2).toInt64)), .second, .val (.int (2 : Int32)), .val (.int (own_abs (2 : Int32)))] [(.int (own_abs (2 : Int32)))])) _
      refine XS.iconst X7.here hx rfl (hb hby at_106) ?_
      show Steps p.tables e below (T7.setTop (mkF m 107 #[.val (.int p1), .val (.int p2), .val (.long ((own_min p1 p2).toInt64)), .second, .val (.long ((own_max p1 p2).toInt64)), .second, .val (.int (2 : Int32)), .val (.int (own_abs (2 : Int32)))] [(.int (2 : Int32)), (.int (own_abs (2 : Int32)))])) _
      refine XS.icmpYes X7.here hx rfl (pc0 := 107) (pc' := 133) rfl (hb hby at_107) rfl (flt (by decide)).2.2.2 (by decide) (by decide) ?_
      show Steps p.tables e below (T7.setTop (mkF m 133 #[.val (.int p1), .val (.int p2), .val (.long ((own_min p1 p2).toInt64)), .second, .val (.long ((own_max p1 p2).toInt64)), .second, .val (.int (2 : Int32)), .val (.int (own_abs (2 : Int32)))] [])) _
      refine XS.lloadN X7.here hx rfl (hb hby at_133) rfl ?_
      show Steps p.tables e below (T7.setTop (mkF m 134 #[.val (.int p1), .val (.int p2), .val (.long ((own_min p1 p2).toInt64)), .second, .val (.long ((own_max p1 p2).toInt64)), .second, .val (.int (2 : Int32)), .val (.int (own_abs (2 : Int32)))] [(.long ((own_min p1 p2).toInt64))])) _
      refine XS.lconst X7.here hx rfl (hb hby at_134) ?_
      show Steps p.tables e below (T7.setTop (mkF m 135 #[.val (.int p1), .val (.int p2), .val (.long ((own_min p1 p2).toInt64)), .second, .val (.long ((own_max p1 p2).toInt64)), .second, .val (.int (2 : Int32)), .val (.int (own_abs (2 : Int32)))] [(.long (0 : Int64)), (.long ((own_min p1 p2).toInt64))])) _
      refine XS.lcmp X7.here hx rfl (hb hby at_135) rfl ?_
      show Steps p.tables e below (T7.setTop (mkF m 136 #[.val (.int p1), .val (.int p2), .val (.long ((own_min p1 p2).toInt64)), .second, .val (.long ((own_max p1 p2).toInt64)), .second, .val (.int (2 : Int32)), .val (.int (own_abs (2 : Int32)))] [(.int (lcmpW ((own_min p1 p2).toInt64) (0 : Int64)))])) _
      refine XS.ifNo X7.here hx rfl (hb hby at_136) rfl ((if0 _ _).trans (flt (fun q => f0 ((lw_lt _ _).mp q))).1) ?_
      show Steps p.tables e below (T7.setTop (mkF m 139 #[.val (.int p1), .val (.int p2), .val (.long ((own_min p1 p2).toInt64)), .second, .val (.long ((own_max p1 p2).toInt64)), .second, .val (.int (2 : Int32)), .val (.int (own_abs (2 : Int32)))] [])) _
      refine XS.iload X7.here hx rfl (hb hby at_139) rfl ?_
      show Steps p.tables e below (T7.setTop (mkF m 141 #[.val (.int p1), .val (.int p2), .val (.long ((own_min p1 p2).toInt64)), .second, .val (.long ((own_max p1 p2).toInt64)), .second, .val (.int (2 : Int32)), .val (.int (own_abs (2 : Int32)))] [(.int (2 : Int32))])) _
      refine XS.ifNo X7.here hx rfl (hb hby at_141) rfl ((if0 _ _).trans (tlt (by decide)).2.2.2) ?_
      show Steps p.tables e below (T7.setTop (mkF m 144 #[.val (.int p1), .val (.int p2), .val (.long ((own_min p1 p2).toInt64)), .second, .val (.long ((own_max p1 p2).toInt64)), .second, .val (.int (2 : Int32)), .val (.int (own_abs (2 : Int32)))] [])) _
      refine XS.iconst X7.here hx rfl (hb hby at_144) ?_
      show Steps p.tables e below (T7.setTop (mkF m 145 #[.val (.int p1), .val (.int p2), .val (.long ((own_min p1 p2).toInt64)), .second, .val (.long ((own_max p1 p2).toInt64)), .second, .val (.int (2 : Int32)), .val (.int (own_abs (2 : Int32)))] [(.int (1 : Int32))])) _
      refine XS.goto X7.here hx rfl (pc0 := 145) (pc' := 149) rfl (hb hby at_145) (by decide) (by decide) ?_
      show Steps p.tables e below (T7.setTop (mkF m 149 #[.val (.int p1), .val (.int p2), .val (.long ((own_min p1 p2).toInt64)), .second, .val (.long ((own_max p1 p2).toInt64)), .second, .val (.int (2 : Int32)), .val (.int (own_abs (2 : Int32)))] [(.int (1 : Int32))])) _
      exact retN X7 hx (t := .boolean) Bd.returns (by simp) (hb hby at_149) hr
    · show Q0 Z p1 p2 h0 n0 _ T7.heap _
      exact ⟨rfl, N7⟩
  · obtain ⟨_, _, ⟨T4, L4, k4, n4⟩, -, X4, ⟨Lc4, hQ4, l4, y4, z4⟩, st4⟩ := Jvm.LawKit.callS X3 hx (y := (⟨"com/example/trailgen/trailgen/promela/StateCodecWidthForPinLaw", "holds", "(IJJ)Z"⟩ : MethodName)) hown (mvT hZ (hw _ (List.mem_of_getElem? (i := 12) rfl))) (mvT hZ (hw _ (List.mem_of_getElem? (i := 13) rfl))) (mvT hZ (hw _ (List.mem_of_getElem? (i := 14) rfl))) (mvT hZ (hw _ (List.mem_of_getElem? (i := 15) rfl))) (by decide) (backOf (W := 0) (rm7 l Z a0 hw [] (-2 : Int32) ((own_min p1 p2).toInt64) ((own_max p1 p2).toInt64) h0 n0 Z0) hZ (hw _ (List.mem_of_getElem? (i := 15) rfl)) (hw _ (List.mem_of_getElem? (i := 14) rfl)) (by decide) (by decide)) (g := (mkF m 61 #[.val (.int p1), .val (.int p2), .val (.long ((own_min p1 p2).toInt64)), .second, .val (.long ((own_max p1 p2).toInt64)), .second, .val (.int (-2 : Int32)), .unset] [(.long ((own_max p1 p2).toInt64)), (.long ((own_min p1 p2).toInt64)), (.int (-2 : Int32))])) rfl (by rw [hml]; rfl) (argsL := [(.int (-2 : Int32)), (.long ((own_min p1 p2).toInt64)), (.long ((own_max p1 p2).toInt64))]) (rest := []) (lenOf pd_ho rfl) rfl (by show 2 * 0 + _ ≤ _; exact Nat.le_of_eq rfl) (hb hby at_61) (fun _ _ => ⟨rfl, e3, (by decide : 0 + 0 ≤ _), (by decide : 0 + 0 ≤ _)⟩)
    dsimp only [Pt.U, Pt.locs, Pt.cells, Pt.slots] at X4 l4 y4 z4 st4 hQ4
    subst l4 y4 z4
    obtain ⟨rfl, N4q, e4⟩ := hQ4
    have N4 := Fr.app N3 N4q
    obtain ⟨_, _, ⟨T5, L5, k5, n5⟩, -, X5, ⟨Lc5, hQ5, l5, y5, z5⟩, st5⟩ := Jvm.LawKit.callS X4 hx (y := (⟨"java/lang/Math", "abs", "(I)I"⟩ : MethodName)) hown (mvT hZ (hw _ (List.mem_of_getElem? (i := 23) rfl))) (mvT hZ (hw _ (List.mem_of_getElem? (i := 24) rfl))) (mvT hZ (hw _ (List.mem_of_getElem? (i := 2) rfl))) (mvT hZ (hw _ (List.mem_of_getElem? (i := 25) rfl))) (by decide) (backOf (W := 0) (rm6 l Z a0 hw [] (-2 : Int32) h0 n0 Z0) hZ (hw _ (List.mem_of_getElem? (i := 25) rfl)) (hw _ (List.mem_of_getElem? (i := 2) rfl)) (by decide) (by decide)) (g := (mkF m 71 #[.val (.int p1), .val (.int p2), .val (.long ((own_min p1 p2).toInt64)), .second, .val (.long ((own_max p1 p2).toInt64)), .second, .val (.int (-2 : Int32)), .unset] [(.int (-2 : Int32))])) rfl (by rw [hml]; rfl) (argsL := [(.int (-2 : Int32))]) (rest := []) (lenOf pd_ab rfl) rfl (by show 2 * 0 + _ ≤ _; exact Nat.le_of_eq rfl) (hb hby at_71) (fun _ _ => ⟨rfl, e4, (by decide : 0 + 0 ≤ _), (by decide : 0 + 0 ≤ _)⟩)
    dsimp only [Pt.U, Pt.locs, Pt.cells, Pt.slots] at X5 l5 y5 z5 st5 hQ5
    subst l5 y5 z5
    obtain ⟨rfl, N5q, e5⟩ := hQ5
    have N5 := Fr.app N4 N5q
    obtain ⟨_, _, ⟨T6, L6, k6, n6⟩, -, X6, ⟨Lc6, hQ6, l6, y6, z6⟩, st6⟩ := Jvm.LawKit.callS X5 hx (y := (⟨"com/example/trailgen/trailgen/promela/StateCodecWidthForPinLaw", "holds", "(IJJ)Z"⟩ : MethodName)) hown (mvT hZ (hw _ (List.mem_of_getElem? (i := 12) rfl))) (mvT hZ (hw _ (List.mem_of_getElem? (i := 13) rfl))) (mvT hZ (hw _ (List.mem_of_getElem? (i := 14) rfl))) (mvT hZ (hw _ (List.mem_of_getElem? (i := 15) rfl))) (by decide) (backOf (W := 0) (rm7 l Z a0 hw [] (1 : Int32) ((own_min p1 p2).toInt64) ((own_max p1 p2).toInt64) h0 n0 Z0) hZ (hw _ (List.mem_of_getElem? (i := 15) rfl)) (hw _ (List.mem_of_getElem? (i := 14) rfl)) (by decide) (by decide)) (g := (mkF m 86 #[.val (.int p1), .val (.int p2), .val (.long ((own_min p1 p2).toInt64)), .second, .val (.long ((own_max p1 p2).toInt64)), .second, .val (.int (-2 : Int32)), .val (.int (own_abs (-2 : Int32)))] [(.long ((own_max p1 p2).toInt64)), (.long ((own_min p1 p2).toInt64)), (.int (1 : Int32))])) rfl (by rw [hml]; rfl) (argsL := [(.int (1 : Int32)), (.long ((own_min p1 p2).toInt64)), (.long ((own_max p1 p2).toInt64))]) (rest := []) (lenOf pd_ho rfl) rfl (by show 2 * 0 + _ ≤ _; exact Nat.le_of_eq rfl) (hb hby at_86) (fun _ _ => ⟨rfl, e5, (by decide : 0 + 0 ≤ _), (by decide : 0 + 0 ≤ _)⟩)
    dsimp only [Pt.U, Pt.locs, Pt.cells, Pt.slots] at X6 l6 y6 z6 st6 hQ6
    subst l6 y6 z6
    obtain ⟨rfl, N6q, e6⟩ := hQ6
    have N6 := Fr.app N5 N6q
    obtain ⟨_, _, ⟨T7, L7, k7, n7⟩, -, X7, ⟨Lc7, hQ7, l7, y7, z7⟩, st7⟩ := Jvm.LawKit.callS X6 hx (y := (⟨"com/example/trailgen/trailgen/promela/StateCodecWidthForPinLaw", "holds", "(IJJ)Z"⟩ : MethodName)) hown (mvT hZ (hw _ (List.mem_of_getElem? (i := 12) rfl))) (mvT hZ (hw _ (List.mem_of_getElem? (i := 13) rfl))) (mvT hZ (hw _ (List.mem_of_getElem? (i := 14) rfl))) (mvT hZ (hw _ (List.mem_of_getElem? (i := 15) rfl))) (by decide) (backOf (W := 0) (rm7 l Z a0 hw [] (-1 : Int32) ((own_min p1 p2).toInt64) ((own_max p1 p2).toInt64) h0 n0 Z0) hZ (hw _ (List.mem_of_getElem? (i := 15) rfl)) (hw _ (List.mem_of_getElem? (i := 14) rfl)) (by decide) (by decide)) (g := (mkF m 96 #[.val (.int p1), .val (.int p2), .val (.long ((own_min p1 p2).toInt64)), .second, .val (.long ((own_max p1 p2).toInt64)), .second, .val (.int (-2 : Int32)), .val (.int (own_abs (-2 : Int32)))] [(.long ((own_max p1 p2).toInt64)), (.long ((own_min p1 p2).toInt64)), (.int (-1 : Int32))])) rfl (by rw [hml]; rfl) (argsL := [(.int (-1 : Int32)), (.long ((own_min p1 p2).toInt64)), (.long ((own_max p1 p2).toInt64))]) (rest := []) (lenOf pd_ho rfl) rfl (by show 2 * 0 + _ ≤ _; exact Nat.le_of_eq rfl) (hb hby at_96) (fun _ _ => ⟨rfl, e6, (by decide : 0 + 0 ≤ _), (by decide : 0 + 0 ≤ _)⟩)
    dsimp only [Pt.U, Pt.locs, Pt.cells, Pt.slots] at X7 l7 y7 z7 st7 hQ7
    subst l7 y7 z7
    obtain ⟨rfl, N7q, e7⟩ := hQ7
    have N7 := Fr.app N6 N7q
    obtain ⟨fs, hr, hrun, hended, hW, hsame⟩ := X7.leave (v := some (.int (1 : Int32))) (fun h => by rw [Bd.returns] at h; cases h)
    refine ⟨_, _, pre0 _ ?_, hrun, hended, _, _, rfl, ?_, ⟨_, rfl⟩, hW, hsame.mono (by decide) (by decide)⟩
    · show Steps p.tables e below (s₁.setTop (mkF m 0 #[.val (.int p1), .val (.int p2), .unset, .unset, .unset, .unset, .unset, .unset] [])) _
      refine XS.iloadN X0.here hx rfl (hb hby at_0) rfl ?_
      show Steps p.tables e below (s₁.setTop (mkF m 1 #[.val (.int p1), .val (.int p2), .unset, .unset, .unset, .unset, .unset, .unset] [(.int p1)])) _
      refine XS.iloadN X0.here hx rfl (hb hby at_1) rfl ?_
      show Steps p.tables e below (s₁.setTop (mkF m 2 #[.val (.int p1), .val (.int p2), .unset, .unset, .unset, .unset, .unset, .unset] [(.int p2), (.int p1)])) _
      refine st1 _ ?_
      show Steps p.tables e below (T1.setTop (mkF m 5 #[.val (.int p1), .val (.int p2), .unset, .unset, .unset, .unset, .unset, .unset] [(.int (own_min p1 p2))])) _
      refine XS.i2l X1.here hx rfl (hb hby at_5) rfl ?_
      show Steps p.tables e below (T1.setTop (mkF m 6 #[.val (.int p1), .val (.int p2), .unset, .unset, .unset, .unset, .unset, .unset] [(.long ((own_min p1 p2).toInt64))])) _
      refine XS.lstoreN X1.here hx rfl (hb hby at_6) rfl (l' := #[.val (.int p1), .val (.int p2), .val (.long ((own_min p1 p2).toInt64)), .second, .unset, .unset, .unset, .unset]) rfl ?_
      show Steps p.tables e below (T1.setTop (mkF m 7 #[.val (.int p1), .val (.int p2), .val (.long ((own_min p1 p2).toInt64)), .second, .unset, .unset, .unset, .unset] [])) _
      refine XS.iloadN X1.here hx rfl (hb hby at_7) rfl ?_
      show Steps p.tables e below (T1.setTop (mkF m 8 #[.val (.int p1), .val (.int p2), .val (.long ((own_min p1 p2).toInt64)), .second, .unset, .unset, .unset, .unset] [(.int p1)])) _
      refine XS.iloadN X1.here hx rfl (hb hby at_8) rfl ?_
      show Steps p.tables e below (T1.setTop (mkF m 9 #[.val (.int p1), .val (.int p2), .val (.long ((own_min p1 p2).toInt64)), .second, .unset, .unset, .unset, .unset] [(.int p2), (.int p1)])) _
      refine st2 _ ?_
      show Steps p.tables e below (T2.setTop (mkF m 12 #[.val (.int p1), .val (.int p2), .val (.long ((own_min p1 p2).toInt64)), .second, .unset, .unset, .unset, .unset] [(.int (own_max p1 p2))])) _
      refine XS.i2l X2.here hx rfl (hb hby at_12) rfl ?_
      show Steps p.tables e below (T2.setTop (mkF m 13 #[.val (.int p1), .val (.int p2), .val (.long ((own_min p1 p2).toInt64)), .second, .unset, .unset, .unset, .unset] [(.long ((own_max p1 p2).toInt64))])) _
      refine XS.lstore X2.here hx rfl (hb hby at_13) rfl (l' := #[.val (.int p1), .val (.int p2), .val (.long ((own_min p1 p2).toInt64)), .second, .val (.long ((own_max p1 p2).toInt64)), .second, .unset, .unset]) rfl ?_
      show Steps p.tables e below (T2.setTop (mkF m 15 #[.val (.int p1), .val (.int p2), .val (.long ((own_min p1 p2).toInt64)), .second, .val (.long ((own_max p1 p2).toInt64)), .second, .unset, .unset] [])) _
      refine XS.lloadN X2.here hx rfl (hb hby at_15) rfl ?_
      show Steps p.tables e below (T2.setTop (mkF m 16 #[.val (.int p1), .val (.int p2), .val (.long ((own_min p1 p2).toInt64)), .second, .val (.long ((own_max p1 p2).toInt64)), .second, .unset, .unset] [(.long ((own_min p1 p2).toInt64))])) _
      refine XS.lload X2.here hx rfl (hb hby at_16) rfl ?_
      show Steps p.tables e below (T2.setTop (mkF m 18 #[.val (.int p1), .val (.int p2), .val (.long ((own_min p1 p2).toInt64)), .second, .val (.long ((own_max p1 p2).toInt64)), .second, .unset, .unset] [(.long ((own_max p1 p2).toInt64)), (.long ((own_min p1 p2).toInt64))])) _
      refine st3 _ ?_
      show Steps p.tables e below (T3.setTop (mkF m 21 #[.val (.int p1), .val (.int p2), .val (.long ((own_min p1 p2).toInt64)), .second, .val (.long ((own_max p1 p2).toInt64)), .second, .unset, .unset] [(.int (-2 : Int32))])) _
      refine XS.istore X3.here hx rfl (hb hby at_21) rfl (l' := #[.val (.int p1), .val (.int p2), .val (.long ((own_min p1 p2).toInt64)), .second, .val (.long ((own_max p1 p2).toInt64)), .second, .val (.int (-2 : Int32)), .unset]) rfl ?_
      show Steps p.tables e below (T3.setTop (mkF m 23 #[.val (.int p1), .val (.int p2), .val (.long ((own_min p1 p2).toInt64)), .second, .val (.long ((own_max p1 p2).toInt64)), .second, .val (.int (-2 : Int32)), .unset] [])) _
      refine XS.iload X3.here hx rfl (hb hby at_23) rfl ?_
      show Steps p.tables e below (T3.setTop (mkF m 25 #[.val (.int p1), .val (.int p2), .val (.long ((own_min p1 p2).toInt64)), .second, .val (.long ((own_max p1 p2).toInt64)), .second, .val (.int (-2 : Int32)), .unset] [(.int (-2 : Int32))])) _
      refine XS.iconst X3.here hx rfl (hb hby at_25) ?_
      show Steps p.tables e below (T3.setTop (mkF m 26 #[.val (.int p1), .val (.int p2), .val (.long ((own_min p1 p2).toInt64)), .second, .val (.long ((own_max p1 p2).toInt64)), .second, .val (.int (-2 : Int32)), .unset] [(.int (1 : Int32)), (.int (-2 : Int32))])) _
      refine XS.icmpNo X3.here hx rfl (hb hby at_26) rfl (feq (by decide)).1 ?_
      show Steps p.tables e below (T3.setTop (mkF m 29 #[.val (.int p1), .val (.int p2), .val (.long ((own_min p1 p2).toInt64)), .second, .val (.long ((own_max p1 p2).toInt64)), .second, .val (.int (-2 : Int32)), .unset] [])) _
      refine XS.iload X3.here hx rfl (hb hby at_29) rfl ?_
      show Steps p.tables e below (T3.setTop (mkF m 31 #[.val (.int p1), .val (.int p2), .val (.long ((own_min p1 p2).toInt64)), .second, .val (.long ((own_max p1 p2).toInt64)), .second, .val (.int (-2 : Int32)), .unset] [(.int (-2 : Int32))])) _
      refine XS.iconst X3.here hx rfl (hb hby at_31) ?_
      show Steps p.tables e below (T3.setTop (mkF m 32 #[.val (.int p1), .val (.int p2), .val (.long ((own_min p1 p2).toInt64)), .second, .val (.long ((own_max p1 p2).toInt64)), .second, .val (.int (-2 : Int32)), .unset] [(.int (-1 : Int32)), (.int (-2 : Int32))])) _
      refine XS.icmpNo X3.here hx rfl (hb hby at_32) rfl (feq (by decide)).1 ?_
      show Steps p.tables e below (T3.setTop (mkF m 35 #[.val (.int p1), .val (.int p2), .val (.long ((own_min p1 p2).toInt64)), .second, .val (.long ((own_max p1 p2).toInt64)), .second, .val (.int (-2 : Int32)), .unset] [])) _
      refine XS.iload X3.here hx rfl (hb hby at_35) rfl ?_
      show Steps p.tables e below (T3.setTop (mkF m 37 #[.val (.int p1), .val (.int p2), .val (.long ((own_min p1 p2).toInt64)), .second, .val (.long ((own_max p1 p2).toInt64)), .second, .val (.int (-2 : Int32)), .unset] [(.int (-2 : Int32))])) _
      refine XS.iconst X3.here hx rfl (hb hby at_37) ?_
      show Steps p.tables e below (T3.setTop (mkF m 38 #[.val (.int p1), .val (.int p2), .val (.long ((own_min p1 p2).toInt64)), .second, .val (.long ((own_max p1 p2).toInt64)), .second, .val (.int (-2 : Int32)), .unset] [(.int (2 : Int32)), (.int (-2 : Int32))])) _
      refine XS.icmpNo X3.here hx rfl (hb hby at_38) rfl (feq (by decide)).1 ?_
      show Steps p.tables e below (T3.setTop (mkF m 41 #[.val (.int p1), .val (.int p2), .val (.long ((own_min p1 p2).toInt64)), .second, .val (.long ((own_max p1 p2).toInt64)), .second, .val (.int (-2 : Int32)), .unset] [])) _
      refine XS.iload X3.here hx rfl (hb hby at_41) rfl ?_
      show Steps p.tables e below (T3.setTop (mkF m 43 #[.val (.int p1), .val (.int p2), .val (.long ((own_min p1 p2).toInt64)), .second, .val (.long ((own_max p1 p2).toInt64)), .second, .val (.int (-2 : Int32)), .unset] [(.int (-2 : Int32))])) _
      refine XS.bipush X3.here hx rfl (hb hby at_43) ?_
      show Steps p.tables e below (T3.setTop (mkF m 45 #[.val (.int p1), .val (.int p2), .val (.long ((own_min p1 p2).toInt64)), .second, .val (.long ((own_max p1 p2).toInt64)), .second, .val (.int (-2 : Int32)), .unset] [(.int (-2 : Int32)), (.int (-2 : Int32))])) _
      refine XS.icmpYes X3.here hx rfl (pc0 := 45) (pc' := 56) rfl (hb hby at_45) rfl (teq (by decide)).1 (by decide) (by decide) ?_
      show Steps p.tables e below (T3.setTop (mkF m 56 #[.val (.int p1), .val (.int p2), .val (.long ((own_min p1 p2).toInt64)), .second, .val (.long ((own_max p1 p2).toInt64)), .second, .val (.int (-2 : Int32)), .unset] [])) _
      refine XS.iload X3.here hx rfl (hb hby at_56) rfl ?_
      show Steps p.tables e below (T3.setTop (mkF m 58 #[.val (.int p1), .val (.int p2), .val (.long ((own_min p1 p2).toInt64)), .second, .val (.long ((own_max p1 p2).toInt64)), .second, .val (.int (-2 : Int32)), .unset] [(.int (-2 : Int32))])) _
      refine XS.lloadN X3.here hx rfl (hb hby at_58) rfl ?_
      show Steps p.tables e below (T3.setTop (mkF m 59 #[.val (.int p1), .val (.int p2), .val (.long ((own_min p1 p2).toInt64)), .second, .val (.long ((own_max p1 p2).toInt64)), .second, .val (.int (-2 : Int32)), .unset] [(.long ((own_min p1 p2).toInt64)), (.int (-2 : Int32))])) _
      refine XS.lload X3.here hx rfl (hb hby at_59) rfl ?_
      show Steps p.tables e below (T3.setTop (mkF m 61 #[.val (.int p1), .val (.int p2), .val (.long ((own_min p1 p2).toInt64)), .second, .val (.long ((own_max p1 p2).toInt64)), .second, .val (.int (-2 : Int32)), .unset] [(.long ((own_max p1 p2).toInt64)), (.long ((own_min p1 p2).toInt64)), (.int (-2 : Int32))])) _
      refine st4 _ ?_
      show Steps p.tables e below (T4.setTop (mkF m 64 #[.val (.int p1), .val (.int p2), .val (.long ((own_min p1 p2).toInt64)), .second, .val (.long ((own_max p1 p2).toInt64)), .second, .val (.int (-2 : Int32)), .unset] [(.int (own_ho (-2 : Int32) ((own_min p1 p2).toInt64) ((own_max p1 p2).toInt64)))])) _
      refine XS.ifYes X4.here hx rfl (pc0 := 64) (pc' := 69) rfl (hb hby at_64) rfl ((if0 _ _).trans (feq (by rw [f1]; decide)).2) (by decide) (by decide) ?_
      show Steps p.tables e below (T4.setTop (mkF m 69 #[.val (.int p1), .val (.int p2), .val (.long ((own_min p1 p2).toInt64)), .second, .val (.long ((own_max p1 p2).toInt64)), .second, .val (.int (-2 : Int32)), .unset] [])) _
      refine XS.iload X4.here hx rfl (hb hby at_69) rfl ?_
      show Steps p.tables e below (T4.setTop (mkF m 71 #[.val (.int p1), .val (.int p2), .val (.long ((own_min p1 p2).toInt64)), .second, .val (.long ((own_max p1 p2).toInt64)), .second, .val (.int (-2 : Int32)), .unset] [(.int (-2 : Int32))])) _
      refine st5 _ ?_
      show Steps p.tables e below (T5.setTop (mkF m 74 #[.val (.int p1), .val (.int p2), .val (.long ((own_min p1 p2).toInt64)), .second, .val (.long ((own_max p1 p2).toInt64)), .second, .val (.int (-2 : Int32)), .unset] [(.int (own_abs (-2 : Int32)))])) _
      refine XS.istore X5.here hx rfl (hb hby at_74) rfl (l' := #[.val (.int p1), .val (.int p2), .val (.long ((own_min p1 p2).toInt64)), .second, .val (.long ((own_max p1 p2).toInt64)), .second, .val (.int (-2 : Int32)), .val (.int (own_abs (-2 : Int32)))]) rfl ?_
      show Steps p.tables e below (T5.setTop (mkF m 76 #[.val (.int p1), .val (.int p2), .val (.long ((own_min p1 p2).toInt64)), .second, .val (.long ((own_max p1 p2).toInt64)), .second, .val (.int (-2 : Int32)), .val (.int (own_abs (-2 : Int32)))] [])) _
      refine XS.iload X5.here hx rfl (hb hby at_76) rfl ?_
      show Steps p.tables e below (T5.setTop (mkF m 78 #[.val (.int p1), .val (.int p2), .val (.long ((own_min p1 p2).toInt64)), .second, .val (.long ((own_max p1 p2).toInt64)), .second, .val (.int (-2 : Int32)), .val (.int (own_abs (-2 : Int32)))] [(.int (own_abs (-2 : Int32)))])) _
      refine XS.iconst X5.here hx rfl (hb hby at_78) ?_
      show Steps p.tables e below (T5.setTop (mkF m 79 #[.val (.int p1), .val (.int p2), .val (.long ((own_min p1 p2).toInt64)), .second, .val (.long ((own_max p1 p2).toInt64)), .second, .val (.int (-2 : Int32)), .val (.int (own_abs (-2 : Int32)))] [(.int (1 : Int32)), (.int (own_abs (-2 : Int32)))])) _
      refine XS.icmpNo X5.here hx rfl (hb hby at_79) rfl (tlt (by decide)).2.2.2 ?_
      show Steps p.tables e below (T5.setTop (mkF m 82 #[.val (.int p1), .val (.int p2), .val (.long ((own_min p1 p2).toInt64)), .second, .val (.long ((own_max p1 p2).toInt64)), .second, .val (.int (-2 : Int32)), .val (.int (own_abs (-2 : Int32)))] [])) _
      refine XS.iconst X5.here hx rfl (hb hby at_82) ?_
      show Steps p.tables e below (T5.setTop (mkF m 83 #[.val (.int p1), .val (.int p2), .val (.long ((own_min p1 p2).toInt64)), .second, .val (.long ((own_max p1 p2).toInt64)), .second, .val (.int (-2 : Int32)), .val (.int (own_abs (-2 : Int32)))] [(.int (1 : Int32))])) _
      refine XS.lloadN X5.here hx rfl (hb hby at_83) rfl ?_
      show Steps p.tables e below (T5.setTop (mkF m 84 #[.val (.int p1), .val (.int p2), .val (.long ((own_min p1 p2).toInt64)), .second, .val (.long ((own_max p1 p2).toInt64)), .second, .val (.int (-2 : Int32)), .val (.int (own_abs (-2 : Int32)))] [(.long ((own_min p1 p2).toInt64)), (.int (1 : Int32))])) _
      refine XS.lload X5.here hx rfl (hb hby at_84) rfl ?_
      show Steps p.tables e below (T5.setTop (mkF m 86 #[.val (.int p1), .val (.int p2), .val (.long ((own_min p1 p2).toInt64)), .second, .val (.long ((own_max p1 p2).toInt64)), .second, .val (.int (-2 : Int32)), .val (.int (own_abs (-2 : Int32)))] [(.long ((own_max p1 p2).toInt64)), (.long ((own_min p1 p2).toInt64)), (.int (1 : Int32))])) _
      refine st6 _ ?_
      show Steps p.tables e below (T6.setTop (mkF m 89 #[.val (.int p1), .val (.int p2), .val (.long ((own_min p1 p2).toInt64)), .second, .val (.long ((own_max p1 p2).toInt64)), .second, .val (.int (-2 : Int32)), .val (.int (own_abs (-2 : Int32)))] [(.int (own_ho (1 : Int32) ((own_min p1 p2).toInt64) ((own_max p1 p2).toInt64)))])) _
      refine XS.ifNo X6.here hx rfl (hb hby at_89) rfl ((if0 _ _).trans (teq f2).2) ?_
      show Steps p.tables e below (T6.setTop (mkF m 92 #[.val (.int p1), .val (.int p2), .val (.long ((own_min p1 p2).toInt64)), .second, .val (.long ((own_max p1 p2).toInt64)), .second, .val (.int (-2 : Int32)), .val (.int (own_abs (-2 : Int32)))] [])) _
      refine XS.iconst X6.here hx rfl (hb hby at_92) ?_
      show Steps p.tables e below (T6.setTop (mkF m 93 #[.val (.int p1), .val (.int p2), .val (.long ((own_min p1 p2).toInt64)), .second, .val (.long ((own_max p1 p2).toInt64)), .second, .val (.int (-2 : Int32)), .val (.int (own_abs (-2 : Int32)))] [(.int (-1 : Int32))])) _
      refine XS.lloadN X6.here hx rfl (hb hby at_93) rfl ?_
      show Steps p.tables e below (T6.setTop (mkF m 94 #[.val (.int p1), .val (.int p2), .val (.long ((own_min p1 p2).toInt64)), .second, .val (.long ((own_max p1 p2).toInt64)), .second, .val (.int (-2 : Int32)), .val (.int (own_abs (-2 : Int32)))] [(.long ((own_min p1 p2).toInt64)), (.int (-1 : Int32))])) _
      refine XS.lload X6.here hx rfl (hb hby at_94) rfl ?_
      show Steps p.tables e below (T6.setTop (mkF m 96 #[.val (.int p1), .val (.int p2), .val (.long ((own_min p1 p2).toInt64)), .second, .val (.long ((own_max p1 p2).toInt64)), .second, .val (.int (-2 : Int32)), .val (.int (own_abs (-2 : Int32)))] [(.long ((own_max p1 p2).toInt64)), (.long ((own_min p1 p2).toInt64)), (.int (-1 : Int32))])) _
      refine st7 _ ?_
      show Steps p.tables e below (T7.setTop (mkF m 99 #[.val (.int p1), .val (.int p2), .val (.long ((own_min p1 p2).toInt64)), .second, .val (.long ((own_max p1 p2).toInt64)), .second, .val (.int (-2 : Int32)), .val (.int (own_abs (-2 : Int32)))] [(.int (own_ho (-1 : Int32) ((own_min p1 p2).toInt64) ((own_max p1 p2).toInt64)))])) _
      refine XS.ifYes X7.here hx rfl (pc0 := 99) (pc' := 104) rfl (hb hby at_99) rfl ((if0 _ _).trans (teq f3).1) (by decide) (by decide) ?_
      show Steps p.tables e below (T7.setTop (mkF m 104 #[.val (.int p1), .val (.int p2), .val (.long ((own_min p1 p2).toInt64)), .second, .val (.long ((own_max p1 p2).toInt64)), .second, .val (.int (-2 : Int32)), .val (.int (own_abs (-2 : Int32)))] [])) _
      refine XS.iload X7.here hx rfl (hb hby at_104) rfl ?_
      show Steps p.tables e below (T7.setTop (mkF m 106 #[.val (.int p1), .val (.int p2), .val (.long ((own_min p1 p2).toInt64)), .second, .val (.long ((own_max p1 p2).toInt64)), .second, .val (.int (-2 : Int32)), .val (.int (own_abs (-2 : Int32)))] [(.int (own_abs (-2 : Int32)))])) _
      refine XS.iconst X7.here hx rfl (hb hby at_106) ?_
      show Steps p.tables e below (T7.setTop (mkF m 107 #[.val (.int p1), .val (.int p2), .val (.long ((own_min p1 p2).toInt64)), .second, .val (.long ((own_max p1 p2).toInt64)), .second, .val (.int (-2 : Int32)), .val (.int (own_abs (-2 : Int32)))] [(.int (2 : Int32)), (.int (own_abs (-2 : Int32)))])) _
      refine XS.icmpYes X7.here hx rfl (pc0 := 107) (pc' := 133) rfl (hb hby at_107) rfl (flt (by decide)).2.2.2 (by decide) (by decide) ?_
      show Steps p.tables e below (T7.setTop (mkF m 133 #[.val (.int p1), .val (.int p2), .val (.long ((own_min p1 p2).toInt64)), .second, .val (.long ((own_max p1 p2).toInt64)), .second, .val (.int (-2 : Int32)), .val (.int (own_abs (-2 : Int32)))] [])) _
      refine XS.lloadN X7.here hx rfl (hb hby at_133) rfl ?_
      show Steps p.tables e below (T7.setTop (mkF m 134 #[.val (.int p1), .val (.int p2), .val (.long ((own_min p1 p2).toInt64)), .second, .val (.long ((own_max p1 p2).toInt64)), .second, .val (.int (-2 : Int32)), .val (.int (own_abs (-2 : Int32)))] [(.long ((own_min p1 p2).toInt64))])) _
      refine XS.lconst X7.here hx rfl (hb hby at_134) ?_
      show Steps p.tables e below (T7.setTop (mkF m 135 #[.val (.int p1), .val (.int p2), .val (.long ((own_min p1 p2).toInt64)), .second, .val (.long ((own_max p1 p2).toInt64)), .second, .val (.int (-2 : Int32)), .val (.int (own_abs (-2 : Int32)))] [(.long (0 : Int64)), (.long ((own_min p1 p2).toInt64))])) _
      refine XS.lcmp X7.here hx rfl (hb hby at_135) rfl ?_
      show Steps p.tables e below (T7.setTop (mkF m 136 #[.val (.int p1), .val (.int p2), .val (.long ((own_min p1 p2).toInt64)), .second, .val (.long ((own_max p1 p2).toInt64)), .second, .val (.int (-2 : Int32)), .val (.int (own_abs (-2 : Int32)))] [(.int (lcmpW ((own_min p1 p2).toInt64) (0 : Int64)))])) _
      refine XS.ifYes X7.here hx rfl (pc0 := 136) (pc' := 144) rfl (hb hby at_136) rfl ((if0 _ _).trans (tlt ((lw_lt _ _).mpr f0)).1) (by decide) (by decide) ?_
      show Steps p.tables e below (T7.setTop (mkF m 144 #[.val (.int p1), .val (.int p2), .val (.long ((own_min p1 p2).toInt64)), .second, .val (.long ((own_max p1 p2).toInt64)), .second, .val (.int (-2 : Int32)), .val (.int (own_abs (-2 : Int32)))] [])) _
      refine XS.iconst X7.here hx rfl (hb hby at_144) ?_
      show Steps p.tables e below (T7.setTop (mkF m 145 #[.val (.int p1), .val (.int p2), .val (.long ((own_min p1 p2).toInt64)), .second, .val (.long ((own_max p1 p2).toInt64)), .second, .val (.int (-2 : Int32)), .val (.int (own_abs (-2 : Int32)))] [(.int (1 : Int32))])) _
      refine XS.goto X7.here hx rfl (pc0 := 145) (pc' := 149) rfl (hb hby at_145) (by decide) (by decide) ?_
      show Steps p.tables e below (T7.setTop (mkF m 149 #[.val (.int p1), .val (.int p2), .val (.long ((own_min p1 p2).toInt64)), .second, .val (.long ((own_max p1 p2).toInt64)), .second, .val (.int (-2 : Int32)), .val (.int (own_abs (-2 : Int32)))] [(.int (1 : Int32))])) _
      exact retN X7 hx (t := .boolean) Bd.returns (by simp) (hb hby at_149) hr
    · show Q0 Z p1 p2 h0 n0 _ T7.heap _
      exact ⟨rfl, N7⟩
  · obtain ⟨_, _, ⟨T4, L4, k4, n4⟩, -, X4, ⟨Lc4, hQ4, l4, y4, z4⟩, st4⟩ := Jvm.LawKit.callS X3 hx (y := (⟨"com/example/trailgen/trailgen/promela/StateCodecWidthForPinLaw", "holds", "(IJJ)Z"⟩ : MethodName)) hown (mvT hZ (hw _ (List.mem_of_getElem? (i := 12) rfl))) (mvT hZ (hw _ (List.mem_of_getElem? (i := 13) rfl))) (mvT hZ (hw _ (List.mem_of_getElem? (i := 14) rfl))) (mvT hZ (hw _ (List.mem_of_getElem? (i := 15) rfl))) (by decide) (backOf (W := 0) (rm7 l Z a0 hw [] (4 : Int32) ((own_min p1 p2).toInt64) ((own_max p1 p2).toInt64) h0 n0 Z0) hZ (hw _ (List.mem_of_getElem? (i := 15) rfl)) (hw _ (List.mem_of_getElem? (i := 14) rfl)) (by decide) (by decide)) (g := (mkF m 61 #[.val (.int p1), .val (.int p2), .val (.long ((own_min p1 p2).toInt64)), .second, .val (.long ((own_max p1 p2).toInt64)), .second, .val (.int (4 : Int32)), .unset] [(.long ((own_max p1 p2).toInt64)), (.long ((own_min p1 p2).toInt64)), (.int (4 : Int32))])) rfl (by rw [hml]; rfl) (argsL := [(.int (4 : Int32)), (.long ((own_min p1 p2).toInt64)), (.long ((own_max p1 p2).toInt64))]) (rest := []) (lenOf pd_ho rfl) rfl (by show 2 * 0 + _ ≤ _; exact Nat.le_of_eq rfl) (hb hby at_61) (fun _ _ => ⟨rfl, e3, (by decide : 0 + 0 ≤ _), (by decide : 0 + 0 ≤ _)⟩)
    dsimp only [Pt.U, Pt.locs, Pt.cells, Pt.slots] at X4 l4 y4 z4 st4 hQ4
    subst l4 y4 z4
    obtain ⟨rfl, N4q, e4⟩ := hQ4
    have N4 := Fr.app N3 N4q
    obtain ⟨_, _, ⟨T5, L5, k5, n5⟩, -, X5, ⟨Lc5, hQ5, l5, y5, z5⟩, st5⟩ := Jvm.LawKit.callS X4 hx (y := (⟨"java/lang/Math", "abs", "(I)I"⟩ : MethodName)) hown (mvT hZ (hw _ (List.mem_of_getElem? (i := 23) rfl))) (mvT hZ (hw _ (List.mem_of_getElem? (i := 24) rfl))) (mvT hZ (hw _ (List.mem_of_getElem? (i := 2) rfl))) (mvT hZ (hw _ (List.mem_of_getElem? (i := 25) rfl))) (by decide) (backOf (W := 0) (rm6 l Z a0 hw [] (4 : Int32) h0 n0 Z0) hZ (hw _ (List.mem_of_getElem? (i := 25) rfl)) (hw _ (List.mem_of_getElem? (i := 2) rfl)) (by decide) (by decide)) (g := (mkF m 71 #[.val (.int p1), .val (.int p2), .val (.long ((own_min p1 p2).toInt64)), .second, .val (.long ((own_max p1 p2).toInt64)), .second, .val (.int (4 : Int32)), .unset] [(.int (4 : Int32))])) rfl (by rw [hml]; rfl) (argsL := [(.int (4 : Int32))]) (rest := []) (lenOf pd_ab rfl) rfl (by show 2 * 0 + _ ≤ _; exact Nat.le_of_eq rfl) (hb hby at_71) (fun _ _ => ⟨rfl, e4, (by decide : 0 + 0 ≤ _), (by decide : 0 + 0 ≤ _)⟩)
    dsimp only [Pt.U, Pt.locs, Pt.cells, Pt.slots] at X5 l5 y5 z5 st5 hQ5
    subst l5 y5 z5
    obtain ⟨rfl, N5q, e5⟩ := hQ5
    have N5 := Fr.app N4 N5q
    obtain ⟨_, _, ⟨T6, L6, k6, n6⟩, -, X6, ⟨Lc6, hQ6, l6, y6, z6⟩, st6⟩ := Jvm.LawKit.callS X5 hx (y := (⟨"com/example/trailgen/trailgen/promela/StateCodecWidthForPinLaw", "holds", "(IJJ)Z"⟩ : MethodName)) hown (mvT hZ (hw _ (List.mem_of_getElem? (i := 12) rfl))) (mvT hZ (hw _ (List.mem_of_getElem? (i := 13) rfl))) (mvT hZ (hw _ (List.mem_of_getElem? (i := 14) rfl))) (mvT hZ (hw _ (List.mem_of_getElem? (i := 15) rfl))) (by decide) (backOf (W := 0) (rm7 l Z a0 hw [] (1 : Int32) ((own_min p1 p2).toInt64) ((own_max p1 p2).toInt64) h0 n0 Z0) hZ (hw _ (List.mem_of_getElem? (i := 15) rfl)) (hw _ (List.mem_of_getElem? (i := 14) rfl)) (by decide) (by decide)) (g := (mkF m 86 #[.val (.int p1), .val (.int p2), .val (.long ((own_min p1 p2).toInt64)), .second, .val (.long ((own_max p1 p2).toInt64)), .second, .val (.int (4 : Int32)), .val (.int (own_abs (4 : Int32)))] [(.long ((own_max p1 p2).toInt64)), (.long ((own_min p1 p2).toInt64)), (.int (1 : Int32))])) rfl (by rw [hml]; rfl) (argsL := [(.int (1 : Int32)), (.long ((own_min p1 p2).toInt64)), (.long ((own_max p1 p2).toInt64))]) (rest := []) (lenOf pd_ho rfl) rfl (by show 2 * 0 + _ ≤ _; exact Nat.le_of_eq rfl) (hb hby at_86) (fun _ _ => ⟨rfl, e5, (by decide : 0 + 0 ≤ _), (by decide : 0 + 0 ≤ _)⟩)
    dsimp only [Pt.U, Pt.locs, Pt.cells, Pt.slots] at X6 l6 y6 z6 st6 hQ6
    subst l6 y6 z6
    obtain ⟨rfl, N6q, e6⟩ := hQ6
    have N6 := Fr.app N5 N6q
    obtain ⟨_, _, ⟨T7, L7, k7, n7⟩, -, X7, ⟨Lc7, hQ7, l7, y7, z7⟩, st7⟩ := Jvm.LawKit.callS X6 hx (y := (⟨"com/example/trailgen/trailgen/promela/StateCodecWidthForPinLaw", "holds", "(IJJ)Z"⟩ : MethodName)) hown (mvT hZ (hw _ (List.mem_of_getElem? (i := 12) rfl))) (mvT hZ (hw _ (List.mem_of_getElem? (i := 13) rfl))) (mvT hZ (hw _ (List.mem_of_getElem? (i := 14) rfl))) (mvT hZ (hw _ (List.mem_of_getElem? (i := 15) rfl))) (by decide) (backOf (W := 0) (rm7 l Z a0 hw [] (-1 : Int32) ((own_min p1 p2).toInt64) ((own_max p1 p2).toInt64) h0 n0 Z0) hZ (hw _ (List.mem_of_getElem? (i := 15) rfl)) (hw _ (List.mem_of_getElem? (i := 14) rfl)) (by decide) (by decide)) (g := (mkF m 96 #[.val (.int p1), .val (.int p2), .val (.long ((own_min p1 p2).toInt64)), .second, .val (.long ((own_max p1 p2).toInt64)), .second, .val (.int (4 : Int32)), .val (.int (own_abs (4 : Int32)))] [(.long ((own_max p1 p2).toInt64)), (.long ((own_min p1 p2).toInt64)), (.int (-1 : Int32))])) rfl (by rw [hml]; rfl) (argsL := [(.int (-1 : Int32)), (.long ((own_min p1 p2).toInt64)), (.long ((own_max p1 p2).toInt64))]) (rest := []) (lenOf pd_ho rfl) rfl (by show 2 * 0 + _ ≤ _; exact Nat.le_of_eq rfl) (hb hby at_96) (fun _ _ => ⟨rfl, e6, (by decide : 0 + 0 ≤ _), (by decide : 0 + 0 ≤ _)⟩)
    dsimp only [Pt.U, Pt.locs, Pt.cells, Pt.slots] at X7 l7 y7 z7 st7 hQ7
    subst l7 y7 z7
    obtain ⟨rfl, N7q, e7⟩ := hQ7
    have N7 := Fr.app N6 N7q
    obtain ⟨_, _, ⟨T8, L8, k8, n8⟩, -, X8, ⟨Lc8, hQ8, l8, y8, z8⟩, st8⟩ := Jvm.LawKit.callS X7 hx (y := (⟨"com/example/trailgen/trailgen/promela/StateCodecWidthForPinLaw", "holds", "(IJJ)Z"⟩ : MethodName)) hown (mvT hZ (hw _ (List.mem_of_getElem? (i := 12) rfl))) (mvT hZ (hw _ (List.mem_of_getElem? (i := 13) rfl))) (mvT hZ (hw _ (List.mem_of_getElem? (i := 14) rfl))) (mvT hZ (hw _ (List.mem_of_getElem? (i := 15) rfl))) (by decide) (backOf (W := 0) (rm7 l Z a0 hw [] (2 : Int32) ((own_min p1 p2).toInt64) ((own_max p1 p2).toInt64) h0 n0 Z0) hZ (hw _ (List.mem_of_getElem? (i := 15) rfl)) (hw _ (List.mem_of_getElem? (i := 14) rfl)) (by decide) (by decide)) (g := (mkF m 114 #[.val (.int p1), .val (.int p2), .val (.long ((own_min p1 p2).toInt64)), .second, .val (.long ((own_max p1 p2).toInt64)), .second, .val (.int (4 : Int32)), .val (.int (own_abs (4 : Int32)))] [(.long ((own_max p1 p2).toInt64)), (.long ((own_min p1 p2).toInt64)), (.int (2 : Int32))])) rfl (by rw [hml]; rfl) (argsL := [(.int (2 : Int32)), (.long ((own_min p1 p2).toInt64)), (.long ((own_max p1 p2).toInt64))]) (rest := []) (lenOf pd_ho rfl) rfl (by show 2 * 0 + _ ≤ _; exact Nat.le_of_eq rfl) (hb hby at_114) (fun _ _ => ⟨rfl, e7, (by decide : 0 + 0 ≤ _), (by decide : 0 + 0 ≤ _)⟩)
    dsimp only [Pt.U, Pt.locs, Pt.cells, Pt.slots] at X8 l8 y8 z8 st8 hQ8
    subst l8 y8 z8
    obtain ⟨rfl, N8q, e8⟩ := hQ8
    have N8 := Fr.app N7 N8q
    obtain ⟨_, _, ⟨T9, L9, k9, n9⟩, -, X9, ⟨Lc9, hQ9, l9, y9, z9⟩, st9⟩ := Jvm.LawKit.callS X8 hx (y := (⟨"com/example/trailgen/trailgen/promela/StateCodecWidthForPinLaw", "holds", "(IJJ)Z"⟩ : MethodName)) hown (mvT hZ (hw _ (List.mem_of_getElem? (i := 12) rfl))) (mvT hZ (hw _ (List.mem_of_getElem? (i := 13) rfl))) (mvT hZ (hw _ (List.mem_of_getElem? (i := 14) rfl))) (mvT hZ (hw _ (List.mem_of_getElem? (i := 15) rfl))) (by decide) (backOf (W := 0) (rm7 l Z a0 hw [] (-2 : Int32) ((own_min p1 p2).toInt64) ((own_max p1 p2).toInt64) h0 n0 Z0) hZ (hw _ (List.mem_of_getElem? (i := 15) rfl)) (hw _ (List.mem_of_getElem? (i := 14) rfl)) (by decide) (by decide)) (g := (mkF m 125 #[.val (.int p1), .val (.int p2), .val (.long ((own_min p1 p2).toInt64)), .second, .val (.long ((own_max p1 p2).toInt64)), .second, .val (.int (4 : Int32)), .val (.int (own_abs (4 : Int32)))] [(.long ((own_max p1 p2).toInt64)), (.long ((own_min p1 p2).toInt64)), (.int (-2 : Int32))])) rfl (by rw [hml]; rfl) (argsL := [(.int (-2 : Int32)), (.long ((own_min p1 p2).toInt64)), (.long ((own_max p1 p2).toInt64))]) (rest := []) (lenOf pd_ho rfl) rfl (by show 2 * 0 + _ ≤ _; exact Nat.le_of_eq rfl) (hb hby at_125) (fun _ _ => ⟨rfl, e8, (by decide : 0 + 0 ≤ _), (by decide : 0 + 0 ≤ _)⟩)
    dsimp only [Pt.U, Pt.locs, Pt.cells, Pt.slots] at X9 l9 y9 z9 st9 hQ9
    subst l9 y9 z9
    obtain ⟨rfl, N9q, e9⟩ := hQ9
    have N9 := Fr.app N8 N9q
    by_cases f0 : (own_min p1 p2).toInt64 < 0
    · obtain ⟨fs, hr, hrun, hended, hW, hsame⟩ := X9.leave (v := some (.int (1 : Int32))) (fun h => by rw [Bd.returns] at h; cases h)
      refine ⟨_, _, pre0 _ ?_, hrun, hended, _, _, rfl, ?_, ⟨_, rfl⟩, hW, hsame.mono (by decide) (by decide)⟩
      · show Steps p.tables e below (s₁.setTop (mkF m 0 #[.val (.int p1), .val (.int p2), .unset, .unset, .unset, .unset, .unset, .unset] [])) _
        refine XS.iloadN X0.here hx rfl (hb hby at_0) rfl ?_
        show Steps p.tables e below (s₁.setTop (mkF m 1 #[.val (.int p1), .val (.int p2), .unset, .unset, .unset, .unset, .unset, .unset] [(.int p1)])) _
        refine XS.iloadN X0.here hx rfl (hb hby at_1) rfl ?_
        show Steps p.tables e below (s₁.setTop (mkF m 2 #[.val (.int p1), .val (.int p2), .unset, .unset, .unset, .unset, .unset, .unset] [(.int p2), (.int p1)])) _
        refine st1 _ ?_
        show Steps p.tables e below (T1.setTop (mkF m 5 #[.val (.int p1), .val (.int p2), .unset, .unset, .unset, .unset, .unset, .unset] [(.int (own_min p1 p2))])) _
        refine XS.i2l X1.here hx rfl (hb hby at_5) rfl ?_
        show Steps p.tables e below (T1.setTop (mkF m 6 #[.val (.int p1), .val (.int p2), .unset, .unset, .unset, .unset, .unset, .unset] [(.long ((own_min p1 p2).toInt64))])) _
        refine XS.lstoreN X1.here hx rfl (hb hby at_6) rfl (l' := #[.val (.int p1), .val (.int p2), .val (.long ((own_min p1 p2).toInt64)), .second, .unset, .unset, .unset, .unset]) rfl ?_
        show Steps p.tables e below (T1.setTop (mkF m 7 #[.val (.int p1), .val (.int p2), .val (.long ((own_min p1 p2).toInt64)), .second, .unset, .unset, .unset, .unset] [])) _
        refine XS.iloadN X1.here hx rfl (hb hby at_7) rfl ?_
        show Steps p.tables e below (T1.setTop (mkF m 8 #[.val (.int p1), .val (.int p2), .val (.long ((own_min p1 p2).toInt64)), .second, .unset, .unset, .unset, .unset] [(.int p1)])) _
        refine XS.iloadN X1.here hx rfl (hb hby at_8) rfl ?_
        show Steps p.tables e below (T1.setTop (mkF m 9 #[.val (.int p1), .val (.int p2), .val (.long ((own_min p1 p2).toInt64)), .second, .unset, .unset, .unset, .unset] [(.int p2), (.int p1)])) _
        refine st2 _ ?_
        show Steps p.tables e below (T2.setTop (mkF m 12 #[.val (.int p1), .val (.int p2), .val (.long ((own_min p1 p2).toInt64)), .second, .unset, .unset, .unset, .unset] [(.int (own_max p1 p2))])) _
        refine XS.i2l X2.here hx rfl (hb hby at_12) rfl ?_
        show Steps p.tables e below (T2.setTop (mkF m 13 #[.val (.int p1), .val (.int p2), .val (.long ((own_min p1 p2).toInt64)), .second, .unset, .unset, .unset, .unset] [(.long ((own_max p1 p2).toInt64))])) _
        refine XS.lstore X2.here hx rfl (hb hby at_13) rfl (l' := #[.val (.int p1), .val (.int p2), .val (.long ((own_min p1 p2).toInt64)), .second, .val (.long ((own_max p1 p2).toInt64)), .second, .unset, .unset]) rfl ?_
        show Steps p.tables e below (T2.setTop (mkF m 15 #[.val (.int p1), .val (.int p2), .val (.long ((own_min p1 p2).toInt64)), .second, .val (.long ((own_max p1 p2).toInt64)), .second, .unset, .unset] [])) _
        refine XS.lloadN X2.here hx rfl (hb hby at_15) rfl ?_
        show Steps p.tables e below (T2.setTop (mkF m 16 #[.val (.int p1), .val (.int p2), .val (.long ((own_min p1 p2).toInt64)), .second, .val (.long ((own_max p1 p2).toInt64)), .second, .unset, .unset] [(.long ((own_min p1 p2).toInt64))])) _
        refine XS.lload X2.here hx rfl (hb hby at_16) rfl ?_
        show Steps p.tables e below (T2.setTop (mkF m 18 #[.val (.int p1), .val (.int p2), .val (.long ((own_min p1 p2).toInt64)), .second, .val (.long ((own_max p1 p2).toInt64)), .second, .unset, .unset] [(.long ((own_max p1 p2).toInt64)), (.long ((own_min p1 p2).toInt64))])) _
        refine st3 _ ?_
        show Steps p.tables e below (T3.setTop (mkF m 21 #[.val (.int p1), .val (.int p2), .val (.long ((own_min p1 p2).toInt64)), .second, .val (.long ((own_max p1 p2).toInt64)), .second, .unset, .unset] [(.int (4 : Int32))])) _
        refine XS.istore X3.here hx rfl (hb hby at_21) rfl (l' := #[.val (.int p1), .val (.int p2), .val (.long ((own_min p1 p2).toInt64)), .second, .val (.long ((own_max p1 p2).toInt64)), .second, .val (.int (4 : Int32)), .unset]) rfl ?_
        show Steps p.tables e below (T3.setTop (mkF m 23 #[.val (.int p1), .val (.int p2), .val (.long ((own_min p1 p2).toInt64)), .second, .val (.long ((own_max p1 p2).toInt64)), .second, .val (.int (4 : Int32)), .unset] [])) _
        refine XS.iload X3.here hx rfl (hb hby at_23) rfl ?_
        show Steps p.tables e below (T3.setTop (mkF m 25 #[.val (.int p1), .val (.int p2), .val (.long ((own_min p1 p2).toInt64)), .second, .val (.long ((own_max p1 p2).toInt64)), .second, .val (.int (4 : Int32)), .unset] [(.int (4 : Int32))])) _
        refine XS.iconst X3.here hx rfl (hb hby at_25) ?_
        show Steps p.tables e below (T3.setTop (mkF m 26 #[.val (.int p1), .val (.int p2), .val (.long ((own_min p1 p2).toInt64)), .second, .val (.long ((own_max p1 p2).toInt64)), .second, .val (.int (4 : Int32)), .unset] [(.int (1 : Int32)), (.int (4 : Int32))])) _
        refine XS.icmpNo X3.here hx rfl (hb hby at_26) rfl (feq (by decide)).1 ?_
        show Steps p.tables e below (T3.setTop (mkF m 29 #[.val (.int p1), .val (.int p2), .val (.long ((own_min p1 p2).toInt64)), .second, .val (.long ((own_max p1 p2).toInt64)), .second, .val (.int (4 : Int32)), .unset] [])) _
        refine XS.iload X3.here hx rfl (hb hby at_29) rfl ?_
        show Steps p.tables e below (T3.setTop (mkF m 31 #[.val (.int p1), .val (.int p2), .val (.long ((own_min p1 p2).toInt64)), .second, .val (.long ((own_max p1 p2).toInt64)), .second, .val (.int (4 : Int32)), .unset] [(.int (4 : Int32))])) _
        refine XS.iconst X3.here hx rfl (hb hby at_31) ?_
        show Steps p.tables e below (T3.setTop (mkF m 32 #[.val (.int p1), .val (.int p2), .val (.long ((own_min p1 p2).toInt64)), .second, .val (.long ((own_max p1 p2).toInt64)), .second, .val (.int (4 : Int32)), .unset] [(.int (-1 : Int32)), (.int (4 : Int32))])) _
        refine XS.icmpNo X3.here hx rfl (hb hby at_32) rfl (feq (by decide)).1 ?_
        show Steps p.tables e below (T3.setTop (mkF m 35 #[.val (.int p1), .val (.int p2), .val (.long ((own_min p1 p2).toInt64)), .second, .val (.long ((own_max p1 p2).toInt64)), .second, .val (.int (4 : Int32)), .unset] [])) _
        refine XS.iload X3.here hx rfl (hb hby at_35) rfl ?_
        show Steps p.tables e below (T3.setTop (mkF m 37 #[.val (.int p1), .val (.int p2), .val (.long ((own_min p1 p2).toInt64)), .second, .val (.long ((own_max p1 p2).toInt64)), .second, .val (.int (4 : Int32)), .unset] [(.int (4 : Int32))])) _
        refine XS.iconst X3.here hx rfl (hb hby at_37) ?_
        show Steps p.tables e below (T3.setTop (mkF m 38 #[.val (.int p1), .val (.int p2), .val (.long ((own_min p1 p2).toInt64)), .second, .val (.long ((own_max p1 p2).toInt64)), .second, .val (.int (4 : Int32)), .unset] [(.int (2 : Int32)), (.int (4 : Int32))])) _
        refine XS.icmpNo X3.here hx rfl (hb hby at_38) rfl (feq (by decide)).1 ?_
        show Steps p.tables e below (T3.setTop (mkF m 41 #[.val (.int p1), .val (.int p2), .val (.long ((own_min p1 p2).toInt64)), .second, .val (.long ((own_max p1 p2).toInt64)), .second, .val (.int (4 : Int32)), .unset] [])) _
        refine XS.iload X3.here hx rfl (hb hby at_41) rfl ?_
        show Steps p.tables e below (T3.setTop (mkF m 43 #[.val (.int p1), .val (.int p2), .val (.long ((own_min p1 p2).toInt64)), .second, .val (.long ((own_max p1 p2).toInt64)), .second, .val (.int (4 : Int32)), .unset] [(.int (4 : Int32))])) _
        refine XS.bipush X3.here hx rfl (hb hby at_43) ?_
        show Steps p.tables e below (T3.setTop (mkF m 45 #[.val (.int p1), .val (.int p2), .val (.long ((own_min p1 p2).toInt64)), .second, .val (.long ((own_max p1 p2).toInt64)), .second, .val (.int (4 : Int32)), .unset] [(.int (-2 : Int32)), (.int (4 : Int32))])) _
        refine XS.icmpNo X3.here hx rfl (hb hby at_45) rfl (feq (by decide)).1 ?_
        show Steps p.tables e below (T3.setTop (mkF m 48 #[.val (.int p1), .val (.int p2), .val (.long ((own_min p1 p2).toInt64)), .second, .val (.long ((own_max p1 p2).toInt64)), .second, .val (.int (4 : Int32)), .unset] [])) _
        refine XS.iload X3.here hx rfl (hb hby at_48) rfl ?_
        show Steps p.tables e below (T3.setTop (mkF m 50 #[.val (.int p1), .val (.int p2), .val (.long ((own_min p1 p2).toInt64)), .second, .val (.long ((own_max p1 p2).toInt64)), .second, .val (.int (4 : Int32)), .unset] [(.int (4 : Int32))])) _
        refine XS.iconst X3.here hx rfl (hb hby at_50) ?_
        show Steps p.tables e below (T3.setTop (mkF m 51 #[.val (.int p1), .val (.int p2), .val (.long ((own_min p1 p2).toInt64)), .second, .val (.long ((own_max p1 p2).toInt64)), .second, .val (.int (4 : Int32)), .unset] [(.int (4 : Int32)), (.int (4 : Int32))])) _
        refine XS.icmpYes X3.here hx rfl (pc0 := 51) (pc' := 56) rfl (hb hby at_51) rfl (teq (by decide)).1 (by decide) (by decide) ?_
        show Steps p.tables e below (T3.setTop (mkF m 56 #[.val (.int p1), .val (.int p2), .val (.long ((own_min p1 p2).toInt64)), .second, .val (.long ((own_max p1 p2).toInt64)), .second, .val (.int (4 : Int32)), .unset] [])) _
        refine XS.iload X3.here hx rfl (hb hby at_56) rfl ?_
        show Steps p.tables e below (T3.setTop (mkF m 58 #[.val (.int p1), .val (.int p2), .val (.long ((own_min p1 p2).toInt64)), .second, .val (.long ((own_max p1 p2).toInt64)), .second, .val (.int (4 : Int32)), .unset] [(.int (4 : Int32))])) _
        refine XS.lloadN X3.here hx rfl (hb hby at_58) rfl ?_
        show Steps p.tables e below (T3.setTop (mkF m 59 #[.val (.int p1), .val (.int p2), .val (.long ((own_min p1 p2).toInt64)), .second, .val (.long ((own_max p1 p2).toInt64)), .second, .val (.int (4 : Int32)), .unset] [(.long ((own_min p1 p2).toInt64)), (.int (4 : Int32))])) _
        refine XS.lload X3.here hx rfl (hb hby at_59) rfl ?_
        show Steps p.tables e below (T3.setTop (mkF m 61 #[.val (.int p1), .val (.int p2), .val (.long ((own_min p1 p2).toInt64)), .second, .val (.long ((own_max p1 p2).toInt64)), .second, .val (.int (4 : Int32)), .unset] [(.long ((own_max p1 p2).toInt64)), (.long ((own_min p1 p2).toInt64)), (.int (4 : Int32))])) _
        refine st4 _ ?_
        show Steps p.tables e below (T4.setTop (mkF m 64 #[.val (.int p1), .val (.int p2), .val (.long ((own_min p1 p2).toInt64)), .second, .val (.long ((own_max p1 p2).toInt64)), .second, .val (.int (4 : Int32)), .unset] [(.int (own_ho (4 : Int32) ((own_min p1 p2).toInt64) ((own_max p1 p2).toInt64)))])) _
        refine XS.ifYes X4.here hx rfl (pc0 := 64) (pc' := 69) rfl (hb hby at_64) rfl ((if0 _ _).trans (feq (by rw [f1]; decide)).2) (by decide) (by decide) ?_
        show Steps p.tables e below (T4.setTop (mkF m 69 #[.val (.int p1), .val (.int p2), .val (.long ((own_min p1 p2).toInt64)), .second, .val (.long ((own_max p1 p2).toInt64)), .second, .val (.int (4 : Int32)), .unset] [])) _
        refine XS.iload X4.here hx rfl (hb hby at_69) rfl ?_
        show Steps p.tables e below (T4.setTop (mkF m 71 #[.val (.int p1), .val (.int p2), .val (.long ((own_min p1 p2).toInt64)), .second, .val (.long ((own_max p1 p2).toInt64)), .second, .val (.int (4 : Int32)), .unset] [(.int (4 : Int32))])) _
        refine st5 _ ?_
        show Steps p.tables e below (T5.setTop (mkF m 74 #[.val (.int p1), .val (.int p2), .val (.long ((own_min p1 p2).toInt64)), .second, .val (.long ((own_max p1 p2).toInt64)), .second, .val (.int (4 : Int32)), .unset] [(.int (own_abs (4 : Int32)))])) _
        refine XS.istore X5.here hx rfl (hb hby at_74) rfl (l' := #[.val (.int p1), .val (.int p2), .val (.long ((own_min p1 p2).toInt64)), .second, .val (.long ((own_max p1 p2).toInt64)), .second, .val (.int (4 : Int32)), .val (.int (own_abs (4 : Int32)))]) rfl ?_
        show Steps p.tables e below (T5.setTop (mkF m 76 #[.val (.int p1), .val (.int p2), .val (.long ((own_min p1 p2).toInt64)), .second, .val (.long ((own_max p1 p2).toInt64)), .second, .val (.int (4 : Int32)), .val (.int (own_abs (4 : Int32)))] [])) _
        refine XS.iload X5.here hx rfl (hb hby at_76) rfl ?_
        show Steps p.tables e below (T5.setTop (mkF m 78 #[.val (.int p1), .val (.int p2), .val (.long ((own_min p1 p2).toInt64)), .second, .val (.long ((own_max p1 p2).toInt64)), .second, .val (.int (4 : Int32)), .val (.int (own_abs (4 : Int32)))] [(.int (own_abs (4 : Int32)))])) _
        refine XS.iconst X5.here hx rfl (hb hby at_78) ?_
        show Steps p.tables e below (T5.setTop (mkF m 79 #[.val (.int p1), .val (.int p2), .val (.long ((own_min p1 p2).toInt64)), .second, .val (.long ((own_max p1 p2).toInt64)), .second, .val (.int (4 : Int32)), .val (.int (own_abs (4 : Int32)))] [(.int (1 : Int32)), (.int (own_abs (4 : Int32)))])) _
        refine XS.icmpNo X5.here hx rfl (hb hby at_79) rfl (tlt (by decide)).2.2.2 ?_
        show Steps p.tables e below (T5.setTop (mkF m 82 #[.val (.int p1), .val (.int p2), .val (.long ((own_min p1 p2).toInt64)), .second, .val (.long ((own_max p1 p2).toInt64)), .second, .val (.int (4 : Int32)), .val (.int (own_abs (4 : Int32)))] [])) _
        refine XS.iconst X5.here hx rfl (hb hby at_82) ?_
        show Steps p.tables e below (T5.setTop (mkF m 83 #[.val (.int p1), .val (.int p2), .val (.long ((own_min p1 p2).toInt64)), .second, .val (.long ((own_max p1 p2).toInt64)), .second, .val (.int (4 : Int32)), .val (.int (own_abs (4 : Int32)))] [(.int (1 : Int32))])) _
        refine XS.lloadN X5.here hx rfl (hb hby at_83) rfl ?_
        show Steps p.tables e below (T5.setTop (mkF m 84 #[.val (.int p1), .val (.int p2), .val (.long ((own_min p1 p2).toInt64)), .second, .val (.long ((own_max p1 p2).toInt64)), .second, .val (.int (4 : Int32)), .val (.int (own_abs (4 : Int32)))] [(.long ((own_min p1 p2).toInt64)), (.int (1 : Int32))])) _
        refine XS.lload X5.here hx rfl (hb hby at_84) rfl ?_
        show Steps p.tables e below (T5.setTop (mkF m 86 #[.val (.int p1), .val (.int p2), .val (.long ((own_min p1 p2).toInt64)), .second, .val (.long ((own_max p1 p2).toInt64)), .second, .val (.int (4 : Int32)), .val (.int (own_abs (4 : Int32)))] [(.long ((own_max p1 p2).toInt64)), (.long ((own_min p1 p2).toInt64)), (.int (1 : Int32))])) _
        refine st6 _ ?_
        show Steps p.tables e below (T6.setTop (mkF m 89 #[.val (.int p1), .val (.int p2), .val (.long ((own_min p1 p2).toInt64)), .second, .val (.long ((own_max p1 p2).toInt64)), .second, .val (.int (4 : Int32)), .val (.int (own_abs (4 : Int32)))] [(.int (own_ho (1 : Int32) ((own_min p1 p2).toInt64) ((own_max p1 p2).toInt64)))])) _
        refine XS.ifNo X6.here hx rfl (hb hby at_89) rfl ((if0 _ _).trans (teq f2).2) ?_
        show Steps p.tables e below (T6.setTop (mkF m 92 #[.val (.int p1), .val (.int p2), .val (.long ((own_min p1 p2).toInt64)), .second, .val (.long ((own_max p1 p2).toInt64)), .second, .val (.int (4 : Int32)), .val (.int (own_abs (4 : Int32)))] [])) _
        refine XS.iconst X6.here hx rfl (hb hby at_92) ?_
        show Steps p.tables e below (T6.setTop (mkF m 93 #[.val (.int p1), .val (.int p2), .val (.long ((own_min p1 p2).toInt64)), .second, .val (.long ((own_max p1 p2).toInt64)), .second, .val (.int (4 : Int32)), .val (.int (own_abs (4 : Int32)))] [(.int (-1 : Int32))])) _
        refine XS.lloadN X6.here hx rfl (hb hby at_93) rfl ?_
        show Steps p.tables e below (T6.setTop (mkF m 94 #[.val (.int p1), .val (.int p2), .val (.long ((own_min p1 p2).toInt64)), .second, .val (.long ((own_max p1 p2).toInt64)), .second, .val (.int (4 : Int32)), .val (.int (own_abs (4 : Int32)))] [(.long ((own_min p1 p2).toInt64)), (.int (-1 : Int32))])) _
        refine XS.lload X6.here hx rfl (hb hby at_94) rfl ?_
        show Steps p.tables e below (T6.setTop (mkF m 96 #[.val (.int p1), .val (.int p2), .val (.long ((own_min p1 p2).toInt64)), .second, .val (.long ((own_max p1 p2).toInt64)), .second, .val (.int (4 : Int32)), .val (.int (own_abs (4 : Int32)))] [(.long ((own_max p1 p2).toInt64)), (.long ((own_min p1 p2).toInt64)), (.int (-1 : Int32))])) _
        refine st7 _ ?_
        show Steps p.tables e below (T7.setTop (mkF m 99 #[.val (.int p1), .val (.int p2), .val (.long ((own_min p1 p2).toInt64)), .second, .val (.long ((own_max p1 p2).toInt64)), .second, .val (.int (4 : Int32)), .val (.int (own_abs (4 : Int32)))] [(.int (own_ho (-1 : Int32) ((own_min p1 p2).toInt64) ((own_max p1 p2).toInt64)))])) _
        refine XS.ifYes X7.here hx rfl (pc0 := 99) (pc' := 104) rfl (hb hby at_99) rfl ((if0 _ _).trans (teq f3).1) (by decide) (by decide) ?_
        show Steps p.tables e below (T7.setTop (mkF m 104 #[.val (.int p1), .val (.int p2), .val (.long ((own_min p1 p2).toInt64)), .second, .val (.long ((own_max p1 p2).toInt64)), .second, .val (.int (4 : Int32)), .val (.int (own_abs (4 : Int32)))] [])) _
        refine XS.iload X7.here hx rfl (hb hby at_104) rfl ?_
        show Steps p.tables e below (T7.setTop (mkF m 106 #[.val (.int p1), .val (.int p2), .val (.long ((own_min p1 p2).toInt64)), .second, .val (.long ((own_max p1 p2).toInt64)), .second, .val (.int (4 : Int32)), .val (.int (own_abs (4 : Int32)))] [(.int (own_abs (4 : Int32)))])) _
        refine XS.iconst X7.here hx rfl (hb hby at_106) ?_
        show Steps p.tables e below (T7.setTop (mkF m 107 #[.val (.int p1), .val (.int p2), .val (.long ((own_min p1 p2).toInt64)), .second, .val (.long ((own_max p1 p2).toInt64)), .second, .val (.int (4 : Int32)), .val (.int (own_abs (4 : Int32)))] [(.int (2 : Int32)), (.int (own_abs (4 : Int32)))])) _
        refine XS.icmpNo X7.here hx rfl (hb hby at_107) rfl (tlt (by decide)).2.2.2 ?_
        show Steps p.tables e below (T7.setTop (mkF m 110 #[.val (.int p1), .val (.int p2), .val (.long ((own_min p1 p2).toInt64)), .second, .val (.long ((own_max p1 p2).toInt64)), .second, .val (.int (4 : Int32)), .val (.int (own_abs (4 : Int32)))] [])) _
        refine XS.iconst X7.here hx rfl (hb hby at_110) ?_
        show Steps p.tables e below (T7.setTop (mkF m 111 #[.val (.int p1), .val (.int p2), .val (.long ((own_min p1 p2).toInt64)), .second, .val (.long ((own_max p1 p2).toInt64)), .second, .val (.int (4 : Int32)), .val (.int (own_abs (4 : Int32)))] [(.int (2 : Int32))])) _
        refine XS.lloadN X7.here hx rfl (hb hby at_111) rfl ?_
        show Steps p.tables e below (T7.setTop (mkF m 112 #[.val (.int p1), .val (.int p2), .val (.long ((own_min p1 p2).toInt64)), .second, .val (.long ((own_max p1 p2).toInt64)), .second, .val (.int (4 : Int32)), .val (.int (own_abs (4 : Int32)))] [(.long ((own_min p1 p2).toInt64)), (.int (2 : Int32))])) _
        refine XS.lload X7.here hx rfl (hb hby at_112) rfl ?_
        show Steps p.tables e below (T7.setTop (mkF m 114 #[.val (.int p1), .val (.int p2), .val (.long ((own_min p1 p2).toInt64)), .second, .val (.long ((own_max p1 p2).toInt64)), .second, .val (.int (4 : Int32)), .val (.int (own_abs (4 : Int32)))] [(.long ((own_max p1 p2).toInt64)), (.long ((own_min p1 p2).toInt64)), (.int (2 : Int32))])) _
        refine st8 _ ?_
        show Steps p.tables e below (T8.setTop (mkF m 117 #[.val (.int p1), .val (.int p2), .val (.long ((own_min p1 p2).toInt64)), .second, .val (.long ((own_max p1 p2).toInt64)), .second, .val (.int (4 : Int32)), .val (.int (own_abs (4 : Int32)))] [(.int (own_ho (2 : Int32) ((own_min p1 p2).toInt64) ((own_max p1 p2).toInt64)))])) _
        refine XS.ifNo X8.here hx rfl (hb hby at_117) rfl ((if0 _ _).trans (teq f4).2) ?_
        show Steps p.tables e below (T8.setTop (mkF m 120 #[.val (.int p1), .val (.int p2), .val (.long ((own_min p1 p2).toInt64)), .second, .val (.long ((own_max p1 p2).toInt64)), .second, .val (.int (4 : Int32)), .val (.int (own_abs (4 : Int32)))] [])) _
        refine XS.bipush X8.here hx rfl (hb hby at_120) ?_
        show Steps p.tables e below (T8.setTop (mkF m 122 #[.val (.int p1), .val (.int p2), .val (.long ((own_min p1 p2).toInt64)), .second, .val (.long ((own_max p1 p2).toInt64)), .second, .val (.int (4 : Int32)), .val (.int (own_abs (4 : Int32)))] [(.int (-2 : Int32))])) _
        refine XS.lloadN X8.here hx rfl (hb hby at_122) rfl ?_
        show Steps p.tables e below (T8.setTop (mkF m 123 #[.val (.int p1), .val (.int p2), .val (.long ((own_min p1 p2).toInt64)), .second, .val (.long ((own_max p1 p2).toInt64)), .second, .val (.int (4 : Int32)), .val (.int (own_abs (4 : Int32)))] [(.long ((own_min p1 p2).toInt64)), (.int (-2 : Int32))])) _
        refine XS.lload X8.here hx rfl (hb hby at_123) rfl ?_
        show Steps p.tables e below (T8.setTop (mkF m 125 #[.val (.int p1), .val (.int p2), .val (.long ((own_min p1 p2).toInt64)), .second, .val (.long ((own_max p1 p2).toInt64)), .second, .val (.int (4 : Int32)), .val (.int (own_abs (4 : Int32)))] [(.long ((own_max p1 p2).toInt64)), (.long ((own_min p1 p2).toInt64)), (.int (-2 : Int32))])) _
        refine st9 _ ?_
        show Steps p.tables e below (T9.setTop (mkF m 128 #[.val (.int p1), .val (.int p2), .val (.long ((own_min p1 p2).toInt64)), .second, .val (.long ((own_max p1 p2).toInt64)), .second, .val (.int (4 : Int32)), .val (.int (own_abs (4 : Int32)))] [(.int (own_ho (-2 : Int32) ((own_min p1 p2).toInt64) ((own_max p1 p2).toInt64)))])) _
        refine XS.ifYes X9.here hx rfl (pc0 := 128) (pc' := 133) rfl (hb hby at_128) rfl ((if0 _ _).trans (teq f5).1) (by decide) (by decide) ?_
        show Steps p.tables e below (T9.setTop (mkF m 133 #[.val (.int p1), .val (.int p2), .val (.long ((own_min p1 p2).toInt64)), .second, .val (.long ((own_max p1 p2).toInt64)), .second, .val (.int (4 : Int32)), .val (.int (own_abs (4 : Int32)))] [])) _
        refine XS.lloadN X9.here hx rfl (hb hby at_133) rfl ?_
        show Steps p.tables e below (T9.setTop (mkF m 134 #[.val (.int p1), .val (.int p2), .val (.long ((own_min p1 p2).toInt64)), .second, .val (.long ((own_max p1 p2).toInt64)), .second, .val (.int (4 : Int32)), .val (.int (own_abs (4 : Int32)))] [(.long ((own_min p1 p2).toInt64))])) _
        refine XS.lconst X9.here hx rfl (hb hby at_134) ?_
        show Steps p.tables e below (T9.setTop (mkF m 135 #[.val (.int p1), .val (.int p2), .val (.long ((own_min p1 p2).toInt64)), .second, .val (.long ((own_max p1 p2).toInt64)), .second, .val (.int (4 : Int32)), .val (.int (own_abs (4 : Int32)))] [(.long (0 : Int64)), (.long ((own_min p1 p2).toInt64))])) _
        refine XS.lcmp X9.here hx rfl (hb hby at_135) rfl ?_
        show Steps p.tables e below (T9.setTop (mkF m 136 #[.val (.int p1), .val (.int p2), .val (.long ((own_min p1 p2).toInt64)), .second, .val (.long ((own_max p1 p2).toInt64)), .second, .val (.int (4 : Int32)), .val (.int (own_abs (4 : Int32)))] [(.int (lcmpW ((own_min p1 p2).toInt64) (0 : Int64)))])) _
        refine XS.ifYes X9.here hx rfl (pc0 := 136) (pc' := 144) rfl (hb hby at_136) rfl ((if0 _ _).trans (tlt ((lw_lt _ _).mpr f0)).1) (by decide) (by decide) ?_
        show Steps p.tables e below (T9.setTop (mkF m 144 #[.val (.int p1), .val (.int p2), .val (.long ((own_min p1 p2).toInt64)), .second, .val (.long ((own_max p1 p2).toInt64)), .second, .val (.int (4 : Int32)), .val (.int (own_abs (4 : Int32)))] [])) _
        refine XS.iconst X9.here hx rfl (hb hby at_144) ?_
        show Steps p.tables e below (T9.setTop (mkF m 145 #[.val (.int p1), .val (.int p2), .val (.long ((own_min p1 p2).toInt64)), .second, .val (.long ((own_max p1 p2).toInt64)), .second, .val (.int (4 : Int32)), .val (.int (own_abs (4 : Int32)))] [(.int (1 : Int32))])) _
        refine XS.goto X9.here hx rfl (pc0 := 145) (pc' := 149) rfl (hb hby at_145) (by decide) (by decide) ?_
        show Steps p.tables e below (T9.setTop (mkF m 149 #[.val (.int p1), .val (.int p2), .val (.long ((own_min p1 p2).toInt64)), .second, .val (.long ((own_max p1 p2).toInt64)), .second, .val (.int (4 : Int32)), .val (.int (own_abs (4 : Int32)))] [(.int (1 : Int32))])) _
        exact retN X9 hx (t := .boolean) Bd.returns (by simp) (hb hby at_149) hr
      · show Q0 Z p1 p2 h0 n0 _ T9.heap _
        exact ⟨rfl, N9⟩
    · obtain ⟨fs, hr, hrun, hended, hW, hsame⟩ := X9.leave (v := some (.int (1 : Int32))) (fun h => by rw [Bd.returns] at h; cases h)
      refine ⟨_, _, pre0 _ ?_, hrun, hended, _, _, rfl, ?_, ⟨_, rfl⟩, hW, hsame.mono (by decide) (by decide)⟩
      · show Steps p.tables e below (s₁.setTop (mkF m 0 #[.val (.int p1), .val (.int p2), .unset, .unset, .unset, .unset, .unset, .unset] [])) _
        refine XS.iloadN X0.here hx rfl (hb hby at_0) rfl ?_
        show Steps p.tables e below (s₁.setTop (mkF m 1 #[.val (.int p1), .val (.int p2), .unset, .unset, .unset, .unset, .unset, .unset] [(.int p1)])) _
        refine XS.iloadN X0.here hx rfl (hb hby at_1) rfl ?_
        show Steps p.tables e below (s₁.setTop (mkF m 2 #[.val (.int p1), .val (.int p2), .unset, .unset, .unset, .unset, .unset, .unset] [(.int p2), (.int p1)])) _
        refine st1 _ ?_
        show Steps p.tables e below (T1.setTop (mkF m 5 #[.val (.int p1), .val (.int p2), .unset, .unset, .unset, .unset, .unset, .unset] [(.int (own_min p1 p2))])) _
        refine XS.i2l X1.here hx rfl (hb hby at_5) rfl ?_
        show Steps p.tables e below (T1.setTop (mkF m 6 #[.val (.int p1), .val (.int p2), .unset, .unset, .unset, .unset, .unset, .unset] [(.long ((own_min p1 p2).toInt64))])) _
        refine XS.lstoreN X1.here hx rfl (hb hby at_6) rfl (l' := #[.val (.int p1), .val (.int p2), .val (.long ((own_min p1 p2).toInt64)), .second, .unset, .unset, .unset, .unset]) rfl ?_
        show Steps p.tables e below (T1.setTop (mkF m 7 #[.val (.int p1), .val (.int p2), .val (.long ((own_min p1 p2).toInt64)), .second, .unset, .unset, .unset, .unset] [])) _
        refine XS.iloadN X1.here hx rfl (hb hby at_7) rfl ?_
        show Steps p.tables e below (T1.setTop (mkF m 8 #[.val (.int p1), .val (.int p2), .val (.long ((own_min p1 p2).toInt64)), .second, .unset, .unset, .unset, .unset] [(.int p1)])) _
        refine XS.iloadN X1.here hx rfl (hb hby at_8) rfl ?_
        show Steps p.tables e below (T1.setTop (mkF m 9 #[.val (.int p1), .val (.int p2), .val (.long ((own_min p1 p2).toInt64)), .second, .unset, .unset, .unset, .unset] [(.int p2), (.int p1)])) _
        refine st2 _ ?_
        show Steps p.tables e below (T2.setTop (mkF m 12 #[.val (.int p1), .val (.int p2), .val (.long ((own_min p1 p2).toInt64)), .second, .unset, .unset, .unset, .unset] [(.int (own_max p1 p2))])) _
        refine XS.i2l X2.here hx rfl (hb hby at_12) rfl ?_
        show Steps p.tables e below (T2.setTop (mkF m 13 #[.val (.int p1), .val (.int p2), .val (.long ((own_min p1 p2).toInt64)), .second, .unset, .unset, .unset, .unset] [(.long ((own_max p1 p2).toInt64))])) _
        refine XS.lstore X2.here hx rfl (hb hby at_13) rfl (l' := #[.val (.int p1), .val (.int p2), .val (.long ((own_min p1 p2).toInt64)), .second, .val (.long ((own_max p1 p2).toInt64)), .second, .unset, .unset]) rfl ?_
        show Steps p.tables e below (T2.setTop (mkF m 15 #[.val (.int p1), .val (.int p2), .val (.long ((own_min p1 p2).toInt64)), .second, .val (.long ((own_max p1 p2).toInt64)), .second, .unset, .unset] [])) _
        refine XS.lloadN X2.here hx rfl (hb hby at_15) rfl ?_
        show Steps p.tables e below (T2.setTop (mkF m 16 #[.val (.int p1), .val (.int p2), .val (.long ((own_min p1 p2).toInt64)), .second, .val (.long ((own_max p1 p2).toInt64)), .second, .unset, .unset] [(.long ((own_min p1 p2).toInt64))])) _
        refine XS.lload X2.here hx rfl (hb hby at_16) rfl ?_
        show Steps p.tables e below (T2.setTop (mkF m 18 #[.val (.int p1), .val (.int p2), .val (.long ((own_min p1 p2).toInt64)), .second, .val (.long ((own_max p1 p2).toInt64)), .second, .unset, .unset] [(.long ((own_max p1 p2).toInt64)), (.long ((own_min p1 p2).toInt64))])) _
        refine st3 _ ?_
        show Steps p.tables e below (T3.setTop (mkF m 21 #[.val (.int p1), .val (.int p2), .val (.long ((own_min p1 p2).toInt64)), .second, .val (.long ((own_max p1 p2).toInt64)), .second, .unset, .unset] [(.int (4 : Int32))])) _
        refine XS.istore X3.here hx rfl (hb hby at_21) rfl (l' := #[.val (.int p1), .val (.int p2), .val (.long ((own_min p1 p2).toInt64)), .second, .val (.long ((own_max p1 p2).toInt64)), .second, .val (.int (4 : Int32)), .unset]) rfl ?_
        show Steps p.tables e below (T3.setTop (mkF m 23 #[.val (.int p1), .val (.int p2), .val (.long ((own_min p1 p2).toInt64)), .second, .val (.long ((own_max p1 p2).toInt64)), .second, .val (.int (4 : Int32)), .unset] [])) _
        refine XS.iload X3.here hx rfl (hb hby at_23) rfl ?_
        show Steps p.tables e below (T3.setTop (mkF m 25 #[.val (.int p1), .val (.int p2), .val (.long ((own_min p1 p2).toInt64)), .second, .val (.long ((own_max p1 p2).toInt64)), .second, .val (.int (4 : Int32)), .unset] [(.int (4 : Int32))])) _
        refine XS.iconst X3.here hx rfl (hb hby at_25) ?_
        show Steps p.tables e below (T3.setTop (mkF m 26 #[.val (.int p1), .val (.int p2), .val (.long ((own_min p1 p2).toInt64)), .second, .val (.long ((own_max p1 p2).toInt64)), .second, .val (.int (4 : Int32)), .unset] [(.int (1 : Int32)), (.int (4 : Int32))])) _
        refine XS.icmpNo X3.here hx rfl (hb hby at_26) rfl (feq (by decide)).1 ?_
        show Steps p.tables e below (T3.setTop (mkF m 29 #[.val (.int p1), .val (.int p2), .val (.long ((own_min p1 p2).toInt64)), .second, .val (.long ((own_max p1 p2).toInt64)), .second, .val (.int (4 : Int32)), .unset] [])) _
        refine XS.iload X3.here hx rfl (hb hby at_29) rfl ?_
        show Steps p.tables e below (T3.setTop (mkF m 31 #[.val (.int p1), .val (.int p2), .val (.long ((own_min p1 p2).toInt64)), .second, .val (.long ((own_max p1 p2).toInt64)), .second, .val (.int (4 : Int32)), .unset] [(.int (4 : Int32))])) _
        refine XS.iconst X3.here hx rfl (hb hby at_31) ?_
        show Steps p.tables e below (T3.setTop (mkF m 32 #[.val (.int p1), .val (.int p2), .val (.long ((own_min p1 p2).toInt64)), .second, .val (.long ((own_max p1 p2).toInt64)), .second, .val (.int (4 : Int32)), .unset] [(.int (-1 : Int32)), (.int (4 : Int32))])) _
        refine XS.icmpNo X3.here hx rfl (hb hby at_32) rfl (feq (by decide)).1 ?_
        show Steps p.tables e below (T3.setTop (mkF m 35 #[.val (.int p1), .val (.int p2), .val (.long ((own_min p1 p2).toInt64)), .second, .val (.long ((own_max p1 p2).toInt64)), .second, .val (.int (4 : Int32)), .unset] [])) _
        refine XS.iload X3.here hx rfl (hb hby at_35) rfl ?_
        show Steps p.tables e below (T3.setTop (mkF m 37 #[.val (.int p1), .val (.int p2), .val (.long ((own_min p1 p2).toInt64)), .second, .val (.long ((own_max p1 p2).toInt64)), .second, .val (.int (4 : Int32)), .unset] [(.int (4 : Int32))])) _
        refine XS.iconst X3.here hx rfl (hb hby at_37) ?_
        show Steps p.tables e below (T3.setTop (mkF m 38 #[.val (.int p1), .val (.int p2), .val (.long ((own_min p1 p2).toInt64)), .second, .val (.long ((own_max p1 p2).toInt64)), .second, .val (.int (4 : Int32)), .unset] [(.int (2 : Int32)), (.int (4 : Int32))])) _
        refine XS.icmpNo X3.here hx rfl (hb hby at_38) rfl (feq (by decide)).1 ?_
        show Steps p.tables e below (T3.setTop (mkF m 41 #[.val (.int p1), .val (.int p2), .val (.long ((own_min p1 p2).toInt64)), .second, .val (.long ((own_max p1 p2).toInt64)), .second, .val (.int (4 : Int32)), .unset] [])) _
        refine XS.iload X3.here hx rfl (hb hby at_41) rfl ?_
        show Steps p.tables e below (T3.setTop (mkF m 43 #[.val (.int p1), .val (.int p2), .val (.long ((own_min p1 p2).toInt64)), .second, .val (.long ((own_max p1 p2).toInt64)), .second, .val (.int (4 : Int32)), .unset] [(.int (4 : Int32))])) _
        refine XS.bipush X3.here hx rfl (hb hby at_43) ?_
        show Steps p.tables e below (T3.setTop (mkF m 45 #[.val (.int p1), .val (.int p2), .val (.long ((own_min p1 p2).toInt64)), .second, .val (.long ((own_max p1 p2).toInt64)), .second, .val (.int (4 : Int32)), .unset] [(.int (-2 : Int32)), (.int (4 : Int32))])) _
        refine XS.icmpNo X3.here hx rfl (hb hby at_45) rfl (feq (by decide)).1 ?_
        show Steps p.tables e below (T3.setTop (mkF m 48 #[.val (.int p1), .val (.int p2), .val (.long ((own_min p1 p2).toInt64)), .second, .val (.long ((own_max p1 p2).toInt64)), .second, .val (.int (4 : Int32)), .unset] [])) _
        refine XS.iload X3.here hx rfl (hb hby at_48) rfl ?_
        show Steps p.tables e below (T3.setTop (mkF m 50 #[.val (.int p1), .val (.int p2), .val (.long ((own_min p1 p2).toInt64)), .second, .val (.long ((own_max p1 p2).toInt64)), .second, .val (.int (4 : Int32)), .unset] [(.int (4 : Int32))])) _
        refine XS.iconst X3.here hx rfl (hb hby at_50) ?_
        show Steps p.tables e below (T3.setTop (mkF m 51 #[.val (.int p1), .val (.int p2), .val (.long ((own_min p1 p2).toInt64)), .second, .val (.long ((own_max p1 p2).toInt64)), .second, .val (.int (4 : Int32)), .unset] [(.int (4 : Int32)), (.int (4 : Int32))])) _
        refine XS.icmpYes X3.here hx rfl (pc0 := 51) (pc' := 56) rfl (hb hby at_51) rfl (teq (by decide)).1 (by decide) (by decide) ?_
        show Steps p.tables e below (T3.setTop (mkF m 56 #[.val (.int p1), .val (.int p2), .val (.long ((own_min p1 p2).toInt64)), .second, .val (.long ((own_max p1 p2).toInt64)), .second, .val (.int (4 : Int32)), .unset] [])) _
        refine XS.iload X3.here hx rfl (hb hby at_56) rfl ?_
        show Steps p.tables e below (T3.setTop (mkF m 58 #[.val (.int p1), .val (.int p2), .val (.long ((own_min p1 p2).toInt64)), .second, .val (.long ((own_max p1 p2).toInt64)), .second, .val (.int (4 : Int32)), .unset] [(.int (4 : Int32))])) _
        refine XS.lloadN X3.here hx rfl (hb hby at_58) rfl ?_
        show Steps p.tables e below (T3.setTop (mkF m 59 #[.val (.int p1), .val (.int p2), .val (.long ((own_min p1 p2).toInt64)), .second, .val (.long ((own_max p1 p2).toInt64)), .second, .val (.int (4 : Int32)), .unset] [(.long ((own_min p1 p2).toInt64)), (.int (4 : Int32))])) _
        refine XS.lload X3.here hx rfl (hb hby at_59) rfl ?_
        show Steps p.tables e below (T3.setTop (mkF m 61 #[.val (.int p1), .val (.int p2), .val (.long ((own_min p1 p2).toInt64)), .second, .val (.long ((own_max p1 p2).toInt64)), .second, .val (.int (4 : Int32)), .unset] [(.long ((own_max p1 p2).toInt64)), (.long ((own_min p1 p2).toInt64)), (.int (4 : Int32))])) _
        refine st4 _ ?_
        show Steps p.tables e below (T4.setTop (mkF m 64 #[.val (.int p1), .val (.int p2), .val (.long ((own_min p1 p2).toInt64)), .second, .val (.long ((own_max p1 p2).toInt64)), .second, .val (.int (4 : Int32)), .unset] [(.int (own_ho (4 : Int32) ((own_min p1 p2).toInt64) ((own_max p1 p2).toInt64)))])) _
        refine XS.ifYes X4.here hx rfl (pc0 := 64) (pc' := 69) rfl (hb hby at_64) rfl ((if0 _ _).trans (feq (by rw [f1]; decide)).2) (by decide) (by decide) ?_
        show Steps p.tables e below (T4.setTop (mkF m 69 #[.val (.int p1), .val (.int p2), .val (.long ((own_min p1 p2).toInt64)), .second, .val (.long ((own_max p1 p2).toInt64)), .second, .val (.int (4 : Int32)), .unset] [])) _
        refine XS.iload X4.here hx rfl (hb hby at_69) rfl ?_
        show Steps p.tables e below (T4.setTop (mkF m 71 #[.val (.int p1), .val (.int p2), .val (.long ((own_min p1 p2).toInt64)), .second, .val (.long ((own_max p1 p2).toInt64)), .second, .val (.int (4 : Int32)), .unset] [(.int (4 : Int32))])) _
        refine st5 _ ?_
        show Steps p.tables e below (T5.setTop (mkF m 74 #[.val (.int p1), .val (.int p2), .val (.long ((own_min p1 p2).toInt64)), .second, .val (.long ((own_max p1 p2).toInt64)), .second, .val (.int (4 : Int32)), .unset] [(.int (own_abs (4 : Int32)))])) _
        refine XS.istore X5.here hx rfl (hb hby at_74) rfl (l' := #[.val (.int p1), .val (.int p2), .val (.long ((own_min p1 p2).toInt64)), .second, .val (.long ((own_max p1 p2).toInt64)), .second, .val (.int (4 : Int32)), .val (.int (own_abs (4 : Int32)))]) rfl ?_
        show Steps p.tables e below (T5.setTop (mkF m 76 #[.val (.int p1), .val (.int p2), .val (.long ((own_min p1 p2).toInt64)), .second, .val (.long ((own_max p1 p2).toInt64)), .second, .val (.int (4 : Int32)), .val (.int (own_abs (4 : Int32)))] [])) _
        refine XS.iload X5.here hx rfl (hb hby at_76) rfl ?_
        show Steps p.tables e below (T5.setTop (mkF m 78 #[.val (.int p1), .val (.int p2), .val (.long ((own_min p1 p2).toInt64)), .second, .val (.long ((own_max p1 p2).toInt64)), .second, .val (.int (4 : Int32)), .val (.int (own_abs (4 : Int32)))] [(.int (own_abs (4 : Int32)))])) _
        refine XS.iconst X5.here hx rfl (hb hby at_78) ?_
        show Steps p.tables e below (T5.setTop (mkF m 79 #[.val (.int p1), .val (.int p2), .val (.long ((own_min p1 p2).toInt64)), .second, .val (.long ((own_max p1 p2).toInt64)), .second, .val (.int (4 : Int32)), .val (.int (own_abs (4 : Int32)))] [(.int (1 : Int32)), (.int (own_abs (4 : Int32)))])) _
        refine XS.icmpNo X5.here hx rfl (hb hby at_79) rfl (tlt (by decide)).2.2.2 ?_
        show Steps p.tables e below (T5.setTop (mkF m 82 #[.val (.int p1), .val (.int p2), .val (.long ((own_min p1 p2).toInt64)), .second, .val (.long ((own_max p1 p2).toInt64)), .second, .val (.int (4 : Int32)), .val (.int (own_abs (4 : Int32)))] [])) _
        refine XS.iconst X5.here hx rfl (hb hby at_82) ?_
        show Steps p.tables e below (T5.setTop (mkF m 83 #[.val (.int p1), .val (.int p2), .val (.long ((own_min p1 p2).toInt64)), .second, .val (.long ((own_max p1 p2).toInt64)), .second, .val (.int (4 : Int32)), .val (.int (own_abs (4 : Int32)))] [(.int (1 : Int32))])) _
        refine XS.lloadN X5.here hx rfl (hb hby at_83) rfl ?_
        show Steps p.tables e below (T5.setTop (mkF m 84 #[.val (.int p1), .val (.int p2), .val (.long ((own_min p1 p2).toInt64)), .second, .val (.long ((own_max p1 p2).toInt64)), .second, .val (.int (4 : Int32)), .val (.int (own_abs (4 : Int32)))] [(.long ((own_min p1 p2).toInt64)), (.int (1 : Int32))])) _
        refine XS.lload X5.here hx rfl (hb hby at_84) rfl ?_
        show Steps p.tables e below (T5.setTop (mkF m 86 #[.val (.int p1), .val (.int p2), .val (.long ((own_min p1 p2).toInt64)), .second, .val (.long ((own_max p1 p2).toInt64)), .second, .val (.int (4 : Int32)), .val (.int (own_abs (4 : Int32)))] [(.long ((own_max p1 p2).toInt64)), (.long ((own_min p1 p2).toInt64)), (.int (1 : Int32))])) _
        refine st6 _ ?_
        show Steps p.tables e below (T6.setTop (mkF m 89 #[.val (.int p1), .val (.int p2), .val (.long ((own_min p1 p2).toInt64)), .second, .val (.long ((own_max p1 p2).toInt64)), .second, .val (.int (4 : Int32)), .val (.int (own_abs (4 : Int32)))] [(.int (own_ho (1 : Int32) ((own_min p1 p2).toInt64) ((own_max p1 p2).toInt64)))])) _
        refine XS.ifNo X6.here hx rfl (hb hby at_89) rfl ((if0 _ _).trans (teq f2).2) ?_
        show Steps p.tables e below (T6.setTop (mkF m 92 #[.val (.int p1), .val (.int p2), .val (.long ((own_min p1 p2).toInt64)), .second, .val (.long ((own_max p1 p2).toInt64)), .second, .val (.int (4 : Int32)), .val (.int (own_abs (4 : Int32)))] [])) _
        refine XS.iconst X6.here hx rfl (hb hby at_92) ?_
        show Steps p.tables e below (T6.setTop (mkF m 93 #[.val (.int p1), .val (.int p2), .val (.long ((own_min p1 p2).toInt64)), .second, .val (.long ((own_max p1 p2).toInt64)), .second, .val (.int (4 : Int32)), .val (.int (own_abs (4 : Int32)))] [(.int (-1 : Int32))])) _
        refine XS.lloadN X6.here hx rfl (hb hby at_93) rfl ?_
        show Steps p.tables e below (T6.setTop (mkF m 94 #[.val (.int p1), .val (.int p2), .val (.long ((own_min p1 p2).toInt64)), .second, .val (.long ((own_max p1 p2).toInt64)), .second, .val (.int (4 : Int32)), .val (.int (own_abs (4 : Int32)))] [(.long ((own_min p1 p2).toInt64)), (.int (-1 : Int32))])) _
        refine XS.lload X6.here hx rfl (hb hby at_94) rfl ?_
        show Steps p.tables e below (T6.setTop (mkF m 96 #[.val (.int p1), .val (.int p2), .val (.long ((own_min p1 p2).toInt64)), .second, .val (.long ((own_max p1 p2).toInt64)), .second, .val (.int (4 : Int32)), .val (.int (own_abs (4 : Int32)))] [(.long ((own_max p1 p2).toInt64)), (.long ((own_min p1 p2).toInt64)), (.int (-1 : Int32))])) _
        refine st7 _ ?_
        show Steps p.tables e below (T7.setTop (mkF m 99 #[.val (.int p1), .val (.int p2), .val (.long ((own_min p1 p2).toInt64)), .second, .val (.long ((own_max p1 p2).toInt64)), .second, .val (.int (4 : Int32)), .val (.int (own_abs (4 : Int32)))] [(.int (own_ho (-1 : Int32) ((own_min p1 p2).toInt64) ((own_max p1 p2).toInt64)))])) _
        refine XS.ifYes X7.here hx rfl (pc0 := 99) (pc' := 104) rfl (hb hby at_99) rfl ((if0 _ _).trans (teq f3).1) (by decide) (by decide) ?_
        show Steps p.tables e below (T7.setTop (mkF m 104 #[.val (.int p1), .val (.int p2), .val (.long ((own_min p1 p2).toInt64)), .second, .val (.long ((own_max p1 p2).toInt64)), .second, .val (.int (4 : Int32)), .val (.int (own_abs (4 : Int32)))] [])) _
        refine XS.iload X7.here hx rfl (hb hby at_104) rfl ?_
        show Steps p.tables e below (T7.setTop (mkF m 106 #[.val (.int p1), .val (.int p2), .val (.long ((own_min p1 p2).toInt64)), .second, .val (.long ((own_max p1 p2).toInt64)), .second, .val (.int (4 : Int32)), .val (.int (own_abs (4 : Int32)))] [(.int (own_abs (4 : Int32)))])) _
        refine XS.iconst X7.here hx rfl (hb hby at_106) ?_
        show Steps p.tables e below (T7.setTop (mkF m 107 #[.val (.int p1), .val (.int p2), .val (.long ((own_min p1 p2).toInt64)), .second, .val (.long ((own_max p1 p2).toInt64)), .second, .val (.int (4 : Int32)), .val (.int (own_abs (4 : Int32)))] [(.int (2 : Int32)), (.int (own_abs (4 : Int32)))])) _
        refine XS.icmpNo X7.here hx rfl (hb hby at_107) rfl (tlt (by decide)).2.2.2 ?_
        show Steps p.tables e below (T7.setTop (mkF m 110 #[.val (.int p1), .val (.int p2), .val (.long ((own_min p1 p2).toInt64)), .second, .val (.long ((own_max p1 p2).toInt64)), .second, .val (.int (4 : Int32)), .val (.int (own_abs (4 : Int32)))] [])) _
        refine XS.iconst X7.here hx rfl (hb hby at_110) ?_
        show Steps p.tables e below (T7.setTop (mkF m 111 #[.val (.int p1), .val (.int p2), .val (.long ((own_min p1 p2).toInt64)), .second, .val (.long ((own_max p1 p2).toInt64)), .second, .val (.int (4 : Int32)), .val (.int (own_abs (4 : Int32)))] [(.int (2 : Int32))])) _
        refine XS.lloadN X7.here hx rfl (hb hby at_111) rfl ?_
        show Steps p.tables e below (T7.setTop (mkF m 112 #[.val (.int p1), .val (.int p2), .val (.long ((own_min p1 p2).toInt64)), .second, .val (.long ((own_max p1 p2).toInt64)), .second, .val (.int (4 : Int32)), .val (.int (own_abs (4 : Int32)))] [(.long ((own_min p1 p2).toInt64)), (.int (2 : Int32))])) _
        refine XS.lload X7.here hx rfl (hb hby at_112) rfl ?_
        show Steps p.tables e below (T7.setTop (mkF m 114 #[.val (.int p1), .val (.int p2), .val (.long ((own_min p1 p2).toInt64)), .second, .val (.long ((own_max p1 p2).toInt64)), .second, .val (.int (4 : Int32)), .val (.int (own_abs (4 : Int32)))] [(.long ((own_max p1 p2).toInt64)), (.long ((own_min p1 p2).toInt64)), (.int (2 : Int32))])) _
        refine st8 _ ?_
        show Steps p.tables e below (T8.setTop (mkF m 117 #[.val (.int p1), .val (.int p2), .val (.long ((own_min p1 p2).toInt64)), .second, .val (.long ((own_max p1 p2).toInt64)), .second, .val (.int (4 : Int32)), .val (.int (own_abs (4 : Int32)))] [(.int (own_ho (2 : Int32) ((own_min p1 p2).toInt64) ((own_max p1 p2).toInt64)))])) _
        refine XS.ifNo X8.here hx rfl (hb hby at_117) rfl ((if0 _ _).trans (teq f4).2) ?_
        show Steps p.tables e below (T8.setTop (mkF m 120 #[.val (.int p1), .val (.int p2), .val (.long ((own_min p1 p2).toInt64)), .second, .val (.long ((own_max p1 p2).toInt64)), .second, .val (.int (4 : Int32)), .val (.int (own_abs (4 : Int32)))] [])) _
        refine XS.bipush X8.here hx rfl (hb hby at_120) ?_
        show Steps p.tables e below (T8.setTop (mkF m 122 #[.val (.int p1), .val (.int p2), .val (.long ((own_min p1 p2).toInt64)), .second, .val (.long ((own_max p1 p2).toInt64)), .second, .val (.int (4 : Int32)), .val (.int (own_abs (4 : Int32)))] [(.int (-2 : Int32))])) _
        refine XS.lloadN X8.here hx rfl (hb hby at_122) rfl ?_
        show Steps p.tables e below (T8.setTop (mkF m 123 #[.val (.int p1), .val (.int p2), .val (.long ((own_min p1 p2).toInt64)), .second, .val (.long ((own_max p1 p2).toInt64)), .second, .val (.int (4 : Int32)), .val (.int (own_abs (4 : Int32)))] [(.long ((own_min p1 p2).toInt64)), (.int (-2 : Int32))])) _
        refine XS.lload X8.here hx rfl (hb hby at_123) rfl ?_
        show Steps p.tables e below (T8.setTop (mkF m 125 #[.val (.int p1), .val (.int p2), .val (.long ((own_min p1 p2).toInt64)), .second, .val (.long ((own_max p1 p2).toInt64)), .second, .val (.int (4 : Int32)), .val (.int (own_abs (4 : Int32)))] [(.long ((own_max p1 p2).toInt64)), (.long ((own_min p1 p2).toInt64)), (.int (-2 : Int32))])) _
        refine st9 _ ?_
        show Steps p.tables e below (T9.setTop (mkF m 128 #[.val (.int p1), .val (.int p2), .val (.long ((own_min p1 p2).toInt64)), .second, .val (.long ((own_max p1 p2).toInt64)), .second, .val (.int (4 : Int32)), .val (.int (own_abs (4 : Int32)))] [(.int (own_ho (-2 : Int32) ((own_min p1 p2).toInt64) ((own_max p1 p2).toInt64)))])) _
        refine XS.ifYes X9.here hx rfl (pc0 := 128) (pc' := 133) rfl (hb hby at_128) rfl ((if0 _ _).trans (teq f5).1) (by decide) (by decide) ?_
        show Steps p.tables e below (T9.setTop (mkF m 133 #[.val (.int p1), .val (.int p2), .val (.long ((own_min p1 p2).toInt64)), .second, .val (.long ((own_max p1 p2).toInt64)), .second, .val (.int (4 : Int32)), .val (.int (own_abs (4 : Int32)))] [])) _
        refine XS.lloadN X9.here hx rfl (hb hby at_133) rfl ?_
        show Steps p.tables e below (T9.setTop (mkF m 134 #[.val (.int p1), .val (.int p2), .val (.long ((own_min p1 p2).toInt64)), .second, .val (.long ((own_max p1 p2).toInt64)), .second, .val (.int (4 : Int32)), .val (.int (own_abs (4 : Int32)))] [(.long ((own_min p1 p2).toInt64))])) _
        refine XS.lconst X9.here hx rfl (hb hby at_134) ?_
        show Steps p.tables e below (T9.setTop (mkF m 135 #[.val (.int p1), .val (.int p2), .val (.long ((own_min p1 p2).toInt64)), .second, .val (.long ((own_max p1 p2).toInt64)), .second, .val (.int (4 : Int32)), .val (.int (own_abs (4 : Int32)))] [(.long (0 : Int64)), (.long ((own_min p1 p2).toInt64))])) _
        refine XS.lcmp X9.here hx rfl (hb hby at_135) rfl ?_
        show Steps p.tables e below (T9.setTop (mkF m 136 #[.val (.int p1), .val (.int p2), .val (.long ((own_min p1 p2).toInt64)), .second, .val (.long ((own_max p1 p2).toInt64)), .second, .val (.int (4 : Int32)), .val (.int (own_abs (4 : Int32)))] [(.int (lcmpW ((own_min p1 p2).toInt64) (0 : Int64)))])) _
        refine XS.ifNo X9.here hx rfl (hb hby at_136) rfl ((if0 _ _).trans (flt (fun q => f0 ((lw_lt _ _).mp q))).1) ?_
        show Steps p.tables e below (T9.setTop (mkF m 139 #[.val (.int p1), .val (.int p2), .val (.long ((own_min p1 p2).toInt64)), .second, .val (.long ((own_max p1 p2).toInt64)), .second, .val (.int (4 : Int32)), .val (.int (own_abs (4 : Int32)))] [])) _
        refine XS.iload X9.here hx rfl (hb hby at_139) rfl ?_
        show Steps p.tables e below (T9.setTop (mkF m 141 #[.val (.int p1), .val (.int p2), .val (.long ((own_min p1 p2).toInt64)), .second, .val (.long ((own_max p1 p2).toInt64)), .second, .val (.int (4 : Int32)), .val (.int (own_abs (4 : Int32)))] [(.int (4 : Int32))])) _
        refine XS.ifNo X9.here hx rfl (hb hby at_141) rfl ((if0 _ _).trans (tlt (by decide)).2.2.2) ?_
        show Steps p.tables e below (T9.setTop (mkF m 144 #[.val (.int p1), .val (.int p2), .val (.long ((own_min p1 p2).toInt64)), .second, .val (.long ((own_max p1 p2).toInt64)), .second, .val (.int (4 : Int32)), .val (.int (own_abs (4 : Int32)))] [])) _
        refine XS.iconst X9.here hx rfl (hb hby at_144) ?_
        show Steps p.tables e below (T9.setTop (mkF m 145 #[.val (.int p1), .val (.int p2), .val (.long ((own_min p1 p2).toInt64)), .second, .val (.long ((own_max p1 p2).toInt64)), .second, .val (.int (4 : Int32)), .val (.int (own_abs (4 : Int32)))] [(.int (1 : Int32))])) _
        refine XS.goto X9.here hx rfl (pc0 := 145) (pc' := 149) rfl (hb hby at_145) (by decide) (by decide) ?_
        show Steps p.tables e below (T9.setTop (mkF m 149 #[.val (.int p1), .val (.int p2), .val (.long ((own_min p1 p2).toInt64)), .second, .val (.long ((own_max p1 p2).toInt64)), .second, .val (.int (4 : Int32)), .val (.int (own_abs (4 : Int32)))] [(.int (1 : Int32))])) _
        exact retN X9 hx (t := .boolean) Bd.returns (by simp) (hb hby at_149) hr
      · show Q0 Z p1 p2 h0 n0 _ T9.heap _
        exact ⟨rfl, N9⟩
set_option maxRecDepth 65536 in
set_option maxHeartbeats 40000000 in
theorem comes_1 {Post : Tables → Env → Array Value → State → Outcome → State → Prop} (hpost : ∀ tb e args s v u, (limb_1_1.after args s (.returned v) u = true ∧ limb_1_2.after args s (.returned v) u = true ∧ True) → FrameEnd s (.returned v) u (Jvm.fieldLocs frame_1_writes args s ++ Jvm.arrayLocs frame_1_arrays args s ++ Jvm.staticLocs frame_1_statics s) 0 0 → Post tb e args s (.returned v) u) :
    ArmFor flags0 classFile x code maxLocals ret World_1 tables_1 room_1 Calls_1 rest_1 Pre_1 Post := by
  intro l hfl _ _ p e ha hc hk s m args below hf hA hF happ hP
  obtain ⟨hcalls, hrest, hpre⟩ := hP
  obtain ⟨-, -, -, hnamed, -, -, -, hat⟩ := (Spec.applies_iff hf).mp happ
  obtain ⟨hg, hn⟩ := and_e (Cond.before_iff.mp (show (Jvm.Cond.and given_1 narrow_1).before args s = true from hpre))
  obtain ⟨gc, q0⟩ := and_e hg
  obtain ⟨g0, q1⟩ := and_e q0
  have g1 := q1
  obtain ⟨w0, w1, rfl⟩ : ∃ w0 w1 : Value, args = #[w0, w1] := by
    have hs : args.size = 2 := by simpa [Cond.value, given_1] using gc
    obtain ⟨L⟩ := args
    match L, hs with
    | [w0, w1], _ => exact ⟨w0, w1, rfl⟩
  have hw := fun d (hd : d ∈ tables_1) => atoms_spec (ws := Jvm.Cond.code x code maxLocals ret :: tables_1) hat d (List.mem_cons_of_mem _ hd)
  obtain ⟨i0, ei0⟩ := is_v g0
  obtain rfl : w0 = (.int i0) := Option.some.inj ei0
  obtain ⟨i1, ei1⟩ := is_v g1
  obtain rfl : w1 = (.int i1) := Option.some.inj ei1
  obtain ⟨n, o, h1, h2, h3, _, L, rfl, ⟨rfl, N⟩, hq⟩ := rm0 l s _ hw tables_1 i0 i1 s.heap s.heap.size (Nat.le_refl _) p e ha hc hk s m _ below hf ((Spec.applies_iff_loose hf).mp happ).1 ⟨rfl, State.Warmed39.refl s, rfl⟩ trivial
  refine ⟨n, _, h1, h2, h3, hpost _ _ _ _ _ _ ⟨Cond.after_iff.mpr rfl, Cond.after_iff.mpr (eq_i res_at (Term.int_eval (1)) rfl), trivial⟩ ⟨hq.1, hq.2.1, (hq.2.2.sift fun y hy => Or.inr (N y hy)).mono (by decide) (by decide)⟩⟩
theorem main_1_1 : Claimed_1_1 := comes_1 fun _ _ _ _ _ _ h hF => ⟨h.1, hF⟩
theorem main_1_2 : Claimed_1_2 := comes_1 fun _ _ _ _ _ _ h hF => ⟨h.2.1, hF⟩
end Jvm.Pilot.@@N@@
namespace Jvm.Pilot.@@N@@
open Jvm Jvm.ClassFile Sem Op Lib Jvm.Free Jvm.Stand Jvm.Pilot.@@N@@.Jvm.D
/-! MADE BY PROGRAM (witnessworld.py) out of the Statement's table words and the real class files: 10 classes; the members and pool entries that the words name. The judged class is class 1, her method 1. -/
namespace start1
open Jvm.ClassFile
def u (s : String) : CpInfo := .utf8 (stringToUtf16 s)
/-- a pool by its gaps: so many unusable entries, then the entry; so many at the end -/
def gap : Nat → List CpInfo → List CpInfo
  | 0, r => r
  | n + 1, r => .unusable :: gap n r
def poolList (es : List (Nat × CpInfo)) (last : Nat) : List CpInfo := es.foldr (fun e r => gap e.1 (e.2 :: r)) (gap last [])
def pool (es : List (Nat × CpInfo)) (last : Nat) : Array CpInfo := ⟨poolList es last⟩
def fileOf (pool : Array CpInfo) (this : Nat) (attrs : Array Attribute := #[]) (ms : Array MethodInfo := #[]) (fl : Nat := 33) (sup : Nat := 0) (ifs : Array Nat := #[]) (fds : Array FieldInfo := #[]) : ClassFile where
  minorVersion := 0
  majorVersion := 65
  constantPool := pool
  accessFlags := fl
  thisClass := this
  superClass := sup
  interfaces := ifs
  fields := fds
  methods := ms
  attributes := attrs
def plain (name : String) (sup : Option ClassId) : Class where
  name := name
  kind := .ordinary
  loader := none
  accessFlags := 33
  super := sup
  interfaces := #[]
  cf := none
  fields := #[]
  methods := #[]
  instanceTypes := #[]
  staticTypes := #[]
  resolved := #[]
  callSites := []
  init := .initialized
  statics := none
  mirror := none

def pool0 : Array CpInfo := pool [(5, u "<init>"), (0, u "()V"), (1, .class_ 10), (1, u "java/lang/Object")] 113

def k0m0 : Method := { name := "<init>", desc := "()V", sig := { parameters := [], returnType := none }, accessFlags := 1, code := none }
/-- java/lang/Object -/
def k0 : Class := { plain "java/lang/Object" none with
  accessFlags := 33
  interfaces := #[]
  cf := some (fileOf pool0 8 #[] #[{ accessFlags := 1, nameIndex := 5, descriptorIndex := 6, attributes := #[] }] 33 0 #[] #[])
  fields := #[]
  methods := #[k0m0]
  instanceTypes := #[]
  staticTypes := #[]
  resolved := Array.replicate 124 none
  statics := none }

def pool1 : Array CpInfo := pool [(2, .class_ 4), (1, u "java/lang/Object"), (0, u "<init>"), (0, u "()V"), (0, .methodref 8 9), (0, .class_ 10), (0, .nameAndType 11 12), (0, u "java/lang/Math"), (0, u "min"), (0, u "(II)I"), (0, .methodref 8 14), (0, .nameAndType 15 12), (0, u "max"), (0, .methodref 17 18), (0, .class_ 19), (0, .nameAndType 20 21), (0, u "com/example/trailgen/trailgen/promela/StateCodec"), (0, u "widthFor"), (0, u "(JJ)I"), (0, .methodref 23 24), (0, .class_ 25), (0, .nameAndType 26 27), (0, u "com/example/trailgen/trailgen/promela/StateCodecWidthForPinLaw"), (0, u "holds"), (0, u "(IJJ)Z"), (0, .methodref 8 29), (0, .nameAndType 30 31), (0, u "abs"), (0, u "(I)I"), (0, .long 18446744073709551488), (1, .long 18446744073709518848), (1, .long 18446744071562067968), (1, .long 255), (1, .long 65535), (1, .long 127), (1, .long 32767), (1, .long 2147483647), (1, .methodref 23 49), (0, .nameAndType 50 51), (0, u "lo"), (0, u "(I)J"), (0, .methodref 23 53), (0, .nameAndType 54 51), (0, u "hi"), (2, u "law"), (0, u "(II)Z")] 3

def k1m0 : Method := { name := "<init>", desc := "()V", sig := { parameters := [], returnType := none }, accessFlags := 1, code := none }
def k1c1 : Code := { maxStack := 5, maxLocals := 8, code := code, exceptionTable := #[], attributes := #[] }
def k1m1 : Method := { name := "law", desc := "(II)Z", sig := { parameters := [.int, .int], returnType := some .boolean }, accessFlags := 9, code := some k1c1 }
def k1c2 : Code := { maxStack := 2, maxLocals := 1, code := method_3_code, exceptionTable := #[], attributes := #[] }
def k1m2 : Method := { name := "lo", desc := "(I)J", sig := { parameters := [.int], returnType := some .long }, accessFlags := 10, code := some k1c2 }
def k1c3 : Code := { maxStack := 2, maxLocals := 1, code := method_4_code, exceptionTable := #[], attributes := #[] }
def k1m3 : Method := { name := "hi", desc := "(I)J", sig := { parameters := [.int], returnType := some .long }, accessFlags := 10, code := some k1c3 }
def k1c4 : Code := { maxStack := 4, maxLocals := 5, code := method_5_code, exceptionTable := #[], attributes := #[] }
def k1m4 : Method := { name := "holds", desc := "(IJJ)Z", sig := { parameters := [.int, .long, .long], returnType := some .boolean }, accessFlags := 10, code := some k1c4 }
/-- com/example/trailgen/trailgen/promela/StateCodecWidthForPinLaw -/
def k1 : Class := { plain "com/example/trailgen/trailgen/promela/StateCodecWidthForPinLaw" (some 0) with
  accessFlags := 49
  interfaces := #[]
  cf := some (fileOf pool1 23 #[] #[{ accessFlags := 1, nameIndex := 5, descriptorIndex := 6, attributes := #[] }, { accessFlags := 9, nameIndex := 57, descriptorIndex := 58, attributes := #[] }, { accessFlags := 10, nameIndex := 50, descriptorIndex := 51, attributes := #[] }, { accessFlags := 10, nameIndex := 54, descriptorIndex := 51, attributes := #[] }, { accessFlags := 10, nameIndex := 26, descriptorIndex := 27, attributes := #[] }] 49 2 #[] #[])
  fields := #[]
  methods := #[k1m0, k1m1, k1m2, k1m3, k1m4]
  instanceTypes := #[]
  staticTypes := #[]
  resolved := Array.replicate 62 none
  statics := none }

def pool2 : Array CpInfo := pool [(1, .class_ 2), (0, u "java/lang/Math"), (1, .class_ 6), (1, u "java/lang/Object"), (0, u "<init>"), (0, u "()V"), (89, .class_ 100), (1, u "java/lang/Math$RandomNumberGeneratorHolder"), (23, u "abs"), (34, u "(I)I"), (12, u "negativeZeroFloatBits"), (0, u "J"), (2, u "negativeZeroDoubleBits"), (21, u "max"), (2, u "min"), (43, u "$assertionsDisabled"), (0, u "Z"), (88, u "(II)I"), (2, u "twoToTheDoubleScaleDown"), (0, u "D"), (4, u "twoToTheDoubleScaleUp"), (9, u "E"), (3, u "PI"), (2, u "TAU"), (2, u "DEGREES_TO_RADIANS"), (0, u "RADIANS_TO_DEGREES")] 94

def k2m0 : Method := { name := "<init>", desc := "()V", sig := { parameters := [], returnType := none }, accessFlags := 2, code := none }
def k2c1 : Code := { maxStack := 1, maxLocals := 1, code := jdk_29_method_59_code, exceptionTable := #[], attributes := #[] }
def k2m1 : Method := { name := "abs", desc := "(I)I", sig := { parameters := [.int], returnType := some .int }, accessFlags := 9, code := some k2c1 }
def k2c2 : Code := { maxStack := 2, maxLocals := 2, code := jdk_29_method_65_code, exceptionTable := #[], attributes := #[] }
def k2m2 : Method := { name := "max", desc := "(II)I", sig := { parameters := [.int, .int], returnType := some .int }, accessFlags := 9, code := some k2c2 }
def k2c3 : Code := { maxStack := 2, maxLocals := 2, code := jdk_29_method_69_code, exceptionTable := #[], attributes := #[] }
def k2m3 : Method := { name := "min", desc := "(II)I", sig := { parameters := [.int, .int], returnType := some .int }, accessFlags := 9, code := some k2c3 }
/-- java/lang/Math -/
def k2 : Class := { plain "java/lang/Math" (some 0) with
  accessFlags := 49
  interfaces := #[]
  cf := some (fileOf pool2 1 #[.nestMembers #[98]] #[{ accessFlags := 2, nameIndex := 7, descriptorIndex := 8, attributes := #[] }, { accessFlags := 9, nameIndex := 124, descriptorIndex := 159, attributes := #[] }, { accessFlags := 9, nameIndex := 198, descriptorIndex := 335, attributes := #[] }, { accessFlags := 9, nameIndex := 201, descriptorIndex := 335, attributes := #[] }] 49 4 #[] #[{ accessFlags := 25, nameIndex := 354, descriptorIndex := 339, attributes := #[] }, { accessFlags := 25, nameIndex := 358, descriptorIndex := 339, attributes := #[] }, { accessFlags := 25, nameIndex := 361, descriptorIndex := 339, attributes := #[] }, { accessFlags := 26, nameIndex := 364, descriptorIndex := 339, attributes := #[] }, { accessFlags := 26, nameIndex := 365, descriptorIndex := 339, attributes := #[] }, { accessFlags := 26, nameIndex := 172, descriptorIndex := 173, attributes := #[] }, { accessFlags := 26, nameIndex := 176, descriptorIndex := 173, attributes := #[] }, { accessFlags := 8, nameIndex := 344, descriptorIndex := 339, attributes := #[] }, { accessFlags := 8, nameIndex := 338, descriptorIndex := 339, attributes := #[] }, { accessFlags := 4120, nameIndex := 245, descriptorIndex := 246, attributes := #[] }])
  fields := #[{ name := "E", type := .double, accessFlags := 25, slot := 0, constantValue := 0 }, { name := "PI", type := .double, accessFlags := 25, slot := 1, constantValue := 0 }, { name := "TAU", type := .double, accessFlags := 25, slot := 2, constantValue := 0 }, { name := "DEGREES_TO_RADIANS", type := .double, accessFlags := 26, slot := 3, constantValue := 0 }, { name := "RADIANS_TO_DEGREES", type := .double, accessFlags := 26, slot := 4, constantValue := 0 }, { name := "negativeZeroFloatBits", type := .long, accessFlags := 26, slot := 5, constantValue := 0 }, { name := "negativeZeroDoubleBits", type := .long, accessFlags := 26, slot := 6, constantValue := 0 }, { name := "twoToTheDoubleScaleUp", type := .double, accessFlags := 8, slot := 7, constantValue := 0 }, { name := "twoToTheDoubleScaleDown", type := .double, accessFlags := 8, slot := 8, constantValue := 0 }, { name := "$assertionsDisabled", type := .boolean, accessFlags := 4120, slot := 9, constantValue := 0 }]
  methods := #[k2m0, k2m1, k2m2, k2m3]
  instanceTypes := #[]
  staticTypes := #[.double, .double, .double, .double, .double, .long, .long, .double, .double, .boolean]
  resolved := Array.replicate 460 none
  statics := none }

def pool3 : Array CpInfo := pool [(2, .class_ 4), (1, u "java/lang/Object"), (3, u "[I"), (1, .class_ 12), (1, u "com/example/trailgen/trailgen/promela/StateCodec"), (0, u "frameWidths"), (0, u "[[I"), (2, u "frameBytes"), (16, u "typeWidth"), (0, u "I"), (2, u "types"), (4, u "fixedPids"), (2, u "fixedSlotEnds"), (2, u "fixedByteEnds"), (2, u "fixedWidths"), (8, u "maxSize"), (17, u "SHORTS"), (0, u "Ljava/lang/invoke/VarHandle;"), (8, u "INTS"), (15, u "widthFor"), (0, u "(JJ)I"), (0, .long 256), (1, .long 65536), (3, .long 18446744073709551488), (1, .long 127), (3, .long 18446744073709518848), (1, .long 32767)] 50

def k3c0 : Code := { maxStack := 4, maxLocals := 5, code := prog_48_method_10_code, exceptionTable := #[], attributes := #[] }
def k3m0 : Method := { name := "widthFor", desc := "(JJ)I", sig := { parameters := [.long, .long], returnType := some .int }, accessFlags := 8, code := some k3c0 }
/-- com/example/trailgen/trailgen/promela/StateCodec -/
def k3 : Class := { plain "com/example/trailgen/trailgen/promela/StateCodec" (some 0) with
  accessFlags := 49
  interfaces := #[]
  cf := some (fileOf pool3 10 #[] #[{ accessFlags := 8, nameIndex := 105, descriptorIndex := 106, attributes := #[] }] 49 2 #[] #[{ accessFlags := 26, nameIndex := 79, descriptorIndex := 80, attributes := #[] }, { accessFlags := 26, nameIndex := 89, descriptorIndex := 80, attributes := #[] }, { accessFlags := 18, nameIndex := 13, descriptorIndex := 14, attributes := #[] }, { accessFlags := 18, nameIndex := 17, descriptorIndex := 8, attributes := #[] }, { accessFlags := 18, nameIndex := 34, descriptorIndex := 35, attributes := #[] }, { accessFlags := 18, nameIndex := 38, descriptorIndex := 8, attributes := #[] }, { accessFlags := 18, nameIndex := 43, descriptorIndex := 35, attributes := #[] }, { accessFlags := 18, nameIndex := 52, descriptorIndex := 8, attributes := #[] }, { accessFlags := 18, nameIndex := 46, descriptorIndex := 8, attributes := #[] }, { accessFlags := 18, nameIndex := 49, descriptorIndex := 8, attributes := #[] }, { accessFlags := 18, nameIndex := 61, descriptorIndex := 35, attributes := #[] }])
  fields := #[{ name := "SHORTS", type := (.object "java/lang/invoke/VarHandle"), accessFlags := 26, slot := 0, constantValue := 0 }, { name := "INTS", type := (.object "java/lang/invoke/VarHandle"), accessFlags := 26, slot := 1, constantValue := 0 }, { name := "frameWidths", type := (.array (.array .int)), accessFlags := 18, slot := 0, constantValue := 0 }, { name := "frameBytes", type := (.array .int), accessFlags := 18, slot := 1, constantValue := 0 }, { name := "typeWidth", type := .int, accessFlags := 18, slot := 2, constantValue := 0 }, { name := "types", type := (.array .int), accessFlags := 18, slot := 3, constantValue := 0 }, { name := "fixedPids", type := .int, accessFlags := 18, slot := 4, constantValue := 0 }, { name := "fixedWidths", type := (.array .int), accessFlags := 18, slot := 5, constantValue := 0 }, { name := "fixedSlotEnds", type := (.array .int), accessFlags := 18, slot := 6, constantValue := 0 }, { name := "fixedByteEnds", type := (.array .int), accessFlags := 18, slot := 7, constantValue := 0 }, { name := "maxSize", type := .int, accessFlags := 18, slot := 8, constantValue := 0 }]
  methods := #[k3m0]
  instanceTypes := #[(.array (.array .int)), (.array .int), .int, (.array .int), .int, (.array .int), (.array .int), (.array .int), .int]
  staticTypes := #[(.object "java/lang/invoke/VarHandle"), (.object "java/lang/invoke/VarHandle")]
  resolved := Array.replicate 172 none
  statics := none }

def pool4 : Array CpInfo := pool [(1, u "java/lang/Cloneable"), (0, .class_ 1), (0, u "java/lang/Object"), (0, .class_ 3)] 3

/-- java/lang/Cloneable -/
def k4 : Class := { plain "java/lang/Cloneable" (some 0) with
  accessFlags := 1537
  interfaces := #[]
  cf := some (fileOf pool4 2 #[] #[] 1537 4 #[] #[])
  fields := #[]
  methods := #[]
  instanceTypes := #[]
  staticTypes := #[]
  resolved := Array.replicate 8 none
  statics := none }

def pool5 : Array CpInfo := pool [(1, u "java/io/Serializable"), (0, .class_ 1), (0, u "java/lang/Object"), (0, .class_ 3)] 3

/-- java/io/Serializable -/
def k5 : Class := { plain "java/io/Serializable" (some 0) with
  accessFlags := 1537
  interfaces := #[]
  cf := some (fileOf pool5 2 #[] #[] 1537 4 #[] #[])
  fields := #[]
  methods := #[]
  instanceTypes := #[]
  staticTypes := #[]
  resolved := Array.replicate 8 none
  statics := none }

/-- the primitive byte -/
def k6 : Class := { plain "byte" none with kind := .primitive 'B', accessFlags := 0x411 }
/-- [B -/
def k7 : Class := { plain "[B" (some 0) with kind := .array 6 .byte, interfaces := #[4, 5], accessFlags := 1041 }

/-- the primitive int -/
def k8 : Class := { plain "int" none with kind := .primitive 'I', accessFlags := 0x411 }
/-- [I -/
def k9 : Class := { plain "[I" (some 0) with kind := .array 8 .int, interfaces := #[4, 5], accessFlags := 1041 }

def heap : Heap := #[]
def classes : Array Class := #[k0, k1, k2, k3, k4, k5, k6, k7, k8, k9]
def interned : List (Array UInt16 × Addr) := []
def slotsUsed : Nat := 0
def theMethod : MethodId := ⟨1, 1⟩
def args0 : Array Value := #[.int 5, .int 300]
def aboutOver (below : List Frame) : State where
  vm := { classes := classes, interned := interned.toArray }
  heap := heap
  slotsUsed := slotsUsed
  threads := #[{ frames := .invoking theMethod args0 :: below }]
def below0 : List Frame := [.native { method := ⟨0, 0⟩, args := #[] }]
def about1 : State := aboutOver below0
def p0 : Program := .bare "" "" ""
def e0 : Env := launch0.env 0 0 0
theorem w_frames : about1.frames = Frame.invoking theMethod args0 :: below0 := rfl
set_option maxRecDepth 65536 in
theorem w_args : argsFit about1.vm theMethod args0 = true := by decide +kernel
set_option maxRecDepth 65536 in
theorem w_heap : heapFits about1 = true := by decide +kernel
set_option maxRecDepth 65536 in
theorem w_runnable : about1.curStatus? = some .runnable := by decide +kernel
set_option maxRecDepth 65536 in
theorem w_alone : about1.alone = true := by decide +kernel
set_option maxRecDepth 65536 in
theorem w_named : about1.methodNamed? x = some theMethod := by decide +kernel
set_option maxRecDepth 65536 in
theorem w_hears : about1.hears theMethod below0 = true := by decide +kernel
set_option maxRecDepth 65536 in
theorem w_ripe : about1.ripe theMethod args0 below0 = true := by decide +kernel
theorem w_running : about1.status = .running := rfl
set_option maxRecDepth 65536 in
theorem w_room : about1.hasRoom e0.platform room_1 = true :=
  launch0.hasRoom_least _ room_1 (by decide +kernel) (by decide +kernel) (by decide +kernel) (by decide +kernel) (by decide +kernel) (by decide +kernel)
theorem allAtoms_all (ts : List Jvm.Cond) (a : Array Jvm.Value) (st : Jvm.State) : (allAtoms ts).before a st = ts.all (fun c => c.before a st) := by
  induction ts with
  | nil => rfl
  | cons c t ih =>
    show (Jvm.Cond.and c (allAtoms t)).before a st = _
    rw [Jvm.Cond.before_and, ih, List.all_cons]
def words1 : List Jvm.Cond := Jvm.Cond.code x code maxLocals ret :: tables_1
/-- a 'code' word, met by the world's own term for the bytes: nothing is compared byte by byte -/
theorem code_word {y : MethodName} {bytes : ByteArray} {mx : Nat} {rt : Option FieldType} {a : Array Value} {s : State} {m : MethodId} {meth : Method} {c : Code} (h1 : s.methodNamed? y = some m) (h2 : s.vm.method? m = some meth) (h3 : meth.code = some c) (h4 : c.code = bytes)
    (h5 : (c.maxLocals == mx && c.exceptionTable.isEmpty && decide (c.maxStack ≤ mostOperands) && decide (meth.sig.returnType = rt) && !meth.locks && decide (parseMethodDescriptor y.desc = some meth.sig)) = true) : (Jvm.Cond.code y bytes mx rt).before a s = true := by
  simp only [Bool.and_eq_true, beq_iff_eq, Bool.not_eq_true', decide_eq_true_eq] at h5
  obtain ⟨⟨⟨⟨⟨g1, g2⟩, g3⟩, g4⟩, g5⟩, g6⟩ := h5
  simp [Cond.before, Cond.holds, Cond.value, h1, h2, h3, h4, g1, g2, g3, g4, g5, g6]
def isCode : Jvm.Cond → Bool
  | .code _ _ _ _ => true
  | _ => false
theorem all_split {L : List Jvm.Cond} {P : Jvm.Cond → Bool} (h1 : L.all (fun c => isCode c || P c) = true) (h2 : ∀ c ∈ L.filter isCode, P c = true) : L.all P = true := by
  refine List.all_eq_true.mpr fun c hc => ?_
  have h := List.all_eq_true.mp h1 c hc
  rcases Bool.eq_false_or_eq_true (isCode c) with hi | hi
  · exact h2 c (List.mem_filter.mpr ⟨hc, hi⟩)
  · simpa [hi] using h
set_option maxRecDepth 65536 in
theorem w_c0 : (Jvm.Cond.code x code maxLocals ret).before args0 about1 = true := code_word (m := ⟨1, 1⟩) (meth := k1m1) (c := k1c1) (by decide +kernel) rfl rfl rfl (by decide +kernel)
set_option maxRecDepth 65536 in
theorem w_c1 : (Jvm.Cond.code ({ cls := "java/lang/Math", name := "min", desc := "(II)I" } : Jvm.MethodName) jdk_29_method_69_code (2 : Nat) (Option.some Jvm.ClassFile.FieldType.int)).before args0 about1 = true := code_word (m := ⟨2, 3⟩) (meth := k2m3) (c := k2c3) (by decide +kernel) rfl rfl rfl (by decide +kernel)
set_option maxRecDepth 65536 in
theorem w_c2 : (Jvm.Cond.code ({ cls := "java/lang/Math", name := "max", desc := "(II)I" } : Jvm.MethodName) jdk_29_method_65_code (2 : Nat) (Option.some Jvm.ClassFile.FieldType.int)).before args0 about1 = true := code_word (m := ⟨2, 2⟩) (meth := k2m2) (c := k2c2) (by decide +kernel) rfl rfl rfl (by decide +kernel)
set_option maxRecDepth 65536 in
theorem w_c3 : (Jvm.Cond.code ({ cls := "com/example/trailgen/trailgen/promela/StateCodec", name := "widthFor", desc := "(JJ)I" } : Jvm.MethodName) prog_48_method_10_code (5 : Nat) (Option.some Jvm.ClassFile.FieldType.int)).before args0 about1 = true := code_word (m := ⟨3, 0⟩) (meth := k3m0) (c := k3c0) (by decide +kernel) rfl rfl rfl (by decide +kernel)
set_option maxRecDepth 65536 in
theorem w_c4 : (Jvm.Cond.code ({ cls := "com/example/trailgen/trailgen/promela/StateCodecWidthForPinLaw", name := "holds", desc := "(IJJ)Z" } : Jvm.MethodName) method_5_code (5 : Nat) (Option.some Jvm.ClassFile.FieldType.boolean)).before args0 about1 = true := code_word (m := ⟨1, 4⟩) (meth := k1m4) (c := k1c4) (by decide +kernel) rfl rfl rfl (by decide +kernel)
set_option maxRecDepth 65536 in
theorem w_c5 : (Jvm.Cond.code ({ cls := "com/example/trailgen/trailgen/promela/StateCodecWidthForPinLaw", name := "lo", desc := "(I)J" } : Jvm.MethodName) method_3_code (1 : Nat) (Option.some Jvm.ClassFile.FieldType.long)).before args0 about1 = true := code_word (m := ⟨1, 2⟩) (meth := k1m2) (c := k1c2) (by decide +kernel) rfl rfl rfl (by decide +kernel)
set_option maxRecDepth 65536 in
theorem w_c6 : (Jvm.Cond.code ({ cls := "com/example/trailgen/trailgen/promela/StateCodecWidthForPinLaw", name := "hi", desc := "(I)J" } : Jvm.MethodName) method_4_code (1 : Nat) (Option.some Jvm.ClassFile.FieldType.long)).before args0 about1 = true := code_word (m := ⟨1, 3⟩) (meth := k1m3) (c := k1c3) (by decide +kernel) rfl rfl rfl (by decide +kernel)
set_option maxRecDepth 65536 in
theorem w_c7 : (Jvm.Cond.code ({ cls := "java/lang/Math", name := "abs", desc := "(I)I" } : Jvm.MethodName) jdk_29_method_59_code (1 : Nat) (Option.some Jvm.ClassFile.FieldType.int)).before args0 about1 = true := code_word (m := ⟨2, 1⟩) (meth := k2m1) (c := k2c1) (by decide +kernel) rfl rfl rfl (by decide +kernel)
def codes1 : List Jvm.Cond := [Jvm.Cond.code x code maxLocals ret, Jvm.Cond.code ({ cls := "java/lang/Math", name := "min", desc := "(II)I" } : Jvm.MethodName) jdk_29_method_69_code (2 : Nat) (Option.some Jvm.ClassFile.FieldType.int), Jvm.Cond.code ({ cls := "java/lang/Math", name := "max", desc := "(II)I" } : Jvm.MethodName) jdk_29_method_65_code (2 : Nat) (Option.some Jvm.ClassFile.FieldType.int), Jvm.Cond.code ({ cls := "com/example/trailgen/trailgen/promela/StateCodec", name := "widthFor", desc := "(JJ)I" } : Jvm.MethodName) prog_48_method_10_code (5 : Nat) (Option.some Jvm.ClassFile.FieldType.int), Jvm.Cond.code ({ cls := "com/example/trailgen/trailgen/promela/StateCodecWidthForPinLaw", name := "holds", desc := "(IJJ)Z" } : Jvm.MethodName) method_5_code (5 : Nat) (Option.some Jvm.ClassFile.FieldType.boolean), Jvm.Cond.code ({ cls := "com/example/trailgen/trailgen/promela/StateCodecWidthForPinLaw", name := "lo", desc := "(I)J" } : Jvm.MethodName) method_3_code (1 : Nat) (Option.some Jvm.ClassFile.FieldType.long), Jvm.Cond.code ({ cls := "com/example/trailgen/trailgen/promela/StateCodecWidthForPinLaw", name := "hi", desc := "(I)J" } : Jvm.MethodName) method_4_code (1 : Nat) (Option.some Jvm.ClassFile.FieldType.long), Jvm.Cond.code ({ cls := "java/lang/Math", name := "abs", desc := "(I)I" } : Jvm.MethodName) jdk_29_method_59_code (1 : Nat) (Option.some Jvm.ClassFile.FieldType.int)]
set_option maxRecDepth 65536 in
theorem codes_eq : words1.filter isCode = codes1 := rfl
theorem w_codes : ∀ c ∈ words1.filter isCode, c.before args0 about1 = true := by
  rw [codes_eq]
  intro c hc
  simp only [codes1, List.mem_cons, List.not_mem_nil, or_false] at hc
  rcases hc with rfl | rfl | rfl | rfl | rfl | rfl | rfl | rfl
  · exact w_c0
  · exact w_c1
  · exact w_c2
  · exact w_c3
  · exact w_c4
  · exact w_c5
  · exact w_c6
  · exact w_c7
set_option maxRecDepth 65536 in
theorem w_t1 : (words1.take 24).all (fun c => isCode c || c.before args0 about1) = true := by decide +kernel
set_option maxRecDepth 65536 in
theorem w_t2 : (words1.drop 24).all (fun c => isCode c || c.before args0 about1) = true := by decide +kernel
theorem w_tables : (allAtoms (Jvm.Cond.code x code maxLocals ret :: tables_1)).before args0 about1 = true := by
  rw [allAtoms_all]
  show words1.all (fun c => c.before args0 about1) = true
  refine all_split ?_ w_codes
  rw [← List.take_append_drop 24 words1, List.all_append, w_t1, w_t2]
  rfl
set_option maxRecDepth 65536 in
theorem w_case : (Jvm.Cond.and given_1 narrow_1).before args0 about1 = true := by decide +kernel
theorem w_applies : (headSpec (Jvm.Cond.code x code maxLocals ret :: tables_1) room_1).applies x e0.platform about1 = true :=
  (Spec.applies_iff w_frames).mpr ⟨w_running, w_runnable, w_alone, w_named, w_hears, w_ripe, w_room, w_tables⟩
theorem atStart : AtStart classFile x code maxLocals ret World_1 tables_1 room_1 Calls_1 rest_1 Pre_1 launch0 p0 e0 about1 theMethod args0 below0 :=
  ⟨lists_1, trivial, launch0.admits_env _ _ _, launch0.least_env, fairChoices_fair.cas, fairChoices_fair.clock, w_frames, w_args, w_heap, w_applies, trivial, trivial, w_case⟩
end start1
theorem witness_1 : WitnessClaimed_1 := ⟨start1.p0, start1.e0, start1.about1, start1.theMethod, start1.args0, start1.below0, start1.atStart⟩
end Jvm.Pilot.@@N@@
