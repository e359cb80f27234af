import JvmDerived
import JvmDerived.Pilot.@@N@@Statement
import JvmDerived.Pilot.@@N@@Code
set_option linter.unusedVariables false
set_option linter.unusedSimpArgs false
namespace Jvm.RoadKit
open Sem ClassFile Op Lib Jvm.Stand Jvm.Free Jvm.LawKit
section New
variable {p : Program} {l : Launch} {e : Env} {R : Room} {s : State} {m : MethodId} {args : Array Value} {below : List Frame} {meth : Method} {c : Code} {T : State} {locs : List Loc} {cells slots : Nat}
theorem retI (X : Stand p l e R s m args below meth c T locs cells slots) (hx : p.tables.exec = Jvm.exec) {pc : Nat} {Ls : Array Slot} {z : Int32} {rest : List Value} (hret : meth.sig.returnType = some .int) (hd : decode c.code pc = .ok (.ireturn, 1)) {fs : List Frame}
    (hl : ∀ (f : JFrame) (acts : List Action), f.method = m → f.locked = none → f.entered = [] → (doReturn e (T.setTop f) acts (some (.int z))).1 = T.setFrames fs) : Steps p.tables e below (T.setTop (mkF m pc Ls (.int z :: rest))) (T.setFrames fs) := by
  have hm' : T.vm.method? m = some meth := X.method'
  have hn : narrow .int (.int z) = .int z := rfl
  show Steps p.tables e below (T.setTop { method := m, pc := pc, locals := Ls, stack := _ :: rest, locked := none }) _
  jvm_step X.here [X.here.top, hx, hd, hm', hret, hn]
  first | (intro acts; rw [hl _ acts rfl rfl rfl]) | rw [hl _ _ rfl rfl rfl]
  exact Steps.refl _
end New
end Jvm.RoadKit
namespace Jvm.Pilot.@@N@@
open Jvm Jvm.ClassFile Sem Op Lib Jvm.Free Jvm.Stand Jvm.LawKit Jvm.RoadKit Bundle Jvm.Pilot.@@N@@.Jvm.D
def own_ushrL (x : Int64) (y : Int32) : Int64 := (x.toUInt64 >>> (y &&& 0x3f).toInt64.toUInt64).toInt64
def own_min (a b : Int32) : Int32 := if b < a then b else a
def own_wd (x : Int32) : Int32 := (x &&& 2147483647) - ((x &&& 2147483647) / 65) * 65
def own_bf (x : Int32) : Int32 := (x + 7) / 8
def own_sz (c : Int64) : Int32 := (own_ushrL (c + 7) 3).toInt32
def own_k5 (c : Int64) : Int32 := (own_ushrL c 3).toInt32
def own_k6 (c : Int64) : Int32 := 8 - (c &&& 7).toInt32
theorem own_f1 : ∀ n : Fin 193, own_k5 (Int64.ofNat n.val) = Int32.ofNat (n.val / 8) ∧ own_k6 (Int64.ofNat n.val) = Int32.ofNat (8 - n.val % 8) ∧ own_sz (Int64.ofNat n.val) = Int32.ofNat ((n.val + 7) / 8) ∧ own_bf (Int32.ofNat n.val) = Int32.ofNat ((n.val + 7) / 8) := by decide +kernel
theorem own_f2 : ∀ k : Fin 9, ∀ r : Fin 65, own_min (Int32.ofNat k.val) (Int32.ofNat r.val) = Int32.ofNat (min k.val r.val) ∧ ((0 : Int32) < Int32.ofNat r.val ↔ 0 < r.val) := by decide +kernel
theorem own_f3 : ∀ r : Fin 65, ∀ k : Fin 9, k.val ≤ r.val → Int32.ofNat r.val - Int32.ofNat k.val = Int32.ofNat (r.val - k.val) := by decide +kernel
theorem own_f4 : ∀ k : Fin 9, (Int32.ofNat k.val).toInt64 = Int64.ofNat k.val := by decide +kernel
theorem own_f5 : ∀ i : Fin 25, ¬ (Int32.ofNat i.val < 0) ∧ (Int32.ofNat i.val).toNatClampNeg = i.val ∧ ¬ (Int32.ofNat i.val = 64) := by decide +kernel
theorem own_a64 (a b : Nat) : Int64.ofNat a + Int64.ofNat b = Int64.ofNat (a + b) := (Int64.ofNat_add a b).symm
theorem own_a32 (a b : Nat) : Int32.ofNat a + Int32.ofNat b = Int32.ofNat (a + b) := (Int32.ofNat_add a b).symm
theorem own_w64 (x : Int32) : ∃ n, n ≤ 64 ∧ own_wd x = Int32.ofNat n := by
  have hy : 0 ≤ (x &&& 2147483647).toInt := by
    have h : (x &&& 2147483647).toBitVec.toNat ≤ 2147483647 := by
      rw [Int32.toBitVec_and, BitVec.toNat_and]
      exact Nat.and_le_right
    have e : (x &&& 2147483647).toInt = (x &&& 2147483647).toBitVec.toInt := rfl
    rw [e, BitVec.toInt_eq_toNat_cond, if_pos (by omega)]
    exact Int.natCast_nonneg _
  unfold own_wd
  generalize x &&& 2147483647 = y at *
  have hlt := y.toInt_lt
  have e65 : (65 : Int32).toInt = 65 := rfl
  have e1 : (y / 65).toInt = y.toInt / 65 := by
    rw [Int32.toInt_div, e65, Int.tdiv_eq_ediv_of_nonneg hy, Int.bmod_eq_of_le (by omega) (by omega)]
  have e2 : (y / 65 * 65).toInt = y.toInt / 65 * 65 := by
    rw [Int32.toInt_mul, e1, e65, Int.bmod_eq_of_le (by omega) (by omega)]
  have e3 : (y - y / 65 * 65).toInt = y.toInt % 65 := by
    rw [Int32.toInt_sub, e2, Int.bmod_eq_of_le (by omega) (by omega)]; omega
  refine ⟨(y.toInt % 65).toNat, by omega, ?_⟩
  apply Int32.toInt_inj.mp
  rw [e3, Int32.toInt_ofNat_of_lt (by omega)]
  omega
theorem d1_0 : decode method_2_code 0 = .ok (.iload_n 0, 1) := by decide +kernel
theorem d1_1 : decode method_2_code 1 = .ok (.ldc 7, 2) := by decide +kernel
theorem d1_3 : decode method_2_code 3 = .ok (.iand, 1) := by decide +kernel
theorem d1_4 : decode method_2_code 4 = .ok (.bipush 65, 2) := by decide +kernel
theorem d1_6 : decode method_2_code 6 = .ok (.irem, 1) := by decide +kernel
theorem d1_7 : decode method_2_code 7 = .ok (.ireturn, 1) := by decide +kernel
theorem pn_1 : plainName "com/example/beaconry/beaconry/archive/WriterSizePinLaw" = true := by first | (simp [plainName, overriddenIn]; done) | decide +kernel
theorem ef_1 (m : MethodId) (x0 : Int32) : entryFrame m #[(.int x0)] 1 = mkF m 0 #[.val (.int x0)] [] := by first | (simp [entryFrame, mkF, argsToLocals, Value.category]; done) | rfl
def Q1 (Z : State) (p1 : Int32) (h0 : Heap) (n0 : Nat) (v : Option Value) (h : Heap) (L : List Loc) : Prop := v = some (.int (own_wd p1)) ∧ Fr n0 L ∧ h = h0
set_option maxRecDepth 65536 in
set_option maxHeartbeats 40000000 in
theorem rm1 (l : Launch) (Z : State) (a0 : Array Value) (hw : ∀ d ∈ tables_1, d.before a0 Z = true) (ws : List Jvm.Cond) (p1 : Int32) (h0 : Heap) (n0 : Nat) (Z0 : n0 ≤ h0.size) :
    MetFree l (⟨"com/example/beaconry/beaconry/archive/WriterSizePinLaw", "width", "(I)I"⟩ : MethodName) (head1 (Jvm.Cond.code (⟨"com/example/beaconry/beaconry/archive/WriterSizePinLaw", "width", "(I)I"⟩ : MethodName) method_2_code 1 (some .int) :: ws) ({ frames := 0, cells := 0, slots := 0, locals := 0 } : Room)) (fun a U => a = #[(.int p1)] ∧ Z.Warmed39 U.vm ∧ U.heap = h0) (fun _ _ _ _ _ => True) (fun _ U o U' => ∃ v L, o = .returned v ∧ Q1 Z p1 h0 n0 v U'.heap L ∧ FrameEnd U o U' L (({ frames := 0, cells := 0, slots := 0, locals := 0 } : Room)).cells (({ frames := 0, cells := 0, slots := 0, locals := 0 } : Room)).slots) := by
  refine MetFree.of_bodySF (plainFor_of_name pn_1) hisR ?_
  intro p e s m args below meth c s₁ Bd hml0 hP hK
  obtain ⟨rfl, hZ, hh⟩ := hP
  have hx := Bd.exec
  have hby := Bd.bytes
  have hml : c.maxLocals = 1 := hml0
  have hown : s.vm.findClass "com/example/beaconry/beaconry/archive/WriterSizePinLaw" = some m.cls := findClass_of_methodNamed Bd.named
  have hnm := (name_of_methodNamed Bd.named Bd.method).1
  have X0 : Stand p l e ({ frames := 0, cells := 0, slots := 0, locals := 0 } : Room) s m #[(.int p1)] below meth c s₁ [] 0 0 := Stand.of_body Bd
  have e0 : s₁.heap = h0 := by rw [← hh, Bd.state]; rfl
  have N0 := Fr.nil n0
  have pre0 : ∀ t, Steps p.tables e below (s₁.setTop (mkF m 0 #[.val (.int p1)] [])) t → Steps p.tables e below (s₁.setTop (entryFrame m #[(.int p1)] 1)) t := fun t k => castTop (ef_1 m p1) k
  obtain ⟨fs, hr, hrun, hended, hW, hsame⟩ := X0.leave (v := some (.int (own_wd p1))) (fun h => by rw [Bd.returns] at h; cases h)
  refine ⟨_, _, pre0 _ ?_, hrun, hended, _, _, rfl, ?_, ⟨_, rfl⟩, hW, hsame.mono (by decide) (by decide)⟩
  · show Steps p.tables e below (s₁.setTop (mkF m 0 #[.val (.int p1)] [])) _
    refine XS.iloadN X0.here hx rfl (hb hby d1_0) rfl ?_
    show Steps p.tables e below (s₁.setTop (mkF m 1 #[.val (.int p1)] [(.int p1)])) _
    refine X0.ldcI hx hown (mvT hZ (hw _ (List.mem_of_getElem? (i := 4) rfl))) rfl (hb hby d1_1) ?_
    show Steps p.tables e below (s₁.setTop (mkF m 3 #[.val (.int p1)] [(.int (2147483647 : Int32)), (.int p1)])) _
    refine XS.iand X0.here hx rfl (hb hby d1_3) rfl ?_
    show Steps p.tables e below (s₁.setTop (mkF m 4 #[.val (.int p1)] [(.int (p1 &&& (2147483647 : Int32)))])) _
    refine XS.bipush X0.here hx rfl (hb hby d1_4) ?_
    show Steps p.tables e below (s₁.setTop (mkF m 6 #[.val (.int p1)] [(.int (65 : Int32)), (.int (p1 &&& (2147483647 : Int32)))])) _
    refine XS.irem X0.here hx rfl (hb hby d1_6) rfl (by decide) ?_
    show Steps p.tables e below (s₁.setTop (mkF m 7 #[.val (.int p1)] [(.int ((p1 &&& (2147483647 : Int32)) - ((p1 &&& (2147483647 : Int32)) / (65 : Int32)) * (65 : Int32)))])) _
    have ev : own_wd p1 = ((p1 &&& (2147483647 : Int32)) - ((p1 &&& (2147483647 : Int32)) / (65 : Int32)) * (65 : Int32)) := by first | rfl | (rw [own_wd]; done) | (simp only [own_wd, if_true, if_false]; done) | (simp [own_wd]; done) | contradiction | ((unfold own_wd; repeat' split) <;> first | rfl | contradiction | (simp_all; done))
    rw [ev] at hr
    exact retI X0 hx Bd.returns (hb hby d1_7) hr
  · show Q1 Z p1 h0 n0 _ s₁.heap _
    rw [e0]
    exact ⟨rfl, N0, rfl⟩
theorem d7_0 : decode method_3_code 0 = .ok (.iload_n 0, 1) := by decide +kernel
theorem d7_1 : decode method_3_code 1 = .ok (.bipush 7, 2) := by decide +kernel
theorem d7_3 : decode method_3_code 3 = .ok (.iadd, 1) := by decide +kernel
theorem d7_4 : decode method_3_code 4 = .ok (.bipush 8, 2) := by decide +kernel
theorem d7_6 : decode method_3_code 6 = .ok (.idiv, 1) := by decide +kernel
theorem d7_7 : decode method_3_code 7 = .ok (.ireturn, 1) := by decide +kernel
theorem pn_7 : plainName "com/example/beaconry/beaconry/archive/WriterSizePinLaw" = true := by first | (simp [plainName, overriddenIn]; done) | decide +kernel
theorem ef_7 (m : MethodId) (x0 : Int32) : entryFrame m #[(.int x0)] 1 = mkF m 0 #[.val (.int x0)] [] := by first | (simp [entryFrame, mkF, argsToLocals, Value.category]; done) | rfl
def Q7 (Z : State) (p1 : Int32) (h0 : Heap) (n0 : Nat) (v : Option Value) (h : Heap) (L : List Loc) : Prop := v = some (.int (own_bf p1)) ∧ Fr n0 L ∧ h = h0
set_option maxRecDepth 65536 in
set_option maxHeartbeats 40000000 in
theorem rm7 (l : Launch) (Z : State) (a0 : Array Value) (hw : ∀ d ∈ tables_1, d.before a0 Z = true) (ws : List Jvm.Cond) (p1 : Int32) (h0 : Heap) (n0 : Nat) (Z0 : n0 ≤ h0.size) :
    MetFree l (⟨"com/example/beaconry/beaconry/archive/WriterSizePinLaw", "bytesFor", "(I)I"⟩ : MethodName) (head1 (Jvm.Cond.code (⟨"com/example/beaconry/beaconry/archive/WriterSizePinLaw", "bytesFor", "(I)I"⟩ : MethodName) method_3_code 1 (some .int) :: ws) ({ frames := 0, cells := 0, slots := 0, locals := 0 } : Room)) (fun a U => a = #[(.int p1)] ∧ Z.Warmed39 U.vm ∧ U.heap = h0) (fun _ _ _ _ _ => True) (fun _ U o U' => ∃ v L, o = .returned v ∧ Q7 Z p1 h0 n0 v U'.heap L ∧ FrameEnd U o U' L (({ frames := 0, cells := 0, slots := 0, locals := 0 } : Room)).cells (({ frames := 0, cells := 0, slots := 0, locals := 0 } : Room)).slots) := by
  refine MetFree.of_bodySF (plainFor_of_name pn_7) hisR ?_
  intro p e s m args below meth c s₁ Bd hml0 hP hK
  obtain ⟨rfl, hZ, hh⟩ := hP
  have hx := Bd.exec
  have hby := Bd.bytes
  have hml : c.maxLocals = 1 := hml0
  have hown : s.vm.findClass "com/example/beaconry/beaconry/archive/WriterSizePinLaw" = some m.cls := findClass_of_methodNamed Bd.named
  have hnm := (name_of_methodNamed Bd.named Bd.method).1
  have X0 : Stand p l e ({ frames := 0, cells := 0, slots := 0, locals := 0 } : Room) s m #[(.int p1)] below meth c s₁ [] 0 0 := Stand.of_body Bd
  have e0 : s₁.heap = h0 := by rw [← hh, Bd.state]; rfl
  have N0 := Fr.nil n0
  have pre0 : ∀ t, Steps p.tables e below (s₁.setTop (mkF m 0 #[.val (.int p1)] [])) t → Steps p.tables e below (s₁.setTop (entryFrame m #[(.int p1)] 1)) t := fun t k => castTop (ef_7 m p1) k
  obtain ⟨fs, hr, hrun, hended, hW, hsame⟩ := X0.leave (v := some (.int (own_bf p1))) (fun h => by rw [Bd.returns] at h; cases h)
  refine ⟨_, _, pre0 _ ?_, hrun, hended, _, _, rfl, ?_, ⟨_, rfl⟩, hW, hsame.mono (by decide) (by decide)⟩
  · show Steps p.tables e below (s₁.setTop (mkF m 0 #[.val (.int p1)] [])) _
    refine XS.iloadN X0.here hx rfl (hb hby d7_0) rfl ?_
    show Steps p.tables e below (s₁.setTop (mkF m 1 #[.val (.int p1)] [(.int p1)])) _
    refine XS.bipush X0.here hx rfl (hb hby d7_1) ?_
    show Steps p.tables e below (s₁.setTop (mkF m 3 #[.val (.int p1)] [(.int (7 : Int32)), (.int p1)])) _
    refine XS.iadd X0.here hx rfl (hb hby d7_3) rfl ?_
    show Steps p.tables e below (s₁.setTop (mkF m 4 #[.val (.int p1)] [(.int (p1 + (7 : Int32)))])) _
    refine XS.bipush X0.here hx rfl (hb hby d7_4) ?_
    show Steps p.tables e below (s₁.setTop (mkF m 6 #[.val (.int p1)] [(.int (8 : Int32)), (.int (p1 + (7 : Int32)))])) _
    refine XS.idiv X0.here hx rfl (hb hby d7_6) rfl (by decide) ?_
    show Steps p.tables e below (s₁.setTop (mkF m 7 #[.val (.int p1)] [(.int ((p1 + (7 : Int32)) / (8 : Int32)))])) _
    have ev : own_bf p1 = ((p1 + (7 : Int32)) / (8 : Int32)) := by first | rfl | (rw [own_bf]; done) | (simp only [own_bf, if_true, if_false]; done) | (simp [own_bf]; done) | contradiction | ((unfold own_bf; repeat' split) <;> first | rfl | contradiction | (simp_all; done))
    rw [ev] at hr
    exact retI X0 hx Bd.returns (hb hby d7_7) hr
  · show Q7 Z p1 h0 n0 _ s₁.heap _
    rw [e0]
    exact ⟨rfl, N0, rfl⟩
theorem d6_0 : decode jdk_29_method_69_code 0 = .ok (.iload_n 0, 1) := by decide +kernel
theorem d6_1 : decode jdk_29_method_69_code 1 = .ok (.iload_n 1, 1) := by decide +kernel
theorem d6_2 : decode jdk_29_method_69_code 2 = .ok (.if_icmp .gt 7, 3) := by decide +kernel
theorem d6_5 : decode jdk_29_method_69_code 5 = .ok (.iload_n 0, 1) := by decide +kernel
theorem d6_6 : decode jdk_29_method_69_code 6 = .ok (.goto 4, 3) := by decide +kernel
theorem d6_9 : decode jdk_29_method_69_code 9 = .ok (.iload_n 1, 1) := by decide +kernel
theorem d6_10 : decode jdk_29_method_69_code 10 = .ok (.ireturn, 1) := by decide +kernel
theorem ef_6 (m : MethodId) (x0 : Int32) (x1 : Int32) : entryFrame m #[(.int x0), (.int x1)] 2 = mkF m 0 #[.val (.int x0), .val (.int x1)] [] := by first | (simp [entryFrame, mkF, argsToLocals, Value.category]; done) | rfl
def Q6 (Z : State) (p1 : Int32) (p2 : Int32) (h0 : Heap) (n0 : Nat) (v : Option Value) (h : Heap) (L : List Loc) : Prop := v = some (.int (own_min p1 p2)) ∧ Fr n0 L ∧ h = h0
set_option maxRecDepth 65536 in
set_option maxHeartbeats 40000000 in
theorem rm6 (l : Launch) (Z : State) (a0 : Array Value) (hw : ∀ d ∈ tables_1, d.before a0 Z = true) (ws : List Jvm.Cond) (p1 : Int32) (p2 : Int32) (h0 : Heap) (n0 : Nat) (Z0 : n0 ≤ h0.size) :
    MetFree l (⟨"java/lang/Math", "min", "(II)I"⟩ : MethodName) (head1 (Jvm.Cond.code (⟨"java/lang/Math", "min", "(II)I"⟩ : MethodName) jdk_29_method_69_code 2 (some .int) :: ws) ({ frames := 0, cells := 0, slots := 0, locals := 0 } : Room)) (fun a U => a = #[(.int p1), (.int p2)] ∧ Z.Warmed39 U.vm ∧ U.heap = h0) (fun _ _ _ _ _ => True) (fun _ U o U' => ∃ v L, o = .returned v ∧ Q6 Z p1 p2 h0 n0 v U'.heap L ∧ FrameEnd U o U' L (({ frames := 0, cells := 0, slots := 0, locals := 0 } : Room)).cells (({ frames := 0, cells := 0, slots := 0, locals := 0 } : Room)).slots) := by
  refine MetFree.of_bodySF (Jvm.Free.JP.mathPlain rfl (by decide)) hisR ?_
  intro p e s m args below meth c s₁ Bd hml0 hP hK
  obtain ⟨rfl, hZ, hh⟩ := hP
  have hx := Bd.exec
  have hby := Bd.bytes
  have hml : c.maxLocals = 2 := hml0
  have hown : s.vm.findClass "java/lang/Math" = some m.cls := findClass_of_methodNamed Bd.named
  have hnm := (name_of_methodNamed Bd.named Bd.method).1
  have X0 : Stand p l e ({ frames := 0, cells := 0, slots := 0, locals := 0 } : Room) s m #[(.int p1), (.int p2)] below meth c s₁ [] 0 0 := Stand.of_body Bd
  have e0 : s₁.heap = h0 := by rw [← hh, Bd.state]; rfl
  have N0 := Fr.nil n0
  have pre0 : ∀ t, Steps p.tables e below (s₁.setTop (mkF m 0 #[.val (.int p1), .val (.int p2)] [])) t → Steps p.tables e below (s₁.setTop (entryFrame m #[(.int p1), (.int p2)] 2)) t := fun t k => castTop (ef_6 m p1 p2) k
  obtain ⟨fs, hr, hrun, hended, hW, hsame⟩ := X0.leave (v := some (.int (own_min p1 p2))) (fun h => by rw [Bd.returns] at h; cases h)
  refine ⟨_, _, pre0 _ ?_, hrun, hended, _, _, rfl, ?_, ⟨_, rfl⟩, hW, hsame.mono (by decide) (by decide)⟩
  · show Steps p.tables e below (s₁.setTop (mkF m 0 #[.val (.int p1), .val (.int p2)] [])) _
    refine XS.iloadN X0.here hx rfl (hb hby d6_0) rfl ?_
    show Steps p.tables e below (s₁.setTop (mkF m 1 #[.val (.int p1), .val (.int p2)] [(.int p1)])) _
    refine XS.iloadN X0.here hx rfl (hb hby d6_1) rfl ?_
    show Steps p.tables e below (s₁.setTop (mkF m 2 #[.val (.int p1), .val (.int p2)] [(.int p2), (.int p1)])) _
    by_cases c2 : p2 < p1
    · refine XS.icmpYes X0.here hx rfl (pc0 := 2) (pc' := 9) rfl (hb hby d6_2) rfl (tlt c2).2.2.1 (by decide) (by decide) ?_
      show Steps p.tables e below (s₁.setTop (mkF m 9 #[.val (.int p1), .val (.int p2)] [])) _
      refine XS.iloadN X0.here hx rfl (hb hby d6_9) rfl ?_
      show Steps p.tables e below (s₁.setTop (mkF m 10 #[.val (.int p1), .val (.int p2)] [(.int p2)])) _
      have ev : own_min p1 p2 = p2 := by first | rfl | (rw [own_min, if_pos c2]; done) | (simp only [own_min, c2, if_true, if_false]; done) | (simp [own_min, c2]; done) | contradiction | ((unfold own_min; repeat' split) <;> first | rfl | contradiction | (simp_all; done))
      rw [ev] at hr
      exact retI X0 hx Bd.returns (hb hby d6_10) hr
    · refine XS.icmpNo X0.here hx rfl (hb hby d6_2) rfl (flt c2).2.2.1 ?_
      show Steps p.tables e below (s₁.setTop (mkF m 5 #[.val (.int p1), .val (.int p2)] [])) _
      refine XS.iloadN X0.here hx rfl (hb hby d6_5) rfl ?_
      show Steps p.tables e below (s₁.setTop (mkF m 6 #[.val (.int p1), .val (.int p2)] [(.int p1)])) _
      refine XS.goto X0.here hx rfl (pc0 := 6) (pc' := 10) rfl (hb hby d6_6) (by decide) (by decide) ?_
      show Steps p.tables e below (s₁.setTop (mkF m 10 #[.val (.int p1), .val (.int p2)] [(.int p1)])) _
      have ev : own_min p1 p2 = p1 := by first | rfl | (rw [own_min, if_neg c2]; done) | (simp only [own_min, c2, if_true, if_false]; done) | (simp [own_min, c2]; done) | contradiction | ((unfold own_min; repeat' split) <;> first | rfl | contradiction | (simp_all; done))
      rw [ev] at hr
      exact retI X0 hx Bd.returns (hb hby d6_10) hr
  · show Q6 Z p1 p2 h0 n0 _ s₁.heap _
    rw [e0]
    exact ⟨rfl, N0, rfl⟩
def own_mv (j : Int64) (r n : Int32) : Int32 := (own_ushrL j (r - n)).toInt32 &&& ((1 <<< (n &&& 31)) - 1)
def own_bv (w v k n : Int32) : Int32 := (w ||| (v <<< ((k - n) &&& 31)).toInt8.toInt32).toInt8.toInt32
def own_B (Z : State) (h : Heap) (b : Addr) : Prop := ∃ cl : Cell, Arr Z h b cl .byte ∧ cl.slots.size = 64 ∧ ∀ i, i < 64 → ∃ w : Int32, cl.slots[i]? = some (.int w)
theorem own_B_other {Z : State} {h h' : Heap} {a b : Addr} {sl : Nat} {v : Value} (F : own_B Z h b) (W : Wr h h' a sl v) (q : b ≠ a) : own_B Z h' b := by
  obtain ⟨cl, A, r⟩ := F
  exact ⟨cl, A.other W q, r⟩
theorem own_B_keep {Z : State} {h h' : Heap} {b : Addr} {ws : List Addr} (F : own_B Z h b) (K : Keep h h' ws) (q : b ∉ ws) : own_B Z h' b := by
  obtain ⟨cl, A, r⟩ := F
  exact ⟨cl, ⟨K.2.1 b cl A.1 q, A.2⟩, r⟩
theorem own_B_same {Z : State} {h h' : Heap} {b : Addr} {cl : Cell} {sl : Nat} {x : Int32} (A : Arr Z h b cl .byte) (S : cl.slots.size = 64) (H : ∀ i, i < 64 → ∃ w : Int32, cl.slots[i]? = some (.int w)) (W : Wr h h' b sl (.int x)) : own_B Z h' b := by
  refine ⟨_, Arr.same W A, ?_, ?_⟩
  · simp [Cell.setSlot, S]
  · intro i hi
    by_cases e : sl = i
    · subst e
      exact ⟨x, by simp [Cell.setSlot, S, hi]⟩
    · obtain ⟨w, hw⟩ := H i hi
      exact ⟨w, by simp [Cell.setSlot, Array.getElem?_setIfInBounds, e, hw]⟩
theorem own_B_new {Z : State} {h : Heap} {b : Addr} {k : ClassId} (A : Arr Z h b (newA k .byte 64) .byte) : own_B Z h b := by
  refine ⟨_, A, rfl, ?_⟩
  intro i hi
  refine ⟨0, ?_⟩
  have e : (newA k .byte 64).slots = Array.replicate 64 (.int 0) := rfl
  rw [e, Array.getElem?_replicate, if_pos hi]
theorem d2_0 : decode prog_14_method_1_code 0 = .ok (.aload_n 0, 1) := by decide +kernel
theorem d2_1 : decode prog_14_method_1_code 1 = .ok (.invokespecial 3, 3) := by decide +kernel
theorem d2_4 : decode prog_14_method_1_code 4 = .ok (.aload_n 0, 1) := by decide +kernel
theorem d2_5 : decode prog_14_method_1_code 5 = .ok (.bipush 64, 2) := by decide +kernel
theorem d2_7 : decode prog_14_method_1_code 7 = .ok (.newarray .byte, 2) := by decide +kernel
theorem d2_9 : decode prog_14_method_1_code 9 = .ok (.putfield 9, 3) := by decide +kernel
theorem d2_12 : decode prog_14_method_1_code 12 = .ok (.return_, 1) := by decide +kernel
theorem pn_2 : plainName "com/example/beaconry/beaconry/archive/Bits$Writer" = true := by first | (simp [plainName, overriddenIn]; done) | decide +kernel
theorem ef_2 (m : MethodId) (x0 : Addr) : entryFrame m #[(.ref x0)] 1 = mkF m 0 #[.val (.ref x0)] [] := by first | (simp [entryFrame, mkF, argsToLocals, Value.category]; done) | rfl
def Q2 (Z : State) (a1 : Addr) (u_bytes_a1 : Value) (h0 : Heap) (n0 : Nat) (v : Option Value) (h : Heap) (L : List Loc) : Prop := v = none ∧ Fr n0 L ∧ Keep h0 h [a1] ∧ Exa Z h a1 "com/example/beaconry/beaconry/archive/Bits$Writer" ∧ Fld Z h a1 "com/example/beaconry/beaconry/archive/Bits$Writer" "count" "J" (.long 0) ∧ ∃ b : Addr, n0 ≤ b ∧ h0.size ≤ b ∧ Fld Z h a1 "com/example/beaconry/beaconry/archive/Bits$Writer" "bytes" "[B" (.ref b) ∧ own_B Z h b
set_option maxRecDepth 65536 in
set_option maxHeartbeats 40000000 in
theorem rm2 (l : Launch) (Z : State) (a0 : Array Value) (hw : ∀ d ∈ tables_1, d.before a0 Z = true) (ws : List Jvm.Cond) (a1 : Addr) (u_bytes_a1 : Value) (h0 : Heap) (n0 : Nat) (Z0 : n0 ≤ h0.size) (E_a1 : Exa Z h0 a1 "com/example/beaconry/beaconry/archive/Bits$Writer") (F_bytes_a1 : Fld Z h0 a1 "com/example/beaconry/beaconry/archive/Bits$Writer" "bytes" "[B" u_bytes_a1) (g_a1 : n0 ≤ a1) (Fc : Fld Z h0 a1 "com/example/beaconry/beaconry/archive/Bits$Writer" "count" "J" (.long 0)) :
    MetFree l (⟨"com/example/beaconry/beaconry/archive/Bits$Writer", "<init>", "()V"⟩ : MethodName) (head1 (Jvm.Cond.code (⟨"com/example/beaconry/beaconry/archive/Bits$Writer", "<init>", "()V"⟩ : MethodName) prog_14_method_1_code 1 none :: ws) ({ frames := 1, cells := 1, slots := 64, locals := 12 } : Room)) (fun a U => a = #[(.ref a1)] ∧ Z.Warmed39 U.vm ∧ U.heap = h0) (fun _ _ _ _ _ => True) (fun _ U o U' => ∃ v L, o = .returned v ∧ Q2 Z a1 u_bytes_a1 h0 n0 v U'.heap L ∧ FrameEnd U o U' L ({ frames := 1, cells := 1, slots := 64, locals := 12 } : Room).cells ({ frames := 1, cells := 1, slots := 64, locals := 12 } : Room).slots) := by
  refine MetFree.of_bodySF (plainFor_of_name pn_2) hisR ?_
  intro p e s m args below meth c s₁ Bd hml0 hP hK
  obtain ⟨rfl, hZ, hh⟩ := hP
  have hx := Bd.exec
  have hby := Bd.bytes
  have hml : c.maxLocals = 1 := hml0
  have hown : s.vm.findClass "com/example/beaconry/beaconry/archive/Bits$Writer" = some m.cls := findClass_of_methodNamed Bd.named
  have hnm := (name_of_methodNamed Bd.named Bd.method).1
  have X0 : Stand p l e ({ frames := 1, cells := 1, slots := 64, locals := 12 } : Room) s m #[(.ref a1)] below meth c s₁ [] 0 0 := Stand.of_body Bd
  have e0 : s₁.heap = h0 := by rw [← hh, Bd.state]; rfl
  have N0 := Fr.nil n0
  have pre0 : ∀ t, Steps p.tables e below (s₁.setTop (mkF m 0 #[.val (.ref a1)] [])) t → Steps p.tables e below (s₁.setTop (entryFrame m #[(.ref a1)] 1)) t := fun t k => castTop (ef_2 m a1) k
  obtain ⟨T2, X2, e2, st2⟩ := initO X0 hx hZ hown (hw _ (List.mem_of_getElem? (i := 11) rfl)) (hw _ (List.mem_of_getElem? (i := 12) rfl)) (hw _ (List.mem_of_getElem? (i := 13) rfl)) e0 (g := (mkF m 1 #[.val (.ref a1)] [(.ref a1)])) rfl (by rw [hml]; rfl) rfl (hb hby d2_1) (by decide) (W := 0) (by show 2 * 0 + _ ≤ _; exact Nat.le_of_eq rfl) (by decide)
  obtain ⟨T3, h3, k3, X3, e3, E3, A3, st3⟩ := newP X2 hx hZ (hw _ (List.mem_of_getElem? (i := 14) rfl)) e2 (g := (mkF m 7 #[.val (.ref a1)] [(.int (64 : Int32)), (.ref a1)])) rfl (hb hby d2_7) rfl (by decide) (cap := 64) (by decide) (by decide) (by decide) (by decide)
  obtain ⟨b3, g3⟩ : ∃ z, z = h0.size := ⟨_, rfl⟩
  rw [← g3] at A3 st3
  have g_b3 : n0 ≤ b3 := Nat.le_trans Z0 (Nat.le_of_eq g3.symm)
  have sz_b3 : h0.size ≤ b3 := (Nat.le_trans (Keep.refl h0 [a1]).1 (Nat.le_of_eq g3.symm))
  have K3 : Keep h0 h3 [a1] := (Keep.refl h0 [a1]).ext E3
  obtain ⟨T4, h4, X4, e4, W4, st4⟩ := putF X3 hx hZ hown (host := "") (Or.inl (hw _ (List.mem_of_getElem? (i := 15) rfl))) Via.refl e3 (F_bytes_a1.ext E3) (E_a1.ext E3) (Or.inl (hw _ (List.mem_of_getElem? (i := 16) rfl))) (hw _ (List.mem_of_getElem? (i := 6) rfl)) (ty := (.array .byte)) (by decide) rfl rfl (g := (mkF m 9 #[.val (.ref a1)] [(.ref b3), (.ref a1)])) rfl rfl (hb hby d2_9)
  have Fw4 := (F_bytes_a1.ext E3).same W4
  have K4 : Keep h0 h4 [a1] := K3.wr W4 (Or.inl (List.mem_of_getElem? (i := 0) rfl))
  have N4 := Fr.snoc X4 N0 g_a1
  obtain ⟨fs, hr, hrun, hended, hW, hsame⟩ := X4.leave (v := none) (fun _ => rfl)
  refine ⟨_, _, pre0 _ ?_, hrun, hended, _, _, rfl, ?_, ⟨_, rfl⟩, hW, hsame.mono (by decide) (by decide)⟩
  · show Steps p.tables e below (s₁.setTop (mkF m 0 #[.val (.ref a1)] [])) _
    refine XS.aloadN X0.here hx rfl (hb hby d2_0) rfl rfl ?_
    show Steps p.tables e below (s₁.setTop (mkF m 1 #[.val (.ref a1)] [(.ref a1)])) _
    refine st2 _ ?_
    show Steps p.tables e below (T2.setTop (mkF m 4 #[.val (.ref a1)] [])) _
    refine XS.aloadN X2.here hx rfl (hb hby d2_4) rfl rfl ?_
    show Steps p.tables e below (T2.setTop (mkF m 5 #[.val (.ref a1)] [(.ref a1)])) _
    refine XS.bipush X2.here hx rfl (hb hby d2_5) ?_
    show Steps p.tables e below (T2.setTop (mkF m 7 #[.val (.ref a1)] [(.int (64 : Int32)), (.ref a1)])) _
    refine st3 _ ?_
    show Steps p.tables e below (T3.setTop (mkF m 9 #[.val (.ref a1)] [(.ref b3), (.ref a1)])) _
    refine st4 _ ?_
    show Steps p.tables e below (T4.setTop (mkF m 12 #[.val (.ref a1)] [])) _
    exact X4.returnOut hx Bd.returns (hb hby d2_12) hr
  · show Q2 Z a1 u_bytes_a1 h0 n0 _ T4.heap _
    rw [e4]
    exact ⟨rfl, N4, K4, ((E_a1.ext E3).wr W4), (Fc.ext E3).other W4 (Or.inr (slot_ne (Or.inl (hw _ (List.mem_of_getElem? (i := 23) rfl))) (Or.inl (hw _ (List.mem_of_getElem? (i := 16) rfl))) (by decide) (t := .long) (t' := (.array .byte)) (by decide) (by decide))), b3, g_b3, sz_b3, Fw4, own_B_other (own_B_new A3) W4 (Nat.ne_of_gt (Nat.lt_of_lt_of_le E_a1.lt sz_b3))⟩
theorem d4_0 : decode prog_14_method_6_code 0 = .ok (.aload_n 0, 1) := by decide +kernel
theorem d4_1 : decode prog_14_method_6_code 1 = .ok (.getfield 15, 3) := by decide +kernel
theorem d4_4 : decode prog_14_method_6_code 4 = .ok (.ldc2_w 25, 3) := by decide +kernel
theorem d4_7 : decode prog_14_method_6_code 7 = .ok (.ladd, 1) := by decide +kernel
theorem d4_8 : decode prog_14_method_6_code 8 = .ok (.iconst 3, 1) := by decide +kernel
theorem d4_9 : decode prog_14_method_6_code 9 = .ok (.lushr, 1) := by decide +kernel
theorem d4_10 : decode prog_14_method_6_code 10 = .ok (.l2i, 1) := by decide +kernel
theorem d4_11 : decode prog_14_method_6_code 11 = .ok (.ireturn, 1) := by decide +kernel
theorem pn_4 : plainName "com/example/beaconry/beaconry/archive/Bits$Writer" = true := by first | (simp [plainName, overriddenIn]; done) | decide +kernel
theorem ef_4 (m : MethodId) (x0 : Addr) : entryFrame m #[(.ref x0)] 1 = mkF m 0 #[.val (.ref x0)] [] := by first | (simp [entryFrame, mkF, argsToLocals, Value.category]; done) | rfl
def Q4 (Z : State) (a1 : Addr) (c1 : Int64) (h0 : Heap) (n0 : Nat) (v : Option Value) (h : Heap) (L : List Loc) : Prop := v = some (.int (own_sz c1)) ∧ Fr n0 L ∧ h = h0
set_option maxRecDepth 65536 in
set_option maxHeartbeats 40000000 in
theorem rm4 (l : Launch) (Z : State) (a0 : Array Value) (hw : ∀ d ∈ tables_1, d.before a0 Z = true) (ws : List Jvm.Cond) (a1 : Addr) (c1 : Int64) (h0 : Heap) (n0 : Nat) (Z0 : n0 ≤ h0.size) (Fc : Fld Z h0 a1 "com/example/beaconry/beaconry/archive/Bits$Writer" "count" "J" (.long c1)) :
    MetFree l (⟨"com/example/beaconry/beaconry/archive/Bits$Writer", "size", "()I"⟩ : MethodName) (head1 (Jvm.Cond.code (⟨"com/example/beaconry/beaconry/archive/Bits$Writer", "size", "()I"⟩ : MethodName) prog_14_method_6_code 1 (some .int) :: ws) ({ frames := 0, cells := 0, slots := 0, locals := 0 } : Room)) (fun a U => a = #[(.ref a1)] ∧ Z.Warmed39 U.vm ∧ U.heap = h0) (fun _ _ _ _ _ => True) (fun _ U o U' => ∃ v L, o = .returned v ∧ Q4 Z a1 c1 h0 n0 v U'.heap L ∧ FrameEnd U o U' L (({ frames := 0, cells := 0, slots := 0, locals := 0 } : Room)).cells (({ frames := 0, cells := 0, slots := 0, locals := 0 } : Room)).slots) := by
  refine MetFree.of_bodySF (plainFor_of_name pn_4) hisR ?_
  intro p e s m args below meth c s₁ Bd hml0 hP hK
  obtain ⟨rfl, hZ, hh⟩ := hP
  have hx := Bd.exec
  have hby := Bd.bytes
  have hml : c.maxLocals = 1 := hml0
  have hown : s.vm.findClass "com/example/beaconry/beaconry/archive/Bits$Writer" = some m.cls := findClass_of_methodNamed Bd.named
  have hnm := (name_of_methodNamed Bd.named Bd.method).1
  have X0 : Stand p l e ({ frames := 0, cells := 0, slots := 0, locals := 0 } : Room) s m #[(.ref a1)] below meth c s₁ [] 0 0 := Stand.of_body Bd
  have e0 : s₁.heap = h0 := by rw [← hh, Bd.state]; rfl
  have N0 := Fr.nil n0
  have pre0 : ∀ t, Steps p.tables e below (s₁.setTop (mkF m 0 #[.val (.ref a1)] [])) t → Steps p.tables e below (s₁.setTop (entryFrame m #[(.ref a1)] 1)) t := fun t k => castTop (ef_4 m a1) k
  obtain ⟨T2, X2, e2, st2⟩ := getF X0 hx hZ hown (host := "") (Or.inl (hw _ (List.mem_of_getElem? (i := 22) rfl))) Via.refl e0 Fc (g := (mkF m 1 #[.val (.ref a1)] [(.ref a1)])) rfl rfl (hb hby d4_1)
  obtain ⟨fs, hr, hrun, hended, hW, hsame⟩ := X2.leave (v := some (.int (own_sz c1))) (fun h => by rw [Bd.returns] at h; cases h)
  refine ⟨_, _, pre0 _ ?_, hrun, hended, _, _, rfl, ?_, ⟨_, rfl⟩, hW, hsame.mono (by decide) (by decide)⟩
  · show Steps p.tables e below (s₁.setTop (mkF m 0 #[.val (.ref a1)] [])) _
    refine XS.aloadN X0.here hx rfl (hb hby d4_0) rfl rfl ?_
    show Steps p.tables e below (s₁.setTop (mkF m 1 #[.val (.ref a1)] [(.ref a1)])) _
    refine st2 _ ?_
    show Steps p.tables e below (T2.setTop (mkF m 4 #[.val (.ref a1)] [(.long c1)])) _
    refine X2.ldc2J hx hown (mvT hZ (hw _ (List.mem_of_getElem? (i := 24) rfl))) rfl (hb hby d4_4) ?_
    show Steps p.tables e below (T2.setTop (mkF m 7 #[.val (.ref a1)] [(.long (7 : Int64)), (.long c1)])) _
    refine XS.ladd X2.here hx rfl (hb hby d4_7) rfl ?_
    show Steps p.tables e below (T2.setTop (mkF m 8 #[.val (.ref a1)] [(.long (c1 + (7 : Int64)))])) _
    refine XS.iconst X2.here hx rfl (hb hby d4_8) ?_
    show Steps p.tables e below (T2.setTop (mkF m 9 #[.val (.ref a1)] [(.int (3 : Int32)), (.long (c1 + (7 : Int64)))])) _
    refine XS.lushr X2.here hx rfl (hb hby d4_9) rfl ?_
    show Steps p.tables e below (T2.setTop (mkF m 10 #[.val (.ref a1)] [(.long (own_ushrL (c1 + (7 : Int64)) (3 : Int32)))])) _
    refine XS.l2i X2.here hx rfl (hb hby d4_10) rfl ?_
    show Steps p.tables e below (T2.setTop (mkF m 11 #[.val (.ref a1)] [(.int (own_sz c1))])) _
    exact retI X2 hx Bd.returns (hb hby d4_11) hr
  · show Q4 Z a1 c1 h0 n0 _ T2.heap _
    rw [e2]
    exact ⟨rfl, N0, rfl⟩
theorem d5_0 : decode prog_14_method_2_code 0 = .ok (.iload_n 3, 1) := by decide +kernel
theorem d5_1 : decode prog_14_method_2_code 1 = .ok (.istore 4, 2) := by decide +kernel
theorem d5_3 : decode prog_14_method_2_code 3 = .ok (.iload 4, 2) := by decide +kernel
theorem d5_5 : decode prog_14_method_2_code 5 = .ok (.ifCond .le 122, 3) := by decide +kernel
theorem d5_8 : decode prog_14_method_2_code 8 = .ok (.aload_n 0, 1) := by decide +kernel
theorem d5_9 : decode prog_14_method_2_code 9 = .ok (.getfield 15, 3) := by decide +kernel
theorem d5_12 : decode prog_14_method_2_code 12 = .ok (.iconst 3, 1) := by decide +kernel
theorem d5_13 : decode prog_14_method_2_code 13 = .ok (.lushr, 1) := by decide +kernel
theorem d5_14 : decode prog_14_method_2_code 14 = .ok (.l2i, 1) := by decide +kernel
theorem d5_15 : decode prog_14_method_2_code 15 = .ok (.istore 5, 2) := by decide +kernel
theorem d5_17 : decode prog_14_method_2_code 17 = .ok (.iload 5, 2) := by decide +kernel
theorem d5_19 : decode prog_14_method_2_code 19 = .ok (.aload_n 0, 1) := by decide +kernel
theorem d5_20 : decode prog_14_method_2_code 20 = .ok (.getfield 9, 3) := by decide +kernel
theorem d5_23 : decode prog_14_method_2_code 23 = .ok (.arraylength, 1) := by decide +kernel
theorem d5_24 : decode prog_14_method_2_code 24 = .ok (.if_icmp .ne 21, 3) := by decide +kernel
theorem d5_27 : decode prog_14_method_2_code 27 = .ok (.aload_n 0, 1) := by decide +kernel
theorem d5_28 : decode prog_14_method_2_code 28 = .ok (.aload_n 0, 1) := by decide +kernel
theorem d5_29 : decode prog_14_method_2_code 29 = .ok (.getfield 9, 3) := by decide +kernel
theorem d5_32 : decode prog_14_method_2_code 32 = .ok (.aload_n 0, 1) := by decide +kernel
theorem d5_33 : decode prog_14_method_2_code 33 = .ok (.getfield 9, 3) := by decide +kernel
theorem d5_36 : decode prog_14_method_2_code 36 = .ok (.arraylength, 1) := by decide +kernel
theorem d5_37 : decode prog_14_method_2_code 37 = .ok (.iconst 2, 1) := by decide +kernel
theorem d5_38 : decode prog_14_method_2_code 38 = .ok (.imul, 1) := by decide +kernel
theorem d5_39 : decode prog_14_method_2_code 39 = .ok (.invokestatic 19, 3) := by decide +kernel
theorem d5_42 : decode prog_14_method_2_code 42 = .ok (.putfield 9, 3) := by decide +kernel
theorem d5_45 : decode prog_14_method_2_code 45 = .ok (.bipush 8, 2) := by decide +kernel
theorem d5_47 : decode prog_14_method_2_code 47 = .ok (.aload_n 0, 1) := by decide +kernel
theorem d5_48 : decode prog_14_method_2_code 48 = .ok (.getfield 15, 3) := by decide +kernel
theorem d5_51 : decode prog_14_method_2_code 51 = .ok (.ldc2_w 25, 3) := by decide +kernel
theorem d5_54 : decode prog_14_method_2_code 54 = .ok (.land, 1) := by decide +kernel
theorem d5_55 : decode prog_14_method_2_code 55 = .ok (.l2i, 1) := by decide +kernel
theorem d5_56 : decode prog_14_method_2_code 56 = .ok (.isub, 1) := by decide +kernel
theorem d5_57 : decode prog_14_method_2_code 57 = .ok (.istore 6, 2) := by decide +kernel
theorem d5_59 : decode prog_14_method_2_code 59 = .ok (.iload 6, 2) := by decide +kernel
theorem d5_61 : decode prog_14_method_2_code 61 = .ok (.iload 4, 2) := by decide +kernel
theorem d5_63 : decode prog_14_method_2_code 63 = .ok (.invokestatic 27, 3) := by decide +kernel
theorem d5_66 : decode prog_14_method_2_code 66 = .ok (.istore 7, 2) := by decide +kernel
theorem d5_68 : decode prog_14_method_2_code 68 = .ok (.lload_n 1, 1) := by decide +kernel
theorem d5_69 : decode prog_14_method_2_code 69 = .ok (.iload 4, 2) := by decide +kernel
theorem d5_71 : decode prog_14_method_2_code 71 = .ok (.iload 7, 2) := by decide +kernel
theorem d5_73 : decode prog_14_method_2_code 73 = .ok (.isub, 1) := by decide +kernel
theorem d5_74 : decode prog_14_method_2_code 74 = .ok (.lushr, 1) := by decide +kernel
theorem d5_75 : decode prog_14_method_2_code 75 = .ok (.l2i, 1) := by decide +kernel
theorem d5_76 : decode prog_14_method_2_code 76 = .ok (.iconst 1, 1) := by decide +kernel
theorem d5_77 : decode prog_14_method_2_code 77 = .ok (.iload 7, 2) := by decide +kernel
theorem d5_79 : decode prog_14_method_2_code 79 = .ok (.ishl, 1) := by decide +kernel
theorem d5_80 : decode prog_14_method_2_code 80 = .ok (.iconst 1, 1) := by decide +kernel
theorem d5_81 : decode prog_14_method_2_code 81 = .ok (.isub, 1) := by decide +kernel
theorem d5_82 : decode prog_14_method_2_code 82 = .ok (.iand, 1) := by decide +kernel
theorem d5_83 : decode prog_14_method_2_code 83 = .ok (.istore 8, 2) := by decide +kernel
theorem d5_85 : decode prog_14_method_2_code 85 = .ok (.aload_n 0, 1) := by decide +kernel
theorem d5_86 : decode prog_14_method_2_code 86 = .ok (.getfield 9, 3) := by decide +kernel
theorem d5_89 : decode prog_14_method_2_code 89 = .ok (.iload 5, 2) := by decide +kernel
theorem d5_91 : decode prog_14_method_2_code 91 = .ok (.dup2, 1) := by decide +kernel
theorem d5_92 : decode prog_14_method_2_code 92 = .ok (.baload, 1) := by decide +kernel
theorem d5_93 : decode prog_14_method_2_code 93 = .ok (.iload 8, 2) := by decide +kernel
theorem d5_95 : decode prog_14_method_2_code 95 = .ok (.iload 6, 2) := by decide +kernel
theorem d5_97 : decode prog_14_method_2_code 97 = .ok (.iload 7, 2) := by decide +kernel
theorem d5_99 : decode prog_14_method_2_code 99 = .ok (.isub, 1) := by decide +kernel
theorem d5_100 : decode prog_14_method_2_code 100 = .ok (.ishl, 1) := by decide +kernel
theorem d5_101 : decode prog_14_method_2_code 101 = .ok (.i2b, 1) := by decide +kernel
theorem d5_102 : decode prog_14_method_2_code 102 = .ok (.ior, 1) := by decide +kernel
theorem d5_103 : decode prog_14_method_2_code 103 = .ok (.i2b, 1) := by decide +kernel
theorem d5_104 : decode prog_14_method_2_code 104 = .ok (.bastore, 1) := by decide +kernel
theorem d5_105 : decode prog_14_method_2_code 105 = .ok (.aload_n 0, 1) := by decide +kernel
theorem d5_106 : decode prog_14_method_2_code 106 = .ok (.dup, 1) := by decide +kernel
theorem d5_107 : decode prog_14_method_2_code 107 = .ok (.getfield 15, 3) := by decide +kernel
theorem d5_110 : decode prog_14_method_2_code 110 = .ok (.iload 7, 2) := by decide +kernel
theorem d5_112 : decode prog_14_method_2_code 112 = .ok (.i2l, 1) := by decide +kernel
theorem d5_113 : decode prog_14_method_2_code 113 = .ok (.ladd, 1) := by decide +kernel
theorem d5_114 : decode prog_14_method_2_code 114 = .ok (.putfield 15, 3) := by decide +kernel
theorem d5_117 : decode prog_14_method_2_code 117 = .ok (.iload 4, 2) := by decide +kernel
theorem d5_119 : decode prog_14_method_2_code 119 = .ok (.iload 7, 2) := by decide +kernel
theorem d5_121 : decode prog_14_method_2_code 121 = .ok (.isub, 1) := by decide +kernel
theorem d5_122 : decode prog_14_method_2_code 122 = .ok (.istore 4, 2) := by decide +kernel
theorem d5_124 : decode prog_14_method_2_code 124 = .ok (.goto (-121), 3) := by decide +kernel
theorem d5_127 : decode prog_14_method_2_code 127 = .ok (.return_, 1) := by decide +kernel
theorem pn_5 : plainName "com/example/beaconry/beaconry/archive/Bits$Writer" = true := by first | (simp [plainName, overriddenIn]; done) | decide +kernel
theorem ef_5 (m : MethodId) (x0 : Addr) (x1 : Int64) (x2 : Int32) : entryFrame m #[(.ref x0), (.long x1), (.int x2)] 9 = mkF m 0 #[.val (.ref x0), .val (.long x1), .second, .val (.int x2), .unset, .unset, .unset, .unset, .unset] [] := by first | (simp [entryFrame, mkF, argsToLocals, Value.category]; done) | rfl
theorem pd_mm : parseMethodDescriptor "(II)I" = some ⟨[.int, .int], some .int⟩ := by decide +kernel
theorem os5_15 {z0 z1 z4 : Value} {s3 s5 s6 s7 s8 : Slot} {v : Int32} (h : One s5) : storeLocals #[.val z0, .val z1, .second, s3, .val z4, s5, s6, s7, s8] 5 (.int v) = some #[.val z0, .val z1, .second, s3, .val z4, .val (.int v), s6, s7, s8] := by
  rcases h with rfl | ⟨w, rfl, hw⟩
  · rfl
  · cases w <;> first | rfl | (simp [Value.category] at hw)
theorem os5_57 {z0 z1 z4 z5 : Value} {s3 s6 s7 s8 : Slot} {v : Int32} (h : One s6) : storeLocals #[.val z0, .val z1, .second, s3, .val z4, .val z5, s6, s7, s8] 6 (.int v) = some #[.val z0, .val z1, .second, s3, .val z4, .val z5, .val (.int v), s7, s8] := by
  rcases h with rfl | ⟨w, rfl, hw⟩
  · rfl
  · cases w <;> first | rfl | (simp [Value.category] at hw)
theorem os5_66 {z0 z1 z4 z5 z6 : Value} {s3 s7 s8 : Slot} {v : Int32} (h : One s7) : storeLocals #[.val z0, .val z1, .second, s3, .val z4, .val z5, .val z6, s7, s8] 7 (.int v) = some #[.val z0, .val z1, .second, s3, .val z4, .val z5, .val z6, .val (.int v), s8] := by
  rcases h with rfl | ⟨w, rfl, hw⟩
  · rfl
  · cases w <;> first | rfl | (simp [Value.category] at hw)
theorem os5_83 {z0 z1 z4 z5 z6 z7 : Value} {s3 s8 : Slot} {v : Int32} (h : One s8) : storeLocals #[.val z0, .val z1, .second, s3, .val z4, .val z5, .val z6, .val z7, s8] 8 (.int v) = some #[.val z0, .val z1, .second, s3, .val z4, .val z5, .val z6, .val z7, .val (.int v)] := by
  rcases h with rfl | ⟨w, rfl, hw⟩
  · rfl
  · cases w <;> first | rfl | (simp [Value.category] at hw)
set_option maxRecDepth 65536 in
set_option maxHeartbeats 40000000 in
theorem loop5 {p : Program} {l : Launch} {e : Env} {s : State} {m : MethodId} {args : Array Value} {below : List Frame} {meth : Method} {c : Code} {Z : State} {a0 : Array Value} (a1 bb : Addr) (j1 : Int64) (s3 : Slot) (n0 : Nat) (ga : n0 ≤ a1) (gb : n0 ≤ bb) (hab : a1 ≠ bb)
    (hx : p.tables.exec = Jvm.exec) (hZ : Z.Warmed39 s.vm) (hw : ∀ d ∈ tables_1, d.before a0 Z = true) (hby : c.code = prog_14_method_2_code) (hml : c.maxLocals = 9) (hown : s.vm.findClass "com/example/beaconry/beaconry/archive/Bits$Writer" = some m.cls) :
    ∀ (rn cn : Nat) (T0 : State) (h0 : Heap) (locs : List Loc) (s5 s6 s7 s8 : Slot), rn ≤ 64 → cn + rn ≤ 192 → Stand p l e ({ frames := 1, cells := 0, slots := 0, locals := 16 } : Room) s m args below meth c T0 locs 0 0 → T0.heap = h0 → Fr n0 locs → n0 ≤ h0.size → Exa Z h0 a1 "com/example/beaconry/beaconry/archive/Bits$Writer" → Fld Z h0 a1 "com/example/beaconry/beaconry/archive/Bits$Writer" "count" "J" (.long (Int64.ofNat cn)) → Fld Z h0 a1 "com/example/beaconry/beaconry/archive/Bits$Writer" "bytes" "[B" (.ref bb) → own_B Z h0 bb → One s5 → One s6 → One s7 → One s8 →
      ∃ (T' : State) (h' : Heap) (locs' : List Loc) (r' s5' s6' s7' s8' : Slot), Stand p l e ({ frames := 1, cells := 0, slots := 0, locals := 16 } : Room) s m args below meth c T' locs' 0 0 ∧ T'.heap = h' ∧ Fr n0 locs' ∧ Keep h0 h' [a1, bb] ∧ Exa Z h' a1 "com/example/beaconry/beaconry/archive/Bits$Writer" ∧ Fld Z h' a1 "com/example/beaconry/beaconry/archive/Bits$Writer" "count" "J" (.long (Int64.ofNat (cn + rn))) ∧ Fld Z h' a1 "com/example/beaconry/beaconry/archive/Bits$Writer" "bytes" "[B" (.ref bb) ∧ own_B Z h' bb ∧
        ∀ target, Steps p.tables e below (T'.setTop (mkF m 127 #[.val (.ref a1), .val (.long j1), .second, s3, r', s5', s6', s7', s8'] [])) target → Steps p.tables e below (T0.setTop (mkF m 3 #[.val (.ref a1), .val (.long j1), .second, s3, .val (.int (Int32.ofNat rn)), s5, s6, s7, s8] [])) target := by
  intro rn
  induction rn using Nat.strongRecOn with
  | ind rn ih =>
    intro cn T0 h0 locs s5 s6 s7 s8 hrn hcn X0 e0 N0 Z0 Ea Fc Fb Bb hs5 hs6 hs7 hs8
    have hpos := (own_f2 ⟨0, by omega⟩ ⟨rn, by omega⟩).2
    simp only [] at hpos
    by_cases hr0 : rn = 0
    · subst hr0
      refine ⟨T0, h0, locs, .val (.int (Int32.ofNat 0)), s5, s6, s7, s8, X0, e0, N0, Keep.refl _ _, Ea, Fc, Fb, Bb, fun target kt => ?_⟩
      show Steps p.tables e below (T0.setTop (mkF m 3 #[.val (.ref a1), .val (.long j1), .second, s3, .val (.int (Int32.ofNat 0)), s5, s6, s7, s8] [])) _
      refine XS.iload X0.here hx rfl (hb hby d5_3) rfl ?_
      show Steps p.tables e below (T0.setTop (mkF m 5 #[.val (.ref a1), .val (.long j1), .second, s3, .val (.int (Int32.ofNat 0)), s5, s6, s7, s8] [(.int (Int32.ofNat 0))])) _
      refine XS.ifYes X0.here hx rfl (pc0 := 5) (pc' := 127) rfl (hb hby d5_5) rfl ((if0 _ _).trans (flt (fun q => by have := hpos.mp q; omega)).2.2.2) (by decide) (by decide) ?_
      show Steps p.tables e below (T0.setTop (mkF m 127 #[.val (.ref a1), .val (.long j1), .second, s3, .val (.int (Int32.ofNat 0)), s5, s6, s7, s8] [])) _
      exact kt
    · have hgt : (0 : Int32) < Int32.ofNat rn := hpos.mpr (by omega)
      obtain ⟨f1, f2, -, -⟩ := own_f1 ⟨cn, by omega⟩
      simp only [] at f1 f2
      obtain ⟨nn, hnn⟩ : ∃ nn, nn = min (8 - cn % 8) rn := ⟨_, rfl⟩
      have f3 := (own_f2 ⟨8 - cn % 8, by omega⟩ ⟨rn, by omega⟩).1
      simp only [] at f3
      rw [← hnn] at f3
      have f4 := own_f3 ⟨rn, by omega⟩ ⟨nn, by omega⟩ (by show nn ≤ rn; omega)
      simp only [] at f4
      have f5 := own_f4 ⟨nn, by omega⟩
      simp only [] at f5
      obtain ⟨k1, k2, k3⟩ := own_f5 ⟨cn / 8, by omega⟩
      simp only [] at k1 k2 k3
      obtain ⟨cl, Ar, S, Hc⟩ := id Bb
      obtain ⟨w12, hat⟩ := Hc (cn / 8) (by omega)
      have hin : ¬ (Int32.ofNat (cn / 8) < 0 ∨ cl.slots.size ≤ (Int32.ofNat (cn / 8)).toNatClampNeg) := by
        rw [k2, S]; exact fun q => q.elim k1 (fun q => by omega)
      have hat' : cl.slots[(Int32.ofNat (cn / 8)).toNatClampNeg]? = some (.int w12) := by rw [k2]; exact hat
      obtain ⟨T5, X5, e5, st5⟩ := getF X0 hx hZ hown (host := "") (Or.inl (hw _ (List.mem_of_getElem? (i := 22) rfl))) Via.refl e0 Fc (g := (mkF m 9 #[.val (.ref a1), .val (.long j1), .second, s3, .val (.int (Int32.ofNat rn)), s5, s6, s7, s8] [(.ref a1)])) rfl rfl (hb hby d5_9)
      obtain ⟨T7, X7, e7, st7⟩ := getF X5 hx hZ hown (host := "") (Or.inl (hw _ (List.mem_of_getElem? (i := 15) rfl))) Via.refl e5 Fb (g := (mkF m 20 #[.val (.ref a1), .val (.long j1), .second, s3, .val (.int (Int32.ofNat rn)), .val (.int (Int32.ofNat (cn / 8))), s6, s7, s8] [(.ref a1), (.int (Int32.ofNat (cn / 8)))])) rfl rfl (hb hby d5_20)
      obtain ⟨T8, X8, e8, st8⟩ := getF X7 hx hZ hown (host := "") (Or.inl (hw _ (List.mem_of_getElem? (i := 22) rfl))) Via.refl e7 Fc (g := (mkF m 48 #[.val (.ref a1), .val (.long j1), .second, s3, .val (.int (Int32.ofNat rn)), .val (.int (Int32.ofNat (cn / 8))), s6, s7, s8] [(.ref a1), (.int (8 : Int32))])) rfl rfl (hb hby d5_48)
      obtain ⟨_, _, ⟨T9, L9, k9, n9⟩, -, X9, ⟨Lc9, hQ9, l9, y9, z9⟩, st9⟩ := Jvm.LawKit.callS X8 hx (y := (⟨"java/lang/Math", "min", "(II)I"⟩ : MethodName)) hown (mvT hZ (hw _ (List.mem_of_getElem? (i := 30) rfl))) (mvT hZ (hw _ (List.mem_of_getElem? (i := 31) rfl))) (mvT hZ (hw _ (List.mem_of_getElem? (i := 32) rfl))) (mvT hZ (hw _ (List.mem_of_getElem? (i := 33) rfl))) (by decide) (backOf (W := 0) (rm6 l Z a0 hw [] (Int32.ofNat (8 - cn % 8)) (Int32.ofNat rn) h0 n0 Z0) hZ (hw _ (List.mem_of_getElem? (i := 33) rfl)) (hw _ (List.mem_of_getElem? (i := 32) rfl)) (by decide) (by decide)) (g := (mkF m 63 #[.val (.ref a1), .val (.long j1), .second, s3, .val (.int (Int32.ofNat rn)), .val (.int (Int32.ofNat (cn / 8))), .val (.int (Int32.ofNat (8 - cn % 8))), s7, s8] [(.int (Int32.ofNat rn)), (.int (Int32.ofNat (8 - cn % 8)))])) rfl (by rw [hml]; rfl) (argsL := [(.int (Int32.ofNat (8 - cn % 8))), (.int (Int32.ofNat rn))]) (rest := []) (lenOf pd_mm rfl) rfl (by show 2 * 0 + _ ≤ _; exact Nat.le_of_eq rfl) (hb hby d5_63) (fun _ _ => ⟨rfl, e8, (by decide : 0 + 0 ≤ _), (by decide : 0 + 0 ≤ _)⟩)
      dsimp only [Pt.U, Pt.locs, Pt.cells, Pt.slots] at X9 l9 y9 z9 st9 hQ9
      subst l9 y9 z9
      obtain ⟨rfl, N9q, e9⟩ := hQ9
      have N9 := Fr.app N0 N9q
      obtain ⟨T10, X10, e10, st10⟩ := getF X9 hx hZ hown (host := "") (Or.inl (hw _ (List.mem_of_getElem? (i := 15) rfl))) Via.refl e9 Fb (g := (mkF m 86 #[.val (.ref a1), .val (.long j1), .second, s3, .val (.int (Int32.ofNat rn)), .val (.int (Int32.ofNat (cn / 8))), .val (.int (Int32.ofNat (8 - cn % 8))), .val (.int (Int32.ofNat nn)), .val (.int (own_mv j1 (Int32.ofNat rn) (Int32.ofNat nn)))] [(.ref a1)])) rfl rfl (hb hby d5_86)
      obtain ⟨T13, h13, X13, e13, W13, st13⟩ := stB X10 hx hZ e10 Ar (j := (Int32.ofNat (cn / 8))) hin (g := (mkF m 104 #[.val (.ref a1), .val (.long j1), .second, s3, .val (.int (Int32.ofNat rn)), .val (.int (Int32.ofNat (cn / 8))), .val (.int (Int32.ofNat (8 - cn % 8))), .val (.int (Int32.ofNat nn)), .val (.int (own_mv j1 (Int32.ofNat rn) (Int32.ofNat nn)))] [(.int (own_bv w12 (own_mv j1 (Int32.ofNat rn) (Int32.ofNat nn)) (Int32.ofNat (8 - cn % 8)) (Int32.ofNat nn))), (.int (Int32.ofNat (cn / 8))), (.ref bb)])) rfl rfl (hb hby d5_104)
      have N13 := Fr.snoc X13 N9 gb
      have Fc13 := Fc.other W13 (Or.inl hab)
      have Fb13 := Fb.other W13 (Or.inl hab)
      have Ea13 := Ea.wr W13
      have Bb13 := own_B_same Ar S Hc W13
      have K13 : Keep h0 h13 [a1, bb] := (Keep.refl _ _).wr W13 (Or.inl (List.mem_of_getElem? (i := 1) rfl))
      obtain ⟨T15, X15, e15, st15⟩ := getF X13 hx hZ hown (host := "") (Or.inl (hw _ (List.mem_of_getElem? (i := 22) rfl))) Via.refl e13 Fc13 (g := (mkF m 107 #[.val (.ref a1), .val (.long j1), .second, s3, .val (.int (Int32.ofNat rn)), .val (.int (Int32.ofNat (cn / 8))), .val (.int (Int32.ofNat (8 - cn % 8))), .val (.int (Int32.ofNat nn)), .val (.int (own_mv j1 (Int32.ofNat rn) (Int32.ofNat nn)))] [(.ref a1), (.ref a1)])) rfl rfl (hb hby d5_107)
      obtain ⟨T16, h16, X16, e16, W16, st16⟩ := putF X15 hx hZ hown (host := "") (Or.inl (hw _ (List.mem_of_getElem? (i := 22) rfl))) Via.refl e15 Fc13 Ea13 (Or.inl (hw _ (List.mem_of_getElem? (i := 23) rfl))) (hw _ (List.mem_of_getElem? (i := 6) rfl)) (ty := .long) (by decide) rfl rfl (g := (mkF m 114 #[.val (.ref a1), .val (.long j1), .second, s3, .val (.int (Int32.ofNat rn)), .val (.int (Int32.ofNat (cn / 8))), .val (.int (Int32.ofNat (8 - cn % 8))), .val (.int (Int32.ofNat nn)), .val (.int (own_mv j1 (Int32.ofNat rn) (Int32.ofNat nn)))] [(.long (Int64.ofNat (cn + nn))), (.ref a1)])) rfl rfl (hb hby d5_114)
      have N16 := Fr.snoc X16 N13 ga
      have Fc16 := Fc13.same W16
      have Fb16 := Fb13.other W16 (Or.inr (slot_ne (Or.inl (hw _ (List.mem_of_getElem? (i := 16) rfl))) (Or.inl (hw _ (List.mem_of_getElem? (i := 23) rfl))) (by decide) (t := (.array .byte)) (t' := .long) (by decide) (by decide)))
      have Ea16 := Ea13.wr W16
      have Bb16 := own_B_other Bb13 W16 (Ne.symm hab)
      have K16 : Keep h0 h16 [a1, bb] := K13.wr W16 (Or.inl (List.mem_of_getElem? (i := 0) rfl))
      obtain ⟨T', h', locs', r', s5', s6', s7', s8', X', e', N', K', E', Fc', Fb', B', st'⟩ := ih (rn - nn) (by omega) (cn + nn) T16 h16 _ (.val (.int (Int32.ofNat (cn / 8)))) (.val (.int (Int32.ofNat (8 - cn % 8)))) (.val (.int (Int32.ofNat nn))) (.val (.int (own_mv j1 (Int32.ofNat rn) (Int32.ofNat nn)))) (by omega) (by omega) X16 e16 N16 (Nat.le_trans Z0 K16.1) Ea16 Fc16 Fb16 Bb16 (One.val rfl) (One.val rfl) (One.val rfl) (One.val rfl)
      rw [show cn + nn + (rn - nn) = cn + rn by omega] at Fc'
      refine ⟨T', h', locs', r', s5', s6', s7', s8', X', e', N', K16.trans K' (fun x hx' => Or.inl hx'), E', Fc', Fb', B', fun target kt => ?_⟩
      show Steps p.tables e below (T0.setTop (mkF m 3 #[.val (.ref a1), .val (.long j1), .second, s3, .val (.int (Int32.ofNat rn)), s5, s6, s7, s8] [])) _
      refine XS.iload X0.here hx rfl (hb hby d5_3) rfl ?_
      show Steps p.tables e below (T0.setTop (mkF m 5 #[.val (.ref a1), .val (.long j1), .second, s3, .val (.int (Int32.ofNat rn)), s5, s6, s7, s8] [(.int (Int32.ofNat rn))])) _
      refine XS.ifNo X0.here hx rfl (hb hby d5_5) rfl ((if0 _ _).trans (tlt hgt).2.2.2) ?_
      show Steps p.tables e below (T0.setTop (mkF m 8 #[.val (.ref a1), .val (.long j1), .second, s3, .val (.int (Int32.ofNat rn)), s5, s6, s7, s8] [])) _
      refine XS.aloadN X0.here hx rfl (hb hby d5_8) rfl rfl ?_
      show Steps p.tables e below (T0.setTop (mkF m 9 #[.val (.ref a1), .val (.long j1), .second, s3, .val (.int (Int32.ofNat rn)), s5, s6, s7, s8] [(.ref a1)])) _
      refine st5 _ ?_
      show Steps p.tables e below (T5.setTop (mkF m 12 #[.val (.ref a1), .val (.long j1), .second, s3, .val (.int (Int32.ofNat rn)), s5, s6, s7, s8] [(.long (Int64.ofNat cn))])) _
      refine XS.iconst X5.here hx rfl (hb hby d5_12) ?_
      show Steps p.tables e below (T5.setTop (mkF m 13 #[.val (.ref a1), .val (.long j1), .second, s3, .val (.int (Int32.ofNat rn)), s5, s6, s7, s8] [(.int (3 : Int32)), (.long (Int64.ofNat cn))])) _
      refine XS.lushr X5.here hx rfl (hb hby d5_13) rfl ?_
      show Steps p.tables e below (T5.setTop (mkF m 14 #[.val (.ref a1), .val (.long j1), .second, s3, .val (.int (Int32.ofNat rn)), s5, s6, s7, s8] [(.long (own_ushrL (Int64.ofNat cn) (3 : Int32)))])) _
      refine XS.l2i X5.here hx rfl (hb hby d5_14) rfl ?_
      show Steps p.tables e below (T5.setTop (mkF m 15 #[.val (.ref a1), .val (.long j1), .second, s3, .val (.int (Int32.ofNat rn)), s5, s6, s7, s8] [(.int (own_k5 (Int64.ofNat cn)))])) _
      rw [f1]
      show Steps p.tables e below (T5.setTop (mkF m 15 #[.val (.ref a1), .val (.long j1), .second, s3, .val (.int (Int32.ofNat rn)), s5, s6, s7, s8] [(.int (Int32.ofNat (cn / 8)))])) _
      refine XS.istore X5.here hx rfl (hb hby d5_15) rfl (l' := #[.val (.ref a1), .val (.long j1), .second, s3, .val (.int (Int32.ofNat rn)), .val (.int (Int32.ofNat (cn / 8))), s6, s7, s8]) (os5_15 hs5) ?_
      show Steps p.tables e below (T5.setTop (mkF m 17 #[.val (.ref a1), .val (.long j1), .second, s3, .val (.int (Int32.ofNat rn)), .val (.int (Int32.ofNat (cn / 8))), s6, s7, s8] [])) _
      refine XS.iload X5.here hx rfl (hb hby d5_17) rfl ?_
      show Steps p.tables e below (T5.setTop (mkF m 19 #[.val (.ref a1), .val (.long j1), .second, s3, .val (.int (Int32.ofNat rn)), .val (.int (Int32.ofNat (cn / 8))), s6, s7, s8] [(.int (Int32.ofNat (cn / 8)))])) _
      refine XS.aloadN X5.here hx rfl (hb hby d5_19) rfl rfl ?_
      show Steps p.tables e below (T5.setTop (mkF m 20 #[.val (.ref a1), .val (.long j1), .second, s3, .val (.int (Int32.ofNat rn)), .val (.int (Int32.ofNat (cn / 8))), s6, s7, s8] [(.ref a1), (.int (Int32.ofNat (cn / 8)))])) _
      refine st7 _ ?_
      show Steps p.tables e below (T7.setTop (mkF m 23 #[.val (.ref a1), .val (.long j1), .second, s3, .val (.int (Int32.ofNat rn)), .val (.int (Int32.ofNat (cn / 8))), s6, s7, s8] [(.ref bb), (.int (Int32.ofNat (cn / 8)))])) _
      refine X7.arraylength hx (by rw [e7]; exact Ar.1) (State.isArrayOf_alike hZ.alike Ar.2.1) (g := (mkF m 23 #[.val (.ref a1), .val (.long j1), .second, s3, .val (.int (Int32.ofNat rn)), .val (.int (Int32.ofNat (cn / 8))), s6, s7, s8] [(.ref bb), (.int (Int32.ofNat (cn / 8)))])) rfl rfl (hb hby d5_23) _ ?_
      rw [S]
      show Steps p.tables e below (T7.setTop (mkF m 24 #[.val (.ref a1), .val (.long j1), .second, s3, .val (.int (Int32.ofNat rn)), .val (.int (Int32.ofNat (cn / 8))), s6, s7, s8] [(.int (Int32.ofNat 64)), (.int (Int32.ofNat (cn / 8)))])) _
      refine XS.icmpYes X7.here hx rfl (pc0 := 24) (pc' := 45) rfl (hb hby d5_24) rfl (feq k3).2 (by decide) (by decide) ?_
      show Steps p.tables e below (T7.setTop (mkF m 45 #[.val (.ref a1), .val (.long j1), .second, s3, .val (.int (Int32.ofNat rn)), .val (.int (Int32.ofNat (cn / 8))), s6, s7, s8] [])) _
      refine XS.bipush X7.here hx rfl (hb hby d5_45) ?_
      show Steps p.tables e below (T7.setTop (mkF m 47 #[.val (.ref a1), .val (.long j1), .second, s3, .val (.int (Int32.ofNat rn)), .val (.int (Int32.ofNat (cn / 8))), s6, s7, s8] [(.int (8 : Int32))])) _
      refine XS.aloadN X7.here hx rfl (hb hby d5_47) rfl rfl ?_
      show Steps p.tables e below (T7.setTop (mkF m 48 #[.val (.ref a1), .val (.long j1), .second, s3, .val (.int (Int32.ofNat rn)), .val (.int (Int32.ofNat (cn / 8))), s6, s7, s8] [(.ref a1), (.int (8 : Int32))])) _
      refine st8 _ ?_
      show Steps p.tables e below (T8.setTop (mkF m 51 #[.val (.ref a1), .val (.long j1), .second, s3, .val (.int (Int32.ofNat rn)), .val (.int (Int32.ofNat (cn / 8))), s6, s7, s8] [(.long (Int64.ofNat cn)), (.int (8 : Int32))])) _
      refine X8.ldc2J hx hown (mvT hZ (hw _ (List.mem_of_getElem? (i := 24) rfl))) rfl (hb hby d5_51) ?_
      show Steps p.tables e below (T8.setTop (mkF m 54 #[.val (.ref a1), .val (.long j1), .second, s3, .val (.int (Int32.ofNat rn)), .val (.int (Int32.ofNat (cn / 8))), s6, s7, s8] [(.long (7 : Int64)), (.long (Int64.ofNat cn)), (.int (8 : Int32))])) _
      refine XS.land X8.here hx rfl (hb hby d5_54) rfl ?_
      show Steps p.tables e below (T8.setTop (mkF m 55 #[.val (.ref a1), .val (.long j1), .second, s3, .val (.int (Int32.ofNat rn)), .val (.int (Int32.ofNat (cn / 8))), s6, s7, s8] [(.long ((Int64.ofNat cn) &&& (7 : Int64))), (.int (8 : Int32))])) _
      refine XS.l2i X8.here hx rfl (hb hby d5_55) rfl ?_
      show Steps p.tables e below (T8.setTop (mkF m 56 #[.val (.ref a1), .val (.long j1), .second, s3, .val (.int (Int32.ofNat rn)), .val (.int (Int32.ofNat (cn / 8))), s6, s7, s8] [(.int (((Int64.ofNat cn) &&& (7 : Int64)).toInt32)), (.int (8 : Int32))])) _
      refine XS.isub X8.here hx rfl (hb hby d5_56) rfl ?_
      show Steps p.tables e below (T8.setTop (mkF m 57 #[.val (.ref a1), .val (.long j1), .second, s3, .val (.int (Int32.ofNat rn)), .val (.int (Int32.ofNat (cn / 8))), s6, s7, s8] [(.int (own_k6 (Int64.ofNat cn)))])) _
      rw [f2]
      show Steps p.tables e below (T8.setTop (mkF m 57 #[.val (.ref a1), .val (.long j1), .second, s3, .val (.int (Int32.ofNat rn)), .val (.int (Int32.ofNat (cn / 8))), s6, s7, s8] [(.int (Int32.ofNat (8 - cn % 8)))])) _
      refine XS.istore X8.here hx rfl (hb hby d5_57) rfl (l' := #[.val (.ref a1), .val (.long j1), .second, s3, .val (.int (Int32.ofNat rn)), .val (.int (Int32.ofNat (cn / 8))), .val (.int (Int32.ofNat (8 - cn % 8))), s7, s8]) (os5_57 hs6) ?_
      show Steps p.tables e below (T8.setTop (mkF m 59 #[.val (.ref a1), .val (.long j1), .second, s3, .val (.int (Int32.ofNat rn)), .val (.int (Int32.ofNat (cn / 8))), .val (.int (Int32.ofNat (8 - cn % 8))), s7, s8] [])) _
      refine XS.iload X8.here hx rfl (hb hby d5_59) rfl ?_
      show Steps p.tables e below (T8.setTop (mkF m 61 #[.val (.ref a1), .val (.long j1), .second, s3, .val (.int (Int32.ofNat rn)), .val (.int (Int32.ofNat (cn / 8))), .val (.int (Int32.ofNat (8 - cn % 8))), s7, s8] [(.int (Int32.ofNat (8 - cn % 8)))])) _
      refine XS.iload X8.here hx rfl (hb hby d5_61) rfl ?_
      show Steps p.tables e below (T8.setTop (mkF m 63 #[.val (.ref a1), .val (.long j1), .second, s3, .val (.int (Int32.ofNat rn)), .val (.int (Int32.ofNat (cn / 8))), .val (.int (Int32.ofNat (8 - cn % 8))), s7, s8] [(.int (Int32.ofNat rn)), (.int (Int32.ofNat (8 - cn % 8)))])) _
      refine st9 _ ?_
      show Steps p.tables e below (T9.setTop (mkF m 66 #[.val (.ref a1), .val (.long j1), .second, s3, .val (.int (Int32.ofNat rn)), .val (.int (Int32.ofNat (cn / 8))), .val (.int (Int32.ofNat (8 - cn % 8))), s7, s8] [(.int (own_min (Int32.ofNat (8 - cn % 8)) (Int32.ofNat rn)))])) _
      rw [f3]
      show Steps p.tables e below (T9.setTop (mkF m 66 #[.val (.ref a1), .val (.long j1), .second, s3, .val (.int (Int32.ofNat rn)), .val (.int (Int32.ofNat (cn / 8))), .val (.int (Int32.ofNat (8 - cn % 8))), s7, s8] [(.int (Int32.ofNat nn))])) _
      refine XS.istore X9.here hx rfl (hb hby d5_66) rfl (l' := #[.val (.ref a1), .val (.long j1), .second, s3, .val (.int (Int32.ofNat rn)), .val (.int (Int32.ofNat (cn / 8))), .val (.int (Int32.ofNat (8 - cn % 8))), .val (.int (Int32.ofNat nn)), s8]) (os5_66 hs7) ?_
      show Steps p.tables e below (T9.setTop (mkF m 68 #[.val (.ref a1), .val (.long j1), .second, s3, .val (.int (Int32.ofNat rn)), .val (.int (Int32.ofNat (cn / 8))), .val (.int (Int32.ofNat (8 - cn % 8))), .val (.int (Int32.ofNat nn)), s8] [])) _
      refine XS.lloadN X9.here hx rfl (hb hby d5_68) rfl ?_
      show Steps p.tables e below (T9.setTop (mkF m 69 #[.val (.ref a1), .val (.long j1), .second, s3, .val (.int (Int32.ofNat rn)), .val (.int (Int32.ofNat (cn / 8))), .val (.int (Int32.ofNat (8 - cn % 8))), .val (.int (Int32.ofNat nn)), s8] [(.long j1)])) _
      refine XS.iload X9.here hx rfl (hb hby d5_69) rfl ?_
      show Steps p.tables e below (T9.setTop (mkF m 71 #[.val (.ref a1), .val (.long j1), .second, s3, .val (.int (Int32.ofNat rn)), .val (.int (Int32.ofNat (cn / 8))), .val (.int (Int32.ofNat (8 - cn % 8))), .val (.int (Int32.ofNat nn)), s8] [(.int (Int32.ofNat rn)), (.long j1)])) _
      refine XS.iload X9.here hx rfl (hb hby d5_71) rfl ?_
      show Steps p.tables e below (T9.setTop (mkF m 73 #[.val (.ref a1), .val (.long j1), .second, s3, .val (.int (Int32.ofNat rn)), .val (.int (Int32.ofNat (cn / 8))), .val (.int (Int32.ofNat (8 - cn % 8))), .val (.int (Int32.ofNat nn)), s8] [(.int (Int32.ofNat nn)), (.int (Int32.ofNat rn)), (.long j1)])) _
      refine XS.isub X9.here hx rfl (hb hby d5_73) rfl ?_
      show Steps p.tables e below (T9.setTop (mkF m 74 #[.val (.ref a1), .val (.long j1), .second, s3, .val (.int (Int32.ofNat rn)), .val (.int (Int32.ofNat (cn / 8))), .val (.int (Int32.ofNat (8 - cn % 8))), .val (.int (Int32.ofNat nn)), s8] [(.int ((Int32.ofNat rn) - (Int32.ofNat nn))), (.long j1)])) _
      refine XS.lushr X9.here hx rfl (hb hby d5_74) rfl ?_
      show Steps p.tables e below (T9.setTop (mkF m 75 #[.val (.ref a1), .val (.long j1), .second, s3, .val (.int (Int32.ofNat rn)), .val (.int (Int32.ofNat (cn / 8))), .val (.int (Int32.ofNat (8 - cn % 8))), .val (.int (Int32.ofNat nn)), s8] [(.long (own_ushrL j1 ((Int32.ofNat rn) - (Int32.ofNat nn))))])) _
      refine XS.l2i X9.here hx rfl (hb hby d5_75) rfl ?_
      show Steps p.tables e below (T9.setTop (mkF m 76 #[.val (.ref a1), .val (.long j1), .second, s3, .val (.int (Int32.ofNat rn)), .val (.int (Int32.ofNat (cn / 8))), .val (.int (Int32.ofNat (8 - cn % 8))), .val (.int (Int32.ofNat nn)), s8] [(.int ((own_ushrL j1 ((Int32.ofNat rn) - (Int32.ofNat nn))).toInt32))])) _
      refine XS.iconst X9.here hx rfl (hb hby d5_76) ?_
      show Steps p.tables e below (T9.setTop (mkF m 77 #[.val (.ref a1), .val (.long j1), .second, s3, .val (.int (Int32.ofNat rn)), .val (.int (Int32.ofNat (cn / 8))), .val (.int (Int32.ofNat (8 - cn % 8))), .val (.int (Int32.ofNat nn)), s8] [(.int (1 : Int32)), (.int ((own_ushrL j1 ((Int32.ofNat rn) - (Int32.ofNat nn))).toInt32))])) _
      refine XS.iload X9.here hx rfl (hb hby d5_77) rfl ?_
      show Steps p.tables e below (T9.setTop (mkF m 79 #[.val (.ref a1), .val (.long j1), .second, s3, .val (.int (Int32.ofNat rn)), .val (.int (Int32.ofNat (cn / 8))), .val (.int (Int32.ofNat (8 - cn % 8))), .val (.int (Int32.ofNat nn)), s8] [(.int (Int32.ofNat nn)), (.int (1 : Int32)), (.int ((own_ushrL j1 ((Int32.ofNat rn) - (Int32.ofNat nn))).toInt32))])) _
      refine XS.ishl X9.here hx rfl (hb hby d5_79) rfl ?_
      show Steps p.tables e below (T9.setTop (mkF m 80 #[.val (.ref a1), .val (.long j1), .second, s3, .val (.int (Int32.ofNat rn)), .val (.int (Int32.ofNat (cn / 8))), .val (.int (Int32.ofNat (8 - cn % 8))), .val (.int (Int32.ofNat nn)), s8] [(.int ((1 : Int32) <<< ((Int32.ofNat nn) &&& 31))), (.int ((own_ushrL j1 ((Int32.ofNat rn) - (Int32.ofNat nn))).toInt32))])) _
      refine XS.iconst X9.here hx rfl (hb hby d5_80) ?_
      show Steps p.tables e below (T9.setTop (mkF m 81 #[.val (.ref a1), .val (.long j1), .second, s3, .val (.int (Int32.ofNat rn)), .val (.int (Int32.ofNat (cn / 8))), .val (.int (Int32.ofNat (8 - cn % 8))), .val (.int (Int32.ofNat nn)), s8] [(.int (1 : Int32)), (.int ((1 : Int32) <<< ((Int32.ofNat nn) &&& 31))), (.int ((own_ushrL j1 ((Int32.ofNat rn) - (Int32.ofNat nn))).toInt32))])) _
      refine XS.isub X9.here hx rfl (hb hby d5_81) rfl ?_
      show Steps p.tables e below (T9.setTop (mkF m 82 #[.val (.ref a1), .val (.long j1), .second, s3, .val (.int (Int32.ofNat rn)), .val (.int (Int32.ofNat (cn / 8))), .val (.int (Int32.ofNat (8 - cn % 8))), .val (.int (Int32.ofNat nn)), s8] [(.int (((1 : Int32) <<< ((Int32.ofNat nn) &&& 31)) - (1 : Int32))), (.int ((own_ushrL j1 ((Int32.ofNat rn) - (Int32.ofNat nn))).toInt32))])) _
      refine XS.iand X9.here hx rfl (hb hby d5_82) rfl ?_
      show Steps p.tables e below (T9.setTop (mkF m 83 #[.val (.ref a1), .val (.long j1), .second, s3, .val (.int (Int32.ofNat rn)), .val (.int (Int32.ofNat (cn / 8))), .val (.int (Int32.ofNat (8 - cn % 8))), .val (.int (Int32.ofNat nn)), s8] [(.int (own_mv j1 (Int32.ofNat rn) (Int32.ofNat nn)))])) _
      refine XS.istore X9.here hx rfl (hb hby d5_83) rfl (l' := #[.val (.ref a1), .val (.long j1), .second, s3, .val (.int (Int32.ofNat rn)), .val (.int (Int32.ofNat (cn / 8))), .val (.int (Int32.ofNat (8 - cn % 8))), .val (.int (Int32.ofNat nn)), .val (.int (own_mv j1 (Int32.ofNat rn) (Int32.ofNat nn)))]) (os5_83 hs8) ?_
      show Steps p.tables e below (T9.setTop (mkF m 85 #[.val (.ref a1), .val (.long j1), .second, s3, .val (.int (Int32.ofNat rn)), .val (.int (Int32.ofNat (cn / 8))), .val (.int (Int32.ofNat (8 - cn % 8))), .val (.int (Int32.ofNat nn)), .val (.int (own_mv j1 (Int32.ofNat rn) (Int32.ofNat nn)))] [])) _
      refine XS.aloadN X9.here hx rfl (hb hby d5_85) rfl rfl ?_
      show Steps p.tables e below (T9.setTop (mkF m 86 #[.val (.ref a1), .val (.long j1), .second, s3, .val (.int (Int32.ofNat rn)), .val (.int (Int32.ofNat (cn / 8))), .val (.int (Int32.ofNat (8 - cn % 8))), .val (.int (Int32.ofNat nn)), .val (.int (own_mv j1 (Int32.ofNat rn) (Int32.ofNat nn)))] [(.ref a1)])) _
      refine st10 _ ?_
      show Steps p.tables e below (T10.setTop (mkF m 89 #[.val (.ref a1), .val (.long j1), .second, s3, .val (.int (Int32.ofNat rn)), .val (.int (Int32.ofNat (cn / 8))), .val (.int (Int32.ofNat (8 - cn % 8))), .val (.int (Int32.ofNat nn)), .val (.int (own_mv j1 (Int32.ofNat rn) (Int32.ofNat nn)))] [(.ref bb)])) _
      refine XS.iload X10.here hx rfl (hb hby d5_89) rfl ?_
      show Steps p.tables e below (T10.setTop (mkF m 91 #[.val (.ref a1), .val (.long j1), .second, s3, .val (.int (Int32.ofNat rn)), .val (.int (Int32.ofNat (cn / 8))), .val (.int (Int32.ofNat (8 - cn % 8))), .val (.int (Int32.ofNat nn)), .val (.int (own_mv j1 (Int32.ofNat rn) (Int32.ofNat nn)))] [(.int (Int32.ofNat (cn / 8))), (.ref bb)])) _
      refine XT.dup2 X10.here hx rfl (hb hby d5_91) rfl rfl rfl ?_
      show Steps p.tables e below (T10.setTop (mkF m 92 #[.val (.ref a1), .val (.long j1), .second, s3, .val (.int (Int32.ofNat rn)), .val (.int (Int32.ofNat (cn / 8))), .val (.int (Int32.ofNat (8 - cn % 8))), .val (.int (Int32.ofNat nn)), .val (.int (own_mv j1 (Int32.ofNat rn) (Int32.ofNat nn)))] [(.int (Int32.ofNat (cn / 8))), (.ref bb), (.int (Int32.ofNat (cn / 8))), (.ref bb)])) _
      refine X10.baloadBytes hx (j := (Int32.ofNat (cn / 8))) (v := (.int w12)) (by rw [e10]; exact Ar.1) (State.isArrayOf_alike hZ.alike Ar.2.1) Ar.2.2 hin hat' (g := (mkF m 92 #[.val (.ref a1), .val (.long j1), .second, s3, .val (.int (Int32.ofNat rn)), .val (.int (Int32.ofNat (cn / 8))), .val (.int (Int32.ofNat (8 - cn % 8))), .val (.int (Int32.ofNat nn)), .val (.int (own_mv j1 (Int32.ofNat rn) (Int32.ofNat nn)))] [(.int (Int32.ofNat (cn / 8))), (.ref bb), (.int (Int32.ofNat (cn / 8))), (.ref bb)])) rfl rfl (hb hby d5_92) _ ?_
      show Steps p.tables e below (T10.setTop (mkF m 93 #[.val (.ref a1), .val (.long j1), .second, s3, .val (.int (Int32.ofNat rn)), .val (.int (Int32.ofNat (cn / 8))), .val (.int (Int32.ofNat (8 - cn % 8))), .val (.int (Int32.ofNat nn)), .val (.int (own_mv j1 (Int32.ofNat rn) (Int32.ofNat nn)))] [(.int w12), (.int (Int32.ofNat (cn / 8))), (.ref bb)])) _
      refine XS.iload X10.here hx rfl (hb hby d5_93) rfl ?_
      show Steps p.tables e below (T10.setTop (mkF m 95 #[.val (.ref a1), .val (.long j1), .second, s3, .val (.int (Int32.ofNat rn)), .val (.int (Int32.ofNat (cn / 8))), .val (.int (Int32.ofNat (8 - cn % 8))), .val (.int (Int32.ofNat nn)), .val (.int (own_mv j1 (Int32.ofNat rn) (Int32.ofNat nn)))] [(.int (own_mv j1 (Int32.ofNat rn) (Int32.ofNat nn))), (.int w12), (.int (Int32.ofNat (cn / 8))), (.ref bb)])) _
      refine XS.iload X10.here hx rfl (hb hby d5_95) rfl ?_
      show Steps p.tables e below (T10.setTop (mkF m 97 #[.val (.ref a1), .val (.long j1), .second, s3, .val (.int (Int32.ofNat rn)), .val (.int (Int32.ofNat (cn / 8))), .val (.int (Int32.ofNat (8 - cn % 8))), .val (.int (Int32.ofNat nn)), .val (.int (own_mv j1 (Int32.ofNat rn) (Int32.ofNat nn)))] [(.int (Int32.ofNat (8 - cn % 8))), (.int (own_mv j1 (Int32.ofNat rn) (Int32.ofNat nn))), (.int w12), (.int (Int32.ofNat (cn / 8))), (.ref bb)])) _
      refine XS.iload X10.here hx rfl (hb hby d5_97) rfl ?_
      show Steps p.tables e below (T10.setTop (mkF m 99 #[.val (.ref a1), .val (.long j1), .second, s3, .val (.int (Int32.ofNat rn)), .val (.int (Int32.ofNat (cn / 8))), .val (.int (Int32.ofNat (8 - cn % 8))), .val (.int (Int32.ofNat nn)), .val (.int (own_mv j1 (Int32.ofNat rn) (Int32.ofNat nn)))] [(.int (Int32.ofNat nn)), (.int (Int32.ofNat (8 - cn % 8))), (.int (own_mv j1 (Int32.ofNat rn) (Int32.ofNat nn))), (.int w12), (.int (Int32.ofNat (cn / 8))), (.ref bb)])) _
      refine XS.isub X10.here hx rfl (hb hby d5_99) rfl ?_
      show Steps p.tables e below (T10.setTop (mkF m 100 #[.val (.ref a1), .val (.long j1), .second, s3, .val (.int (Int32.ofNat rn)), .val (.int (Int32.ofNat (cn / 8))), .val (.int (Int32.ofNat (8 - cn % 8))), .val (.int (Int32.ofNat nn)), .val (.int (own_mv j1 (Int32.ofNat rn) (Int32.ofNat nn)))] [(.int ((Int32.ofNat (8 - cn % 8)) - (Int32.ofNat nn))), (.int (own_mv j1 (Int32.ofNat rn) (Int32.ofNat nn))), (.int w12), (.int (Int32.ofNat (cn / 8))), (.ref bb)])) _
      refine XS.ishl X10.here hx rfl (hb hby d5_100) rfl ?_
      show Steps p.tables e below (T10.setTop (mkF m 101 #[.val (.ref a1), .val (.long j1), .second, s3, .val (.int (Int32.ofNat rn)), .val (.int (Int32.ofNat (cn / 8))), .val (.int (Int32.ofNat (8 - cn % 8))), .val (.int (Int32.ofNat nn)), .val (.int (own_mv j1 (Int32.ofNat rn) (Int32.ofNat nn)))] [(.int ((own_mv j1 (Int32.ofNat rn) (Int32.ofNat nn)) <<< (((Int32.ofNat (8 - cn % 8)) - (Int32.ofNat nn)) &&& 31))), (.int w12), (.int (Int32.ofNat (cn / 8))), (.ref bb)])) _
      refine XS.i2b X10.here hx rfl (hb hby d5_101) rfl ?_
      show Steps p.tables e below (T10.setTop (mkF m 102 #[.val (.ref a1), .val (.long j1), .second, s3, .val (.int (Int32.ofNat rn)), .val (.int (Int32.ofNat (cn / 8))), .val (.int (Int32.ofNat (8 - cn % 8))), .val (.int (Int32.ofNat nn)), .val (.int (own_mv j1 (Int32.ofNat rn) (Int32.ofNat nn)))] [(.int (((own_mv j1 (Int32.ofNat rn) (Int32.ofNat nn)) <<< (((Int32.ofNat (8 - cn % 8)) - (Int32.ofNat nn)) &&& 31)).toInt8.toInt32)), (.int w12), (.int (Int32.ofNat (cn / 8))), (.ref bb)])) _
      refine XS.ior X10.here hx rfl (hb hby d5_102) rfl ?_
      show Steps p.tables e below (T10.setTop (mkF m 103 #[.val (.ref a1), .val (.long j1), .second, s3, .val (.int (Int32.ofNat rn)), .val (.int (Int32.ofNat (cn / 8))), .val (.int (Int32.ofNat (8 - cn % 8))), .val (.int (Int32.ofNat nn)), .val (.int (own_mv j1 (Int32.ofNat rn) (Int32.ofNat nn)))] [(.int (w12 ||| (((own_mv j1 (Int32.ofNat rn) (Int32.ofNat nn)) <<< (((Int32.ofNat (8 - cn % 8)) - (Int32.ofNat nn)) &&& 31)).toInt8.toInt32))), (.int (Int32.ofNat (cn / 8))), (.ref bb)])) _
      refine XS.i2b X10.here hx rfl (hb hby d5_103) rfl ?_
      show Steps p.tables e below (T10.setTop (mkF m 104 #[.val (.ref a1), .val (.long j1), .second, s3, .val (.int (Int32.ofNat rn)), .val (.int (Int32.ofNat (cn / 8))), .val (.int (Int32.ofNat (8 - cn % 8))), .val (.int (Int32.ofNat nn)), .val (.int (own_mv j1 (Int32.ofNat rn) (Int32.ofNat nn)))] [(.int ((w12 ||| (((own_mv j1 (Int32.ofNat rn) (Int32.ofNat nn)) <<< (((Int32.ofNat (8 - cn % 8)) - (Int32.ofNat nn)) &&& 31)).toInt8.toInt32)).toInt8.toInt32)), (.int (Int32.ofNat (cn / 8))), (.ref bb)])) _
      show Steps p.tables e below (T10.setTop (mkF m 104 #[.val (.ref a1), .val (.long j1), .second, s3, .val (.int (Int32.ofNat rn)), .val (.int (Int32.ofNat (cn / 8))), .val (.int (Int32.ofNat (8 - cn % 8))), .val (.int (Int32.ofNat nn)), .val (.int (own_mv j1 (Int32.ofNat rn) (Int32.ofNat nn)))] [(.int (own_bv w12 (own_mv j1 (Int32.ofNat rn) (Int32.ofNat nn)) (Int32.ofNat (8 - cn % 8)) (Int32.ofNat nn))), (.int (Int32.ofNat (cn / 8))), (.ref bb)])) _
      refine st13 _ ?_
      show Steps p.tables e below (T13.setTop (mkF m 105 #[.val (.ref a1), .val (.long j1), .second, s3, .val (.int (Int32.ofNat rn)), .val (.int (Int32.ofNat (cn / 8))), .val (.int (Int32.ofNat (8 - cn % 8))), .val (.int (Int32.ofNat nn)), .val (.int (own_mv j1 (Int32.ofNat rn) (Int32.ofNat nn)))] [])) _
      refine XS.aloadN X13.here hx rfl (hb hby d5_105) rfl rfl ?_
      show Steps p.tables e below (T13.setTop (mkF m 106 #[.val (.ref a1), .val (.long j1), .second, s3, .val (.int (Int32.ofNat rn)), .val (.int (Int32.ofNat (cn / 8))), .val (.int (Int32.ofNat (8 - cn % 8))), .val (.int (Int32.ofNat nn)), .val (.int (own_mv j1 (Int32.ofNat rn) (Int32.ofNat nn)))] [(.ref a1)])) _
      refine XS.dup X13.here hx rfl (hb hby d5_106) rfl rfl ?_
      show Steps p.tables e below (T13.setTop (mkF m 107 #[.val (.ref a1), .val (.long j1), .second, s3, .val (.int (Int32.ofNat rn)), .val (.int (Int32.ofNat (cn / 8))), .val (.int (Int32.ofNat (8 - cn % 8))), .val (.int (Int32.ofNat nn)), .val (.int (own_mv j1 (Int32.ofNat rn) (Int32.ofNat nn)))] [(.ref a1), (.ref a1)])) _
      refine st15 _ ?_
      show Steps p.tables e below (T15.setTop (mkF m 110 #[.val (.ref a1), .val (.long j1), .second, s3, .val (.int (Int32.ofNat rn)), .val (.int (Int32.ofNat (cn / 8))), .val (.int (Int32.ofNat (8 - cn % 8))), .val (.int (Int32.ofNat nn)), .val (.int (own_mv j1 (Int32.ofNat rn) (Int32.ofNat nn)))] [(.long (Int64.ofNat cn)), (.ref a1)])) _
      refine XS.iload X15.here hx rfl (hb hby d5_110) rfl ?_
      show Steps p.tables e below (T15.setTop (mkF m 112 #[.val (.ref a1), .val (.long j1), .second, s3, .val (.int (Int32.ofNat rn)), .val (.int (Int32.ofNat (cn / 8))), .val (.int (Int32.ofNat (8 - cn % 8))), .val (.int (Int32.ofNat nn)), .val (.int (own_mv j1 (Int32.ofNat rn) (Int32.ofNat nn)))] [(.int (Int32.ofNat nn)), (.long (Int64.ofNat cn)), (.ref a1)])) _
      refine XS.i2l X15.here hx rfl (hb hby d5_112) rfl ?_
      show Steps p.tables e below (T15.setTop (mkF m 113 #[.val (.ref a1), .val (.long j1), .second, s3, .val (.int (Int32.ofNat rn)), .val (.int (Int32.ofNat (cn / 8))), .val (.int (Int32.ofNat (8 - cn % 8))), .val (.int (Int32.ofNat nn)), .val (.int (own_mv j1 (Int32.ofNat rn) (Int32.ofNat nn)))] [(.long ((Int32.ofNat nn).toInt64)), (.long (Int64.ofNat cn)), (.ref a1)])) _
      refine XS.ladd X15.here hx rfl (hb hby d5_113) rfl ?_
      show Steps p.tables e below (T15.setTop (mkF m 114 #[.val (.ref a1), .val (.long j1), .second, s3, .val (.int (Int32.ofNat rn)), .val (.int (Int32.ofNat (cn / 8))), .val (.int (Int32.ofNat (8 - cn % 8))), .val (.int (Int32.ofNat nn)), .val (.int (own_mv j1 (Int32.ofNat rn) (Int32.ofNat nn)))] [(.long ((Int64.ofNat cn) + ((Int32.ofNat nn).toInt64))), (.ref a1)])) _
      rw [f5, own_a64]
      show Steps p.tables e below (T15.setTop (mkF m 114 #[.val (.ref a1), .val (.long j1), .second, s3, .val (.int (Int32.ofNat rn)), .val (.int (Int32.ofNat (cn / 8))), .val (.int (Int32.ofNat (8 - cn % 8))), .val (.int (Int32.ofNat nn)), .val (.int (own_mv j1 (Int32.ofNat rn) (Int32.ofNat nn)))] [(.long (Int64.ofNat (cn + nn))), (.ref a1)])) _
      refine st16 _ ?_
      show Steps p.tables e below (T16.setTop (mkF m 117 #[.val (.ref a1), .val (.long j1), .second, s3, .val (.int (Int32.ofNat rn)), .val (.int (Int32.ofNat (cn / 8))), .val (.int (Int32.ofNat (8 - cn % 8))), .val (.int (Int32.ofNat nn)), .val (.int (own_mv j1 (Int32.ofNat rn) (Int32.ofNat nn)))] [])) _
      refine XS.iload X16.here hx rfl (hb hby d5_117) rfl ?_
      show Steps p.tables e below (T16.setTop (mkF m 119 #[.val (.ref a1), .val (.long j1), .second, s3, .val (.int (Int32.ofNat rn)), .val (.int (Int32.ofNat (cn / 8))), .val (.int (Int32.ofNat (8 - cn % 8))), .val (.int (Int32.ofNat nn)), .val (.int (own_mv j1 (Int32.ofNat rn) (Int32.ofNat nn)))] [(.int (Int32.ofNat rn))])) _
      refine XS.iload X16.here hx rfl (hb hby d5_119) rfl ?_
      show Steps p.tables e below (T16.setTop (mkF m 121 #[.val (.ref a1), .val (.long j1), .second, s3, .val (.int (Int32.ofNat rn)), .val (.int (Int32.ofNat (cn / 8))), .val (.int (Int32.ofNat (8 - cn % 8))), .val (.int (Int32.ofNat nn)), .val (.int (own_mv j1 (Int32.ofNat rn) (Int32.ofNat nn)))] [(.int (Int32.ofNat nn)), (.int (Int32.ofNat rn))])) _
      refine XS.isub X16.here hx rfl (hb hby d5_121) rfl ?_
      show Steps p.tables e below (T16.setTop (mkF m 122 #[.val (.ref a1), .val (.long j1), .second, s3, .val (.int (Int32.ofNat rn)), .val (.int (Int32.ofNat (cn / 8))), .val (.int (Int32.ofNat (8 - cn % 8))), .val (.int (Int32.ofNat nn)), .val (.int (own_mv j1 (Int32.ofNat rn) (Int32.ofNat nn)))] [(.int ((Int32.ofNat rn) - (Int32.ofNat nn)))])) _
      rw [f4]
      show Steps p.tables e below (T16.setTop (mkF m 122 #[.val (.ref a1), .val (.long j1), .second, s3, .val (.int (Int32.ofNat rn)), .val (.int (Int32.ofNat (cn / 8))), .val (.int (Int32.ofNat (8 - cn % 8))), .val (.int (Int32.ofNat nn)), .val (.int (own_mv j1 (Int32.ofNat rn) (Int32.ofNat nn)))] [(.int (Int32.ofNat (rn - nn)))])) _
      refine XS.istore X16.here hx rfl (hb hby d5_122) rfl (l' := #[.val (.ref a1), .val (.long j1), .second, s3, .val (.int (Int32.ofNat (rn - nn))), .val (.int (Int32.ofNat (cn / 8))), .val (.int (Int32.ofNat (8 - cn % 8))), .val (.int (Int32.ofNat nn)), .val (.int (own_mv j1 (Int32.ofNat rn) (Int32.ofNat nn)))]) rfl ?_
      show Steps p.tables e below (T16.setTop (mkF m 124 #[.val (.ref a1), .val (.long j1), .second, s3, .val (.int (Int32.ofNat (rn - nn))), .val (.int (Int32.ofNat (cn / 8))), .val (.int (Int32.ofNat (8 - cn % 8))), .val (.int (Int32.ofNat nn)), .val (.int (own_mv j1 (Int32.ofNat rn) (Int32.ofNat nn)))] [])) _
      refine XS.goto X16.here hx rfl (pc0 := 124) (pc' := 3) rfl (hb hby d5_124) (by decide) (by decide) ?_
      exact st' _ kt
def Q5 (Z : State) (a1 : Addr) (j1 : Int64) (p3 : Int32) (bb : Addr) (rn : Nat) (cn : Nat) (h0 : Heap) (n0 : Nat) (v : Option Value) (h : Heap) (L : List Loc) : Prop := v = none ∧ Fr n0 L ∧ Keep h0 h [a1, bb] ∧ Exa Z h a1 "com/example/beaconry/beaconry/archive/Bits$Writer" ∧ Fld Z h a1 "com/example/beaconry/beaconry/archive/Bits$Writer" "count" "J" (.long (Int64.ofNat (cn + rn))) ∧ Fld Z h a1 "com/example/beaconry/beaconry/archive/Bits$Writer" "bytes" "[B" (.ref bb) ∧ own_B Z h bb
set_option maxRecDepth 65536 in
set_option maxHeartbeats 40000000 in
theorem rm5 (l : Launch) (Z : State) (a0 : Array Value) (hw : ∀ d ∈ tables_1, d.before a0 Z = true) (ws : List Jvm.Cond) (a1 : Addr) (j1 : Int64) (p3 : Int32) (bb : Addr) (rn : Nat) (cn : Nat) (h0 : Heap) (n0 : Nat) (Z0 : n0 ≤ h0.size) (hp3 : p3 = Int32.ofNat rn) (hrn : rn ≤ 64) (hcn : cn + rn ≤ 192) (Ea : Exa Z h0 a1 "com/example/beaconry/beaconry/archive/Bits$Writer") (Fc : Fld Z h0 a1 "com/example/beaconry/beaconry/archive/Bits$Writer" "count" "J" (.long (Int64.ofNat cn))) (Fb : Fld Z h0 a1 "com/example/beaconry/beaconry/archive/Bits$Writer" "bytes" "[B" (.ref bb)) (Bb : own_B Z h0 bb) (ga : n0 ≤ a1) (gb : n0 ≤ bb) (hab : a1 ≠ bb) :
    MetFree l (⟨"com/example/beaconry/beaconry/archive/Bits$Writer", "write", "(JI)V"⟩ : MethodName) (head1 (Jvm.Cond.code (⟨"com/example/beaconry/beaconry/archive/Bits$Writer", "write", "(JI)V"⟩ : MethodName) prog_14_method_2_code 9 none :: ws) ({ frames := 1, cells := 0, slots := 0, locals := 16 } : Room)) (fun a U => a = #[(.ref a1), (.long j1), (.int p3)] ∧ Z.Warmed39 U.vm ∧ U.heap = h0) (fun _ _ _ _ _ => True) (fun _ U o U' => ∃ v L, o = .returned v ∧ Q5 Z a1 j1 p3 bb rn cn h0 n0 v U'.heap L ∧ FrameEnd U o U' L (({ frames := 1, cells := 0, slots := 0, locals := 16 } : Room)).cells (({ frames := 1, cells := 0, slots := 0, locals := 16 } : Room)).slots) := by
  refine MetFree.of_bodySF (plainFor_of_name pn_5) hisR ?_
  intro p e s m args below meth c s₁ Bd hml0 hP hK
  obtain ⟨rfl, hZ, hh⟩ := hP
  have hx := Bd.exec
  have hby := Bd.bytes
  have hml : c.maxLocals = 9 := hml0
  have hown : s.vm.findClass "com/example/beaconry/beaconry/archive/Bits$Writer" = some m.cls := findClass_of_methodNamed Bd.named
  have hnm := (name_of_methodNamed Bd.named Bd.method).1
  have X0 : Stand p l e ({ frames := 1, cells := 0, slots := 0, locals := 16 } : Room) s m #[(.ref a1), (.long j1), (.int p3)] below meth c s₁ [] 0 0 := Stand.of_body Bd
  have e0 : s₁.heap = h0 := by rw [← hh, Bd.state]; rfl
  have N0 := Fr.nil n0
  have pre0 : ∀ t, Steps p.tables e below (s₁.setTop (mkF m 0 #[.val (.ref a1), .val (.long j1), .second, .val (.int p3), .unset, .unset, .unset, .unset, .unset] [])) t → Steps p.tables e below (s₁.setTop (entryFrame m #[(.ref a1), (.long j1), (.int p3)] 9)) t := fun t k => castTop (ef_5 m a1 j1 p3) k
  subst hp3
  obtain ⟨T1, h1, locs1, r1, s51, s61, s71, s81, X1, e1, N1, K1, E1, Fc1, Fb1, B1, st1⟩ := loop5 a1 bb j1 (.val (.int (Int32.ofNat rn))) n0 ga gb hab hx hZ hw hby hml hown rn cn s₁ h0 [] .unset .unset .unset .unset hrn hcn X0 e0 N0 Z0 Ea Fc Fb Bb One.u One.u One.u One.u
  obtain ⟨fs, hr, hrun, hended, hW, hsame⟩ := X1.leave (v := none) (fun _ => rfl)
  refine ⟨_, _, pre0 _ ?_, hrun, hended, _, _, rfl, ?_, ⟨_, rfl⟩, hW, hsame.mono (by decide) (by decide)⟩
  · show Steps p.tables e below (s₁.setTop (mkF m 0 #[.val (.ref a1), .val (.long j1), .second, .val (.int (Int32.ofNat rn)), .unset, .unset, .unset, .unset, .unset] [])) _
    refine XS.iloadN X0.here hx rfl (hb hby d5_0) rfl ?_
    show Steps p.tables e below (s₁.setTop (mkF m 1 #[.val (.ref a1), .val (.long j1), .second, .val (.int (Int32.ofNat rn)), .unset, .unset, .unset, .unset, .unset] [(.int (Int32.ofNat rn))])) _
    refine XS.istore X0.here hx rfl (hb hby d5_1) rfl (l' := #[.val (.ref a1), .val (.long j1), .second, .val (.int (Int32.ofNat rn)), .val (.int (Int32.ofNat rn)), .unset, .unset, .unset, .unset]) rfl ?_
    show Steps p.tables e below (s₁.setTop (mkF m 3 #[.val (.ref a1), .val (.long j1), .second, .val (.int (Int32.ofNat rn)), .val (.int (Int32.ofNat rn)), .unset, .unset, .unset, .unset] [])) _
    refine st1 _ ?_
    show Steps p.tables e below (T1.setTop (mkF m 127 #[.val (.ref a1), .val (.long j1), .second, .val (.int (Int32.ofNat rn)), r1, s51, s61, s71, s81] [])) _
    exact X1.returnOut hx Bd.returns (hb hby d5_127) hr
  · show Q5 Z a1 j1 (Int32.ofNat rn) bb rn cn h0 n0 _ T1.heap _
    rw [e1]
    exact ⟨rfl, N1, K1, E1, Fc1, Fb1, B1⟩
theorem pd_ii : parseMethodDescriptor "(I)I" = some ⟨[.int], some .int⟩ := by decide +kernel
theorem pd_v : parseMethodDescriptor "()V" = some ⟨[], none⟩ := by decide +kernel
theorem pd_i : parseMethodDescriptor "()I" = some ⟨[], some .int⟩ := by decide +kernel
theorem pd_w : parseMethodDescriptor "(JI)V" = some ⟨[.long, .int], none⟩ := by decide +kernel
theorem pn_0 : plainName "com/example/beaconry/beaconry/archive/WriterSizePinLaw" = true := by first | (simp [plainName, overriddenIn]; done) | decide +kernel
theorem ef_0 (m : MethodId) (x0 : Int64) (x1 : Int64) (x2 : Int64) (x3 : Int32) (x4 : Int32) (x5 : Int32) : entryFrame m #[(.long x0), (.long x1), (.long x2), (.int x3), (.int x4), (.int x5)] maxLocals = mkF m 0 #[.val (.long x0), .second, .val (.long x1), .second, .val (.long x2), .second, .val (.int x3), .val (.int x4), .val (.int x5), .unset, .unset, .unset, .unset, .unset] [] := by first | (simp [entryFrame, mkF, argsToLocals, Value.category, maxLocals]; done) | rfl
def Q0 (Z : State) (q1 : Int64) (q2 : Int64) (q3 : Int64) (p4 : Int32) (p5 : Int32) (p6 : Int32) (h0 : Heap) (n0 : Nat) (v : Option Value) (h : Heap) (L : List Loc) : Prop := v = some (.int 1) ∧ Fr n0 L
set_option maxRecDepth 65536 in
set_option maxHeartbeats 40000000 in
theorem rm0 (l : Launch) (Z : State) (a0 : Array Value) (hw : ∀ d ∈ tables_1, d.before a0 Z = true) (ws : List Jvm.Cond) (q1 : Int64) (q2 : Int64) (q3 : Int64) (p4 : Int32) (p5 : Int32) (p6 : Int32) (h0 : Heap) (n0 : Nat) (Z0 : n0 ≤ h0.size) :
    MetFree l x (head1 (Jvm.Cond.code x code maxLocals ret :: ws) room_1) (fun a U => a = #[(.long q1), (.long q2), (.long q3), (.int p4), (.int p5), (.int p6)] ∧ Z.Warmed39 U.vm ∧ U.heap = h0) (fun _ _ _ _ _ => True) (fun _ U o U' => ∃ v L, o = .returned v ∧ Q0 Z q1 q2 q3 p4 p5 p6 h0 n0 v U'.heap L ∧ FrameEnd U o U' L (room_1).cells (room_1).slots) := by
  refine MetFree.of_bodySF (plainFor_of_name pn_0) hisR ?_
  intro p e s m args below meth c s₁ Bd hml0 hP hK
  obtain ⟨rfl, hZ, hh⟩ := hP
  have hx := Bd.exec
  have hby := Bd.bytes
  have hml : c.maxLocals = 14 := hml0
  have hown : s.vm.findClass "com/example/beaconry/beaconry/archive/WriterSizePinLaw" = some m.cls := findClass_of_methodNamed Bd.named
  have hnm := (name_of_methodNamed Bd.named Bd.method).1
  have X0 : Stand p l e room_1 s m #[(.long q1), (.long q2), (.long q3), (.int p4), (.int p5), (.int p6)] below meth c s₁ [] 0 0 := Stand.of_body Bd
  have e0 : s₁.heap = h0 := by rw [← hh, Bd.state]; rfl
  have N0 := Fr.nil n0
  have pre0 : ∀ t, Steps p.tables e below (s₁.setTop (mkF m 0 #[.val (.long q1), .second, .val (.long q2), .second, .val (.long q3), .second, .val (.int p4), .val (.int p5), .val (.int p6), .unset, .unset, .unset, .unset, .unset] [])) t → Steps p.tables e below (s₁.setTop (entryFrame m #[(.long q1), (.long q2), (.long q3), (.int p4), (.int p5), (.int p6)] maxLocals)) t := fun t k => castTop (ef_0 m q1 q2 q3 p4 p5 p6) k
  obtain ⟨n1, hn1, hw1⟩ := own_w64 p4
  obtain ⟨n2, hn2, hw2⟩ := own_w64 p5
  obtain ⟨n3, hn3, hw3⟩ := own_w64 p6
  have s1 : own_sz (Int64.ofNat (0 + n1)) = own_bf (Int32.ofNat (n1)) := by
    rw [show 0 + n1 = n1 by omega]
    have := own_f1 ⟨n1, by omega⟩
    exact this.2.2.1.trans this.2.2.2.symm
  have s2 : own_sz (Int64.ofNat (0 + n1 + n2)) = own_bf (Int32.ofNat (n1 + n2)) := by
    rw [show 0 + n1 + n2 = n1 + n2 by omega]
    have := own_f1 ⟨n1 + n2, by omega⟩
    exact this.2.2.1.trans this.2.2.2.symm
  have s3 : own_sz (Int64.ofNat (0 + n1 + n2 + n3)) = own_bf (Int32.ofNat (n1 + n2 + n3)) := by
    rw [show 0 + n1 + n2 + n3 = n1 + n2 + n3 by omega]
    have := own_f1 ⟨n1 + n2 + n3, by omega⟩
    exact this.2.2.1.trans this.2.2.2.symm
  obtain ⟨_, _, ⟨T1, L1, k1, n1⟩, -, X1, ⟨Lc1, hQ1, l1, y1, z1⟩, st1⟩ := Jvm.LawKit.callS X0 hx (y := (⟨"com/example/beaconry/beaconry/archive/WriterSizePinLaw", "width", "(I)I"⟩ : MethodName)) hown (mvT hZ (hw _ (List.mem_of_getElem? (i := 0) rfl))) (mvT hZ (hw _ (List.mem_of_getElem? (i := 1) rfl))) (mvT hZ (hw _ (List.mem_of_getElem? (i := 2) rfl))) (mvT hZ (hw _ (List.mem_of_getElem? (i := 3) rfl))) (by decide) (backOf (W := 0) (rm1 l Z a0 hw [] p4 h0 n0 Z0) hZ (hw _ (List.mem_of_getElem? (i := 3) rfl)) (hw _ (List.mem_of_getElem? (i := 2) rfl)) (by decide) (by decide)) (g := (mkF m 2 #[.val (.long q1), .second, .val (.long q2), .second, .val (.long q3), .second, .val (.int p4), .val (.int p5), .val (.int p6), .unset, .unset, .unset, .unset, .unset] [(.int p4)])) rfl (by rw [hml]; rfl) (argsL := [(.int p4)]) (rest := []) (lenOf pd_ii rfl) rfl (by show 2 * 0 + _ ≤ _; exact Nat.le_of_eq rfl) (hb hby at_2) (fun _ _ => ⟨rfl, e0, (by decide : 0 + 0 ≤ _), (by decide : 0 + 0 ≤ _)⟩)
  dsimp only [Pt.U, Pt.locs, Pt.cells, Pt.slots] at X1 l1 y1 z1 st1 hQ1
  subst l1 y1 z1
  obtain ⟨rfl, N1q, e1⟩ := hQ1
  have N1 := Fr.app N0 N1q
  obtain ⟨_, _, ⟨T2, L2, k2, n2⟩, -, X2, ⟨Lc2, hQ2, l2, y2, z2⟩, st2⟩ := Jvm.LawKit.callS X1 hx (y := (⟨"com/example/beaconry/beaconry/archive/WriterSizePinLaw", "width", "(I)I"⟩ : MethodName)) hown (mvT hZ (hw _ (List.mem_of_getElem? (i := 0) rfl))) (mvT hZ (hw _ (List.mem_of_getElem? (i := 1) rfl))) (mvT hZ (hw _ (List.mem_of_getElem? (i := 2) rfl))) (mvT hZ (hw _ (List.mem_of_getElem? (i := 3) rfl))) (by decide) (backOf (W := 0) (rm1 l Z a0 hw [] p5 h0 n0 Z0) hZ (hw _ (List.mem_of_getElem? (i := 3) rfl)) (hw _ (List.mem_of_getElem? (i := 2) rfl)) (by decide) (by decide)) (g := (mkF m 9 #[.val (.long q1), .second, .val (.long q2), .second, .val (.long q3), .second, .val (.int p4), .val (.int p5), .val (.int p6), .val (.int (Int32.ofNat n1)), .unset, .unset, .unset, .unset] [(.int p5)])) rfl (by rw [hml]; rfl) (argsL := [(.int p5)]) (rest := []) (lenOf pd_ii rfl) rfl (by show 2 * 0 + _ ≤ _; exact Nat.le_of_eq rfl) (hb hby at_9) (fun _ _ => ⟨rfl, e1, (by decide : 0 + 0 ≤ _), (by decide : 0 + 0 ≤ _)⟩)
  dsimp only [Pt.U, Pt.locs, Pt.cells, Pt.slots] at X2 l2 y2 z2 st2 hQ2
  subst l2 y2 z2
  obtain ⟨rfl, N2q, e2⟩ := hQ2
  have N2 := Fr.app N1 N2q
  obtain ⟨_, _, ⟨T3, L3, k3, n3⟩, -, X3, ⟨Lc3, hQ3, l3, y3, z3⟩, st3⟩ := Jvm.LawKit.callS X2 hx (y := (⟨"com/example/beaconry/beaconry/archive/WriterSizePinLaw", "width", "(I)I"⟩ : MethodName)) hown (mvT hZ (hw _ (List.mem_of_getElem? (i := 0) rfl))) (mvT hZ (hw _ (List.mem_of_getElem? (i := 1) rfl))) (mvT hZ (hw _ (List.mem_of_getElem? (i := 2) rfl))) (mvT hZ (hw _ (List.mem_of_getElem? (i := 3) rfl))) (by decide) (backOf (W := 0) (rm1 l Z a0 hw [] p6 h0 n0 Z0) hZ (hw _ (List.mem_of_getElem? (i := 3) rfl)) (hw _ (List.mem_of_getElem? (i := 2) rfl)) (by decide) (by decide)) (g := (mkF m 16 #[.val (.long q1), .second, .val (.long q2), .second, .val (.long q3), .second, .val (.int p4), .val (.int p5), .val (.int p6), .val (.int (Int32.ofNat n1)), .val (.int (Int32.ofNat n2)), .unset, .unset, .unset] [(.int p6)])) rfl (by rw [hml]; rfl) (argsL := [(.int p6)]) (rest := []) (lenOf pd_ii rfl) rfl (by show 2 * 0 + _ ≤ _; exact Nat.le_of_eq rfl) (hb hby at_16) (fun _ _ => ⟨rfl, e2, (by decide : 0 + 0 ≤ _), (by decide : 0 + 0 ≤ _)⟩)
  dsimp only [Pt.U, Pt.locs, Pt.cells, Pt.slots] at X3 l3 y3 z3 st3 hQ3
  subst l3 y3 z3
  obtain ⟨rfl, N3q, e3⟩ := hQ3
  have N3 := Fr.app N2 N3q
  obtain ⟨T10, h10, X10, e10, E10, A10, D10, -, st10⟩ := newO X3 hx hZ hown (hw _ (List.mem_of_getElem? (i := 5) rfl)) (hw _ (List.mem_of_getElem? (i := 6) rfl)) (hw _ (List.mem_of_getElem? (i := 7) rfl)) e3 (g := (mkF m 21 #[.val (.long q1), .second, .val (.long q2), .second, .val (.long q3), .second, .val (.int p4), .val (.int p5), .val (.int p6), .val (.int (Int32.ofNat n1)), .val (.int (Int32.ofNat n2)), .val (.int (Int32.ofNat n3)), .unset, .unset] [])) rfl (hb hby at_21) (by decide) (by decide)
  obtain ⟨b10, g10⟩ : ∃ z, z = h0.size := ⟨_, rfl⟩
  rw [← g10] at A10 D10 st10
  have Fb10 : Fld Z h10 b10 "com/example/beaconry/beaconry/archive/Bits$Writer" "bytes" "[B" .null := D10 (Or.inl (hw _ (List.mem_of_getElem? (i := 16) rfl))) (ty := (.array .byte)) (by decide)
  have Fc10 : Fld Z h10 b10 "com/example/beaconry/beaconry/archive/Bits$Writer" "count" "J" (.long 0) := D10 (Or.inl (hw _ (List.mem_of_getElem? (i := 23) rfl))) (ty := .long) (by decide)
  have ga : n0 ≤ b10 := Nat.le_trans Z0 (Nat.le_of_eq g10.symm)
  have Z10 : n0 ≤ h10.size := Nat.le_trans Z0 E10.1
  obtain ⟨_, _, ⟨T11, L11, k11, n11⟩, -, X11, ⟨Lc11, hQ11, l11, y11, z11⟩, st11⟩ := X10.specialBack hx (y := (⟨"com/example/beaconry/beaconry/archive/Bits$Writer", "<init>", "()V"⟩ : MethodName)) rfl hown (mvT hZ (hw _ (List.mem_of_getElem? (i := 8) rfl))) (mvT hZ (hw _ (List.mem_of_getElem? (i := 9) rfl))) (mvT hZ (hw _ (List.mem_of_getElem? (i := 10) rfl))) (by decide) (backOf (W := 1) (rm2 l Z a0 hw [] b10 .null h10 n0 Z10 A10 Fb10 ga Fc10) hZ (hw _ (List.mem_of_getElem? (i := 10) rfl)) (hw _ (List.mem_of_getElem? (i := 7) rfl)) (by decide) (by decide)) (g := (mkF m 25 #[.val (.long q1), .second, .val (.long q2), .second, .val (.long q3), .second, .val (.int p4), .val (.int p5), .val (.int p6), .val (.int (Int32.ofNat n1)), .val (.int (Int32.ofNat n2)), .val (.int (Int32.ofNat n3)), .unset, .unset] [(.ref b10), (.ref b10)])) rfl (by rw [hml]; rfl) (Steps.refl _) (a := b10) (argsL := []) (rest := [(.ref b10)]) (lenOf pd_v rfl) rfl (by show 2 * 0 + _ ≤ _; exact Nat.le_of_eq rfl) (hb hby at_25) (fun _ _ => ⟨rfl, e10, (by decide : 1 + 1 ≤ _), (by decide : 2 + 64 ≤ _)⟩)
  dsimp only [Pt.U, Pt.locs, Pt.cells, Pt.slots] at X11 l11 y11 z11 st11 hQ11
  subst l11 y11 z11
  obtain ⟨rfl, N11q, K11, E11, Fc11, bb, gb, hbb, Fb11, B11⟩ := hQ11
  have N11 := Fr.app N3 N11q
  have Z11 : n0 ≤ T11.heap.size := Nat.le_trans Z10 K11.1
  have hab : b10 ≠ bb := Nat.ne_of_lt (Nat.lt_of_lt_of_le A10.lt hbb)
  obtain ⟨cq12, kq12, q12a, q12b, q12c⟩ := isOf hZ rfl E11
  obtain ⟨_, _, ⟨T12, L12, k12, n12⟩, -, X12, ⟨Lc12, hQ12, l12, y12, z12⟩, st12⟩ := X11.virtualBack hx (y := (⟨"com/example/beaconry/beaconry/archive/Bits$Writer", "size", "()I"⟩ : MethodName)) (z := (⟨"com/example/beaconry/beaconry/archive/Bits$Writer", "size", "()I"⟩ : MethodName)) hown (mvT hZ (hw _ (List.mem_of_getElem? (i := 17) rfl))) (mvT hZ (hw _ (List.mem_of_getElem? (i := 18) rfl))) (notFace_of_selects (args := #[]) (mvT hZ (hw _ (List.mem_of_getElem? (i := 20) rfl)))) (mvT hZ (hw _ (List.mem_of_getElem? (i := 20) rfl))) (mvT hZ (hw _ (List.mem_of_getElem? (i := 19) rfl))) (by decide) (backOf (W := 0) (rm4 l Z a0 hw [] b10 (Int64.ofNat (0)) T11.heap n0 Z11 Fc11) hZ (hw _ (List.mem_of_getElem? (i := 21) rfl)) (hw _ (List.mem_of_getElem? (i := 7) rfl)) (by decide) (by decide)) q12a q12c (g := (mkF m 32 #[.val (.long q1), .second, .val (.long q2), .second, .val (.long q3), .second, .val (.int p4), .val (.int p5), .val (.int p6), .val (.int (Int32.ofNat n1)), .val (.int (Int32.ofNat n2)), .val (.int (Int32.ofNat n3)), .val (.ref b10), .unset] [(.ref b10)])) rfl (by rw [hml]; rfl) (Steps.refl _) (argsL := []) (rest := []) (lenOf pd_i rfl) rfl (by show 2 * 0 + _ ≤ _; exact Nat.le_of_eq rfl) (hb hby at_32) (fun _ _ => ⟨rfl, rfl, (by decide : 2 + 0 ≤ _), (by decide : 66 + 0 ≤ _)⟩)
  dsimp only [Pt.U, Pt.locs, Pt.cells, Pt.slots] at X12 l12 y12 z12 st12 hQ12
  subst l12 y12 z12
  obtain ⟨rfl, N12q, e12⟩ := hQ12
  have N12 := Fr.app N11 N12q
  obtain ⟨cq13, kq13, q13a, q13b, q13c⟩ := isOf hZ e12 E11
  obtain ⟨_, _, ⟨T13, L13, k13, n13⟩, -, X13, ⟨Lc13, hQ13, l13, y13, z13⟩, st13⟩ := X12.virtualBack hx (y := (⟨"com/example/beaconry/beaconry/archive/Bits$Writer", "write", "(JI)V"⟩ : MethodName)) (z := (⟨"com/example/beaconry/beaconry/archive/Bits$Writer", "write", "(JI)V"⟩ : MethodName)) hown (mvT hZ (hw _ (List.mem_of_getElem? (i := 25) rfl))) (mvT hZ (hw _ (List.mem_of_getElem? (i := 26) rfl))) (notFace_of_selects (args := #[]) (mvT hZ (hw _ (List.mem_of_getElem? (i := 28) rfl)))) (mvT hZ (hw _ (List.mem_of_getElem? (i := 28) rfl))) (mvT hZ (hw _ (List.mem_of_getElem? (i := 27) rfl))) (by decide) (backOf (W := 0) (rm5 l Z a0 hw [] b10 q1 (Int32.ofNat n1) bb n1 (0) T11.heap n0 Z11 rfl hn1 (by omega) E11 Fc11 Fb11 B11 ga gb hab) hZ (hw _ (List.mem_of_getElem? (i := 29) rfl)) (hw _ (List.mem_of_getElem? (i := 7) rfl)) (by decide) (by decide)) q13a q13c (g := (mkF m 50 #[.val (.long q1), .second, .val (.long q2), .second, .val (.long q3), .second, .val (.int p4), .val (.int p5), .val (.int p6), .val (.int (Int32.ofNat n1)), .val (.int (Int32.ofNat n2)), .val (.int (Int32.ofNat n3)), .val (.ref b10), .val (.int (1 : Int32))] [(.int (Int32.ofNat n1)), (.long q1), (.ref b10)])) rfl (by rw [hml]; rfl) (Steps.refl _) (argsL := [(.long q1), (.int (Int32.ofNat n1))]) (rest := []) (lenOf pd_w rfl) rfl (by show 2 * 0 + _ ≤ _; exact Nat.le_of_eq rfl) (hb hby at_50) (fun _ _ => ⟨rfl, e12, (by decide : 2 + 0 ≤ _), (by decide : 66 + 0 ≤ _)⟩)
  dsimp only [Pt.U, Pt.locs, Pt.cells, Pt.slots] at X13 l13 y13 z13 st13 hQ13
  subst l13 y13 z13
  obtain ⟨rfl, N13q, K13, E13, Fc13, Fb13, B13⟩ := hQ13
  have N13 := Fr.app N12 N13q
  have Z13 : n0 ≤ T13.heap.size := Nat.le_trans Z11 K13.1
  obtain ⟨cq14, kq14, q14a, q14b, q14c⟩ := isOf hZ rfl E13
  obtain ⟨_, _, ⟨T14, L14, k14, n14⟩, -, X14, ⟨Lc14, hQ14, l14, y14, z14⟩, st14⟩ := X13.virtualBack hx (y := (⟨"com/example/beaconry/beaconry/archive/Bits$Writer", "size", "()I"⟩ : MethodName)) (z := (⟨"com/example/beaconry/beaconry/archive/Bits$Writer", "size", "()I"⟩ : MethodName)) hown (mvT hZ (hw _ (List.mem_of_getElem? (i := 17) rfl))) (mvT hZ (hw _ (List.mem_of_getElem? (i := 18) rfl))) (notFace_of_selects (args := #[]) (mvT hZ (hw _ (List.mem_of_getElem? (i := 20) rfl)))) (mvT hZ (hw _ (List.mem_of_getElem? (i := 20) rfl))) (mvT hZ (hw _ (List.mem_of_getElem? (i := 19) rfl))) (by decide) (backOf (W := 0) (rm4 l Z a0 hw [] b10 (Int64.ofNat (0 + n1)) T13.heap n0 Z13 Fc13) hZ (hw _ (List.mem_of_getElem? (i := 21) rfl)) (hw _ (List.mem_of_getElem? (i := 7) rfl)) (by decide) (by decide)) q14a q14c (g := (mkF m 60 #[.val (.long q1), .second, .val (.long q2), .second, .val (.long q3), .second, .val (.int p4), .val (.int p5), .val (.int p6), .val (.int (Int32.ofNat n1)), .val (.int (Int32.ofNat n2)), .val (.int (Int32.ofNat n3)), .val (.ref b10), .val (.int (1 : Int32))] [(.ref b10)])) rfl (by rw [hml]; rfl) (Steps.refl _) (argsL := []) (rest := []) (lenOf pd_i rfl) rfl (by show 2 * 0 + _ ≤ _; exact Nat.le_of_eq rfl) (hb hby at_60) (fun _ _ => ⟨rfl, rfl, (by decide : 2 + 0 ≤ _), (by decide : 66 + 0 ≤ _)⟩)
  dsimp only [Pt.U, Pt.locs, Pt.cells, Pt.slots] at X14 l14 y14 z14 st14 hQ14
  subst l14 y14 z14
  obtain ⟨rfl, N14q, e14⟩ := hQ14
  have N14 := Fr.app N13 N14q
  obtain ⟨_, _, ⟨T15, L15, k15, n15⟩, -, X15, ⟨Lc15, hQ15, l15, y15, z15⟩, st15⟩ := Jvm.LawKit.callS X14 hx (y := (⟨"com/example/beaconry/beaconry/archive/WriterSizePinLaw", "bytesFor", "(I)I"⟩ : MethodName)) hown (mvT hZ (hw _ (List.mem_of_getElem? (i := 34) rfl))) (mvT hZ (hw _ (List.mem_of_getElem? (i := 35) rfl))) (mvT hZ (hw _ (List.mem_of_getElem? (i := 2) rfl))) (mvT hZ (hw _ (List.mem_of_getElem? (i := 36) rfl))) (by decide) (backOf (W := 1) (rm7 l Z a0 hw [] (Int32.ofNat n1) T13.heap n0 Z13) hZ (hw _ (List.mem_of_getElem? (i := 36) rfl)) (hw _ (List.mem_of_getElem? (i := 2) rfl)) (by decide) (by decide)) (g := (mkF m 65 #[.val (.long q1), .second, .val (.long q2), .second, .val (.long q3), .second, .val (.int p4), .val (.int p5), .val (.int p6), .val (.int (Int32.ofNat n1)), .val (.int (Int32.ofNat n2)), .val (.int (Int32.ofNat n3)), .val (.ref b10), .val (.int (1 : Int32))] [(.int (Int32.ofNat n1)), (.int (own_sz (Int64.ofNat (0 + n1))))])) rfl (by rw [hml]; rfl) (argsL := [(.int (Int32.ofNat n1))]) (rest := [(.int (own_sz (Int64.ofNat (0 + n1))))]) (lenOf pd_ii rfl) rfl (by show 2 * 0 + _ ≤ _; exact Nat.le_of_eq rfl) (hb hby at_65) (fun _ _ => ⟨rfl, e14, (by decide : 2 + 0 ≤ _), (by decide : 66 + 0 ≤ _)⟩)
  dsimp only [Pt.U, Pt.locs, Pt.cells, Pt.slots] at X15 l15 y15 z15 st15 hQ15
  subst l15 y15 z15
  obtain ⟨rfl, N15q, e15⟩ := hQ15
  have N15 := Fr.app N14 N15q
  obtain ⟨cq16, kq16, q16a, q16b, q16c⟩ := isOf hZ e15 E13
  obtain ⟨_, _, ⟨T16, L16, k16, n16⟩, -, X16, ⟨Lc16, hQ16, l16, y16, z16⟩, st16⟩ := X15.virtualBack hx (y := (⟨"com/example/beaconry/beaconry/archive/Bits$Writer", "write", "(JI)V"⟩ : MethodName)) (z := (⟨"com/example/beaconry/beaconry/archive/Bits$Writer", "write", "(JI)V"⟩ : MethodName)) hown (mvT hZ (hw _ (List.mem_of_getElem? (i := 25) rfl))) (mvT hZ (hw _ (List.mem_of_getElem? (i := 26) rfl))) (notFace_of_selects (args := #[]) (mvT hZ (hw _ (List.mem_of_getElem? (i := 28) rfl)))) (mvT hZ (hw _ (List.mem_of_getElem? (i := 28) rfl))) (mvT hZ (hw _ (List.mem_of_getElem? (i := 27) rfl))) (by decide) (backOf (W := 0) (rm5 l Z a0 hw [] b10 q2 (Int32.ofNat n2) bb n2 (0 + n1) T13.heap n0 Z13 rfl hn2 (by omega) E13 Fc13 Fb13 B13 ga gb hab) hZ (hw _ (List.mem_of_getElem? (i := 29) rfl)) (hw _ (List.mem_of_getElem? (i := 7) rfl)) (by decide) (by decide)) q16a q16c (g := (mkF m 83 #[.val (.long q1), .second, .val (.long q2), .second, .val (.long q3), .second, .val (.int p4), .val (.int p5), .val (.int p6), .val (.int (Int32.ofNat n1)), .val (.int (Int32.ofNat n2)), .val (.int (Int32.ofNat n3)), .val (.ref b10), .val (.int (1 : Int32))] [(.int (Int32.ofNat n2)), (.long q2), (.ref b10)])) rfl (by rw [hml]; rfl) (Steps.refl _) (argsL := [(.long q2), (.int (Int32.ofNat n2))]) (rest := []) (lenOf pd_w rfl) rfl (by show 2 * 0 + _ ≤ _; exact Nat.le_of_eq rfl) (hb hby at_83) (fun _ _ => ⟨rfl, e15, (by decide : 2 + 0 ≤ _), (by decide : 66 + 0 ≤ _)⟩)
  dsimp only [Pt.U, Pt.locs, Pt.cells, Pt.slots] at X16 l16 y16 z16 st16 hQ16
  subst l16 y16 z16
  obtain ⟨rfl, N16q, K16, E16, Fc16, Fb16, B16⟩ := hQ16
  have N16 := Fr.app N15 N16q
  have Z16 : n0 ≤ T16.heap.size := Nat.le_trans Z13 K16.1
  obtain ⟨cq17, kq17, q17a, q17b, q17c⟩ := isOf hZ rfl E16
  obtain ⟨_, _, ⟨T17, L17, k17, n17⟩, -, X17, ⟨Lc17, hQ17, l17, y17, z17⟩, st17⟩ := X16.virtualBack hx (y := (⟨"com/example/beaconry/beaconry/archive/Bits$Writer", "size", "()I"⟩ : MethodName)) (z := (⟨"com/example/beaconry/beaconry/archive/Bits$Writer", "size", "()I"⟩ : MethodName)) hown (mvT hZ (hw _ (List.mem_of_getElem? (i := 17) rfl))) (mvT hZ (hw _ (List.mem_of_getElem? (i := 18) rfl))) (notFace_of_selects (args := #[]) (mvT hZ (hw _ (List.mem_of_getElem? (i := 20) rfl)))) (mvT hZ (hw _ (List.mem_of_getElem? (i := 20) rfl))) (mvT hZ (hw _ (List.mem_of_getElem? (i := 19) rfl))) (by decide) (backOf (W := 0) (rm4 l Z a0 hw [] b10 (Int64.ofNat (0 + n1 + n2)) T16.heap n0 Z16 Fc16) hZ (hw _ (List.mem_of_getElem? (i := 21) rfl)) (hw _ (List.mem_of_getElem? (i := 7) rfl)) (by decide) (by decide)) q17a q17c (g := (mkF m 93 #[.val (.long q1), .second, .val (.long q2), .second, .val (.long q3), .second, .val (.int p4), .val (.int p5), .val (.int p6), .val (.int (Int32.ofNat n1)), .val (.int (Int32.ofNat n2)), .val (.int (Int32.ofNat n3)), .val (.ref b10), .val (.int (1 : Int32))] [(.ref b10)])) rfl (by rw [hml]; rfl) (Steps.refl _) (argsL := []) (rest := []) (lenOf pd_i rfl) rfl (by show 2 * 0 + _ ≤ _; exact Nat.le_of_eq rfl) (hb hby at_93) (fun _ _ => ⟨rfl, rfl, (by decide : 2 + 0 ≤ _), (by decide : 66 + 0 ≤ _)⟩)
  dsimp only [Pt.U, Pt.locs, Pt.cells, Pt.slots] at X17 l17 y17 z17 st17 hQ17
  subst l17 y17 z17
  obtain ⟨rfl, N17q, e17⟩ := hQ17
  have N17 := Fr.app N16 N17q
  obtain ⟨_, _, ⟨T18, L18, k18, n18⟩, -, X18, ⟨Lc18, hQ18, l18, y18, z18⟩, st18⟩ := Jvm.LawKit.callS X17 hx (y := (⟨"com/example/beaconry/beaconry/archive/WriterSizePinLaw", "bytesFor", "(I)I"⟩ : MethodName)) hown (mvT hZ (hw _ (List.mem_of_getElem? (i := 34) rfl))) (mvT hZ (hw _ (List.mem_of_getElem? (i := 35) rfl))) (mvT hZ (hw _ (List.mem_of_getElem? (i := 2) rfl))) (mvT hZ (hw _ (List.mem_of_getElem? (i := 36) rfl))) (by decide) (backOf (W := 1) (rm7 l Z a0 hw [] (Int32.ofNat (n1 + n2)) T16.heap n0 Z16) hZ (hw _ (List.mem_of_getElem? (i := 36) rfl)) (hw _ (List.mem_of_getElem? (i := 2) rfl)) (by decide) (by decide)) (g := (mkF m 101 #[.val (.long q1), .second, .val (.long q2), .second, .val (.long q3), .second, .val (.int p4), .val (.int p5), .val (.int p6), .val (.int (Int32.ofNat n1)), .val (.int (Int32.ofNat n2)), .val (.int (Int32.ofNat n3)), .val (.ref b10), .val (.int (1 : Int32))] [(.int (Int32.ofNat (n1 + n2))), (.int (own_sz (Int64.ofNat (0 + n1 + n2))))])) rfl (by rw [hml]; rfl) (argsL := [(.int (Int32.ofNat (n1 + n2)))]) (rest := [(.int (own_sz (Int64.ofNat (0 + n1 + n2))))]) (lenOf pd_ii rfl) rfl (by show 2 * 0 + _ ≤ _; exact Nat.le_of_eq rfl) (hb hby at_101) (fun _ _ => ⟨rfl, e17, (by decide : 2 + 0 ≤ _), (by decide : 66 + 0 ≤ _)⟩)
  dsimp only [Pt.U, Pt.locs, Pt.cells, Pt.slots] at X18 l18 y18 z18 st18 hQ18
  subst l18 y18 z18
  obtain ⟨rfl, N18q, e18⟩ := hQ18
  have N18 := Fr.app N17 N18q
  obtain ⟨cq19, kq19, q19a, q19b, q19c⟩ := isOf hZ e18 E16
  obtain ⟨_, _, ⟨T19, L19, k19, n19⟩, -, X19, ⟨Lc19, hQ19, l19, y19, z19⟩, st19⟩ := X18.virtualBack hx (y := (⟨"com/example/beaconry/beaconry/archive/Bits$Writer", "write", "(JI)V"⟩ : MethodName)) (z := (⟨"com/example/beaconry/beaconry/archive/Bits$Writer", "write", "(JI)V"⟩ : MethodName)) hown (mvT hZ (hw _ (List.mem_of_getElem? (i := 25) rfl))) (mvT hZ (hw _ (List.mem_of_getElem? (i := 26) rfl))) (notFace_of_selects (args := #[]) (mvT hZ (hw _ (List.mem_of_getElem? (i := 28) rfl)))) (mvT hZ (hw _ (List.mem_of_getElem? (i := 28) rfl))) (mvT hZ (hw _ (List.mem_of_getElem? (i := 27) rfl))) (by decide) (backOf (W := 0) (rm5 l Z a0 hw [] b10 q3 (Int32.ofNat n3) bb n3 (0 + n1 + n2) T16.heap n0 Z16 rfl hn3 (by omega) E16 Fc16 Fb16 B16 ga gb hab) hZ (hw _ (List.mem_of_getElem? (i := 29) rfl)) (hw _ (List.mem_of_getElem? (i := 7) rfl)) (by decide) (by decide)) q19a q19c (g := (mkF m 120 #[.val (.long q1), .second, .val (.long q2), .second, .val (.long q3), .second, .val (.int p4), .val (.int p5), .val (.int p6), .val (.int (Int32.ofNat n1)), .val (.int (Int32.ofNat n2)), .val (.int (Int32.ofNat n3)), .val (.ref b10), .val (.int (1 : Int32))] [(.int (Int32.ofNat n3)), (.long q3), (.ref b10)])) rfl (by rw [hml]; rfl) (Steps.refl _) (argsL := [(.long q3), (.int (Int32.ofNat n3))]) (rest := []) (lenOf pd_w rfl) rfl (by show 2 * 0 + _ ≤ _; exact Nat.le_of_eq rfl) (hb hby at_120) (fun _ _ => ⟨rfl, e18, (by decide : 2 + 0 ≤ _), (by decide : 66 + 0 ≤ _)⟩)
  dsimp only [Pt.U, Pt.locs, Pt.cells, Pt.slots] at X19 l19 y19 z19 st19 hQ19
  subst l19 y19 z19
  obtain ⟨rfl, N19q, K19, E19, Fc19, Fb19, B19⟩ := hQ19
  have N19 := Fr.app N18 N19q
  have Z19 : n0 ≤ T19.heap.size := Nat.le_trans Z16 K19.1
  obtain ⟨cq20, kq20, q20a, q20b, q20c⟩ := isOf hZ rfl E19
  obtain ⟨_, _, ⟨T20, L20, k20, n20⟩, -, X20, ⟨Lc20, hQ20, l20, y20, z20⟩, st20⟩ := X19.virtualBack hx (y := (⟨"com/example/beaconry/beaconry/archive/Bits$Writer", "size", "()I"⟩ : MethodName)) (z := (⟨"com/example/beaconry/beaconry/archive/Bits$Writer", "size", "()I"⟩ : MethodName)) hown (mvT hZ (hw _ (List.mem_of_getElem? (i := 17) rfl))) (mvT hZ (hw _ (List.mem_of_getElem? (i := 18) rfl))) (notFace_of_selects (args := #[]) (mvT hZ (hw _ (List.mem_of_getElem? (i := 20) rfl)))) (mvT hZ (hw _ (List.mem_of_getElem? (i := 20) rfl))) (mvT hZ (hw _ (List.mem_of_getElem? (i := 19) rfl))) (by decide) (backOf (W := 0) (rm4 l Z a0 hw [] b10 (Int64.ofNat (0 + n1 + n2 + n3)) T19.heap n0 Z19 Fc19) hZ (hw _ (List.mem_of_getElem? (i := 21) rfl)) (hw _ (List.mem_of_getElem? (i := 7) rfl)) (by decide) (by decide)) q20a q20c (g := (mkF m 130 #[.val (.long q1), .second, .val (.long q2), .second, .val (.long q3), .second, .val (.int p4), .val (.int p5), .val (.int p6), .val (.int (Int32.ofNat n1)), .val (.int (Int32.ofNat n2)), .val (.int (Int32.ofNat n3)), .val (.ref b10), .val (.int (1 : Int32))] [(.ref b10)])) rfl (by rw [hml]; rfl) (Steps.refl _) (argsL := []) (rest := []) (lenOf pd_i rfl) rfl (by show 2 * 0 + _ ≤ _; exact Nat.le_of_eq rfl) (hb hby at_130) (fun _ _ => ⟨rfl, rfl, (by decide : 2 + 0 ≤ _), (by decide : 66 + 0 ≤ _)⟩)
  dsimp only [Pt.U, Pt.locs, Pt.cells, Pt.slots] at X20 l20 y20 z20 st20 hQ20
  subst l20 y20 z20
  obtain ⟨rfl, N20q, e20⟩ := hQ20
  have N20 := Fr.app N19 N20q
  obtain ⟨_, _, ⟨T21, L21, k21, n21⟩, -, X21, ⟨Lc21, hQ21, l21, y21, z21⟩, st21⟩ := Jvm.LawKit.callS X20 hx (y := (⟨"com/example/beaconry/beaconry/archive/WriterSizePinLaw", "bytesFor", "(I)I"⟩ : MethodName)) hown (mvT hZ (hw _ (List.mem_of_getElem? (i := 34) rfl))) (mvT hZ (hw _ (List.mem_of_getElem? (i := 35) rfl))) (mvT hZ (hw _ (List.mem_of_getElem? (i := 2) rfl))) (mvT hZ (hw _ (List.mem_of_getElem? (i := 36) rfl))) (by decide) (backOf (W := 1) (rm7 l Z a0 hw [] (Int32.ofNat (n1 + n2 + n3)) T19.heap n0 Z19) hZ (hw _ (List.mem_of_getElem? (i := 36) rfl)) (hw _ (List.mem_of_getElem? (i := 2) rfl)) (by decide) (by decide)) (g := (mkF m 141 #[.val (.long q1), .second, .val (.long q2), .second, .val (.long q3), .second, .val (.int p4), .val (.int p5), .val (.int p6), .val (.int (Int32.ofNat n1)), .val (.int (Int32.ofNat n2)), .val (.int (Int32.ofNat n3)), .val (.ref b10), .val (.int (1 : Int32))] [(.int (Int32.ofNat (n1 + n2 + n3))), (.int (own_sz (Int64.ofNat (0 + n1 + n2 + n3))))])) rfl (by rw [hml]; rfl) (argsL := [(.int (Int32.ofNat (n1 + n2 + n3)))]) (rest := [(.int (own_sz (Int64.ofNat (0 + n1 + n2 + n3))))]) (lenOf pd_ii rfl) rfl (by show 2 * 0 + _ ≤ _; exact Nat.le_of_eq rfl) (hb hby at_141) (fun _ _ => ⟨rfl, e20, (by decide : 2 + 0 ≤ _), (by decide : 66 + 0 ≤ _)⟩)
  dsimp only [Pt.U, Pt.locs, Pt.cells, Pt.slots] at X21 l21 y21 z21 st21 hQ21
  subst l21 y21 z21
  obtain ⟨rfl, N21q, e21⟩ := hQ21
  have N21 := Fr.app N20 N21q
  obtain ⟨fs, hr, hrun, hended, hW, hsame⟩ := X21.leave (v := some (.int (1 : Int32))) (fun h => by rw [Bd.returns] at h; cases h)
  refine ⟨_, _, pre0 _ ?_, hrun, hended, _, _, rfl, ?_, ⟨_, rfl⟩, hW, hsame.mono (by decide) (by decide)⟩
  · show Steps p.tables e below (s₁.setTop (mkF m 0 #[.val (.long q1), .second, .val (.long q2), .second, .val (.long q3), .second, .val (.int p4), .val (.int p5), .val (.int p6), .unset, .unset, .unset, .unset, .unset] [])) _
    refine XS.iload X0.here hx rfl (hb hby at_0) rfl ?_
    show Steps p.tables e below (s₁.setTop (mkF m 2 #[.val (.long q1), .second, .val (.long q2), .second, .val (.long q3), .second, .val (.int p4), .val (.int p5), .val (.int p6), .unset, .unset, .unset, .unset, .unset] [(.int p4)])) _
    refine st1 _ ?_
    show Steps p.tables e below (T1.setTop (mkF m 5 #[.val (.long q1), .second, .val (.long q2), .second, .val (.long q3), .second, .val (.int p4), .val (.int p5), .val (.int p6), .unset, .unset, .unset, .unset, .unset] [(.int (own_wd p4))])) _
    rw [hw1]
    show Steps p.tables e below (T1.setTop (mkF m 5 #[.val (.long q1), .second, .val (.long q2), .second, .val (.long q3), .second, .val (.int p4), .val (.int p5), .val (.int p6), .unset, .unset, .unset, .unset, .unset] [(.int (Int32.ofNat n1))])) _
    refine XS.istore X1.here hx rfl (hb hby at_5) rfl (l' := #[.val (.long q1), .second, .val (.long q2), .second, .val (.long q3), .second, .val (.int p4), .val (.int p5), .val (.int p6), .val (.int (Int32.ofNat n1)), .unset, .unset, .unset, .unset]) rfl ?_
    show Steps p.tables e below (T1.setTop (mkF m 7 #[.val (.long q1), .second, .val (.long q2), .second, .val (.long q3), .second, .val (.int p4), .val (.int p5), .val (.int p6), .val (.int (Int32.ofNat n1)), .unset, .unset, .unset, .unset] [])) _
    refine XS.iload X1.here hx rfl (hb hby at_7) rfl ?_
    show Steps p.tables e below (T1.setTop (mkF m 9 #[.val (.long q1), .second, .val (.long q2), .second, .val (.long q3), .second, .val (.int p4), .val (.int p5), .val (.int p6), .val (.int (Int32.ofNat n1)), .unset, .unset, .unset, .unset] [(.int p5)])) _
    refine st2 _ ?_
    show Steps p.tables e below (T2.setTop (mkF m 12 #[.val (.long q1), .second, .val (.long q2), .second, .val (.long q3), .second, .val (.int p4), .val (.int p5), .val (.int p6), .val (.int (Int32.ofNat n1)), .unset, .unset, .unset, .unset] [(.int (own_wd p5))])) _
    rw [hw2]
    show Steps p.tables e below (T2.setTop (mkF m 12 #[.val (.long q1), .second, .val (.long q2), .second, .val (.long q3), .second, .val (.int p4), .val (.int p5), .val (.int p6), .val (.int (Int32.ofNat n1)), .unset, .unset, .unset, .unset] [(.int (Int32.ofNat n2))])) _
    refine XS.istore X2.here hx rfl (hb hby at_12) rfl (l' := #[.val (.long q1), .second, .val (.long q2), .second, .val (.long q3), .second, .val (.int p4), .val (.int p5), .val (.int p6), .val (.int (Int32.ofNat n1)), .val (.int (Int32.ofNat n2)), .unset, .unset, .unset]) rfl ?_
    show Steps p.tables e below (T2.setTop (mkF m 14 #[.val (.long q1), .second, .val (.long q2), .second, .val (.long q3), .second, .val (.int p4), .val (.int p5), .val (.int p6), .val (.int (Int32.ofNat n1)), .val (.int (Int32.ofNat n2)), .unset, .unset, .unset] [])) _
    refine XS.iload X2.here hx rfl (hb hby at_14) rfl ?_
    show Steps p.tables e below (T2.setTop (mkF m 16 #[.val (.long q1), .second, .val (.long q2), .second, .val (.long q3), .second, .val (.int p4), .val (.int p5), .val (.int p6), .val (.int (Int32.ofNat n1)), .val (.int (Int32.ofNat n2)), .unset, .unset, .unset] [(.int p6)])) _
    refine st3 _ ?_
    show Steps p.tables e below (T3.setTop (mkF m 19 #[.val (.long q1), .second, .val (.long q2), .second, .val (.long q3), .second, .val (.int p4), .val (.int p5), .val (.int p6), .val (.int (Int32.ofNat n1)), .val (.int (Int32.ofNat n2)), .unset, .unset, .unset] [(.int (own_wd p6))])) _
    rw [hw3]
    show Steps p.tables e below (T3.setTop (mkF m 19 #[.val (.long q1), .second, .val (.long q2), .second, .val (.long q3), .second, .val (.int p4), .val (.int p5), .val (.int p6), .val (.int (Int32.ofNat n1)), .val (.int (Int32.ofNat n2)), .unset, .unset, .unset] [(.int (Int32.ofNat n3))])) _
    refine XS.istore X3.here hx rfl (hb hby at_19) rfl (l' := #[.val (.long q1), .second, .val (.long q2), .second, .val (.long q3), .second, .val (.int p4), .val (.int p5), .val (.int p6), .val (.int (Int32.ofNat n1)), .val (.int (Int32.ofNat n2)), .val (.int (Int32.ofNat n3)), .unset, .unset]) rfl ?_
    show Steps p.tables e below (T3.setTop (mkF m 21 #[.val (.long q1), .second, .val (.long q2), .second, .val (.long q3), .second, .val (.int p4), .val (.int p5), .val (.int p6), .val (.int (Int32.ofNat n1)), .val (.int (Int32.ofNat n2)), .val (.int (Int32.ofNat n3)), .unset, .unset] [])) _
    refine st10 _ ?_
    show Steps p.tables e below (T10.setTop (mkF m 24 #[.val (.long q1), .second, .val (.long q2), .second, .val (.long q3), .second, .val (.int p4), .val (.int p5), .val (.int p6), .val (.int (Int32.ofNat n1)), .val (.int (Int32.ofNat n2)), .val (.int (Int32.ofNat n3)), .unset, .unset] [(.ref b10)])) _
    refine XS.dup X10.here hx rfl (hb hby at_24) rfl rfl ?_
    show Steps p.tables e below (T10.setTop (mkF m 25 #[.val (.long q1), .second, .val (.long q2), .second, .val (.long q3), .second, .val (.int p4), .val (.int p5), .val (.int p6), .val (.int (Int32.ofNat n1)), .val (.int (Int32.ofNat n2)), .val (.int (Int32.ofNat n3)), .unset, .unset] [(.ref b10), (.ref b10)])) _
    refine st11.trans ?_
    show Steps p.tables e below (T11.setTop (mkF m 28 #[.val (.long q1), .second, .val (.long q2), .second, .val (.long q3), .second, .val (.int p4), .val (.int p5), .val (.int p6), .val (.int (Int32.ofNat n1)), .val (.int (Int32.ofNat n2)), .val (.int (Int32.ofNat n3)), .unset, .unset] [(.ref b10)])) _
    refine XS.astore X11.here hx rfl (hb hby at_28) rfl rfl (l' := #[.val (.long q1), .second, .val (.long q2), .second, .val (.long q3), .second, .val (.int p4), .val (.int p5), .val (.int p6), .val (.int (Int32.ofNat n1)), .val (.int (Int32.ofNat n2)), .val (.int (Int32.ofNat n3)), .val (.ref b10), .unset]) rfl ?_
    show Steps p.tables e below (T11.setTop (mkF m 30 #[.val (.long q1), .second, .val (.long q2), .second, .val (.long q3), .second, .val (.int p4), .val (.int p5), .val (.int p6), .val (.int (Int32.ofNat n1)), .val (.int (Int32.ofNat n2)), .val (.int (Int32.ofNat n3)), .val (.ref b10), .unset] [])) _
    refine XS.aload X11.here hx rfl (hb hby at_30) rfl rfl ?_
    show Steps p.tables e below (T11.setTop (mkF m 32 #[.val (.long q1), .second, .val (.long q2), .second, .val (.long q3), .second, .val (.int p4), .val (.int p5), .val (.int p6), .val (.int (Int32.ofNat n1)), .val (.int (Int32.ofNat n2)), .val (.int (Int32.ofNat n3)), .val (.ref b10), .unset] [(.ref b10)])) _
    refine st12.trans ?_
    show Steps p.tables e below (T12.setTop (mkF m 35 #[.val (.long q1), .second, .val (.long q2), .second, .val (.long q3), .second, .val (.int p4), .val (.int p5), .val (.int p6), .val (.int (Int32.ofNat n1)), .val (.int (Int32.ofNat n2)), .val (.int (Int32.ofNat n3)), .val (.ref b10), .unset] [(.int (own_sz (Int64.ofNat (0))))])) _
    refine XS.ifNo X12.here hx rfl (hb hby at_35) rfl ((if0 _ _).trans (teq (by decide)).2) ?_
    show Steps p.tables e below (T12.setTop (mkF m 38 #[.val (.long q1), .second, .val (.long q2), .second, .val (.long q3), .second, .val (.int p4), .val (.int p5), .val (.int p6), .val (.int (Int32.ofNat n1)), .val (.int (Int32.ofNat n2)), .val (.int (Int32.ofNat n3)), .val (.ref b10), .unset] [])) _
    refine XS.iconst X12.here hx rfl (hb hby at_38) ?_
    show Steps p.tables e below (T12.setTop (mkF m 39 #[.val (.long q1), .second, .val (.long q2), .second, .val (.long q3), .second, .val (.int p4), .val (.int p5), .val (.int p6), .val (.int (Int32.ofNat n1)), .val (.int (Int32.ofNat n2)), .val (.int (Int32.ofNat n3)), .val (.ref b10), .unset] [(.int (1 : Int32))])) _
    refine XS.goto X12.here hx rfl (pc0 := 39) (pc' := 43) rfl (hb hby at_39) (by decide) (by decide) ?_
    show Steps p.tables e below (T12.setTop (mkF m 43 #[.val (.long q1), .second, .val (.long q2), .second, .val (.long q3), .second, .val (.int p4), .val (.int p5), .val (.int p6), .val (.int (Int32.ofNat n1)), .val (.int (Int32.ofNat n2)), .val (.int (Int32.ofNat n3)), .val (.ref b10), .unset] [(.int (1 : Int32))])) _
    refine XS.istore X12.here hx rfl (hb hby at_43) rfl (l' := #[.val (.long q1), .second, .val (.long q2), .second, .val (.long q3), .second, .val (.int p4), .val (.int p5), .val (.int p6), .val (.int (Int32.ofNat n1)), .val (.int (Int32.ofNat n2)), .val (.int (Int32.ofNat n3)), .val (.ref b10), .val (.int (1 : Int32))]) rfl ?_
    show Steps p.tables e below (T12.setTop (mkF m 45 #[.val (.long q1), .second, .val (.long q2), .second, .val (.long q3), .second, .val (.int p4), .val (.int p5), .val (.int p6), .val (.int (Int32.ofNat n1)), .val (.int (Int32.ofNat n2)), .val (.int (Int32.ofNat n3)), .val (.ref b10), .val (.int (1 : Int32))] [])) _
    refine XS.aload X12.here hx rfl (hb hby at_45) rfl rfl ?_
    show Steps p.tables e below (T12.setTop (mkF m 47 #[.val (.long q1), .second, .val (.long q2), .second, .val (.long q3), .second, .val (.int p4), .val (.int p5), .val (.int p6), .val (.int (Int32.ofNat n1)), .val (.int (Int32.ofNat n2)), .val (.int (Int32.ofNat n3)), .val (.ref b10), .val (.int (1 : Int32))] [(.ref b10)])) _
    refine XS.lloadN X12.here hx rfl (hb hby at_47) rfl ?_
    show Steps p.tables e below (T12.setTop (mkF m 48 #[.val (.long q1), .second, .val (.long q2), .second, .val (.long q3), .second, .val (.int p4), .val (.int p5), .val (.int p6), .val (.int (Int32.ofNat n1)), .val (.int (Int32.ofNat n2)), .val (.int (Int32.ofNat n3)), .val (.ref b10), .val (.int (1 : Int32))] [(.long q1), (.ref b10)])) _
    refine XS.iload X12.here hx rfl (hb hby at_48) rfl ?_
    show Steps p.tables e below (T12.setTop (mkF m 50 #[.val (.long q1), .second, .val (.long q2), .second, .val (.long q3), .second, .val (.int p4), .val (.int p5), .val (.int p6), .val (.int (Int32.ofNat n1)), .val (.int (Int32.ofNat n2)), .val (.int (Int32.ofNat n3)), .val (.ref b10), .val (.int (1 : Int32))] [(.int (Int32.ofNat n1)), (.long q1), (.ref b10)])) _
    refine st13.trans ?_
    show Steps p.tables e below (T13.setTop (mkF m 53 #[.val (.long q1), .second, .val (.long q2), .second, .val (.long q3), .second, .val (.int p4), .val (.int p5), .val (.int p6), .val (.int (Int32.ofNat n1)), .val (.int (Int32.ofNat n2)), .val (.int (Int32.ofNat n3)), .val (.ref b10), .val (.int (1 : Int32))] [])) _
    refine XS.iload X13.here hx rfl (hb hby at_53) rfl ?_
    show Steps p.tables e below (T13.setTop (mkF m 55 #[.val (.long q1), .second, .val (.long q2), .second, .val (.long q3), .second, .val (.int p4), .val (.int p5), .val (.int p6), .val (.int (Int32.ofNat n1)), .val (.int (Int32.ofNat n2)), .val (.int (Int32.ofNat n3)), .val (.ref b10), .val (.int (1 : Int32))] [(.int (1 : Int32))])) _
    refine XS.ifNo X13.here hx rfl (hb hby at_55) rfl ((if0 _ _).trans (feq (by decide)).1) ?_
    show Steps p.tables e below (T13.setTop (mkF m 58 #[.val (.long q1), .second, .val (.long q2), .second, .val (.long q3), .second, .val (.int p4), .val (.int p5), .val (.int p6), .val (.int (Int32.ofNat n1)), .val (.int (Int32.ofNat n2)), .val (.int (Int32.ofNat n3)), .val (.ref b10), .val (.int (1 : Int32))] [])) _
    refine XS.aload X13.here hx rfl (hb hby at_58) rfl rfl ?_
    show Steps p.tables e below (T13.setTop (mkF m 60 #[.val (.long q1), .second, .val (.long q2), .second, .val (.long q3), .second, .val (.int p4), .val (.int p5), .val (.int p6), .val (.int (Int32.ofNat n1)), .val (.int (Int32.ofNat n2)), .val (.int (Int32.ofNat n3)), .val (.ref b10), .val (.int (1 : Int32))] [(.ref b10)])) _
    refine st14.trans ?_
    show Steps p.tables e below (T14.setTop (mkF m 63 #[.val (.long q1), .second, .val (.long q2), .second, .val (.long q3), .second, .val (.int p4), .val (.int p5), .val (.int p6), .val (.int (Int32.ofNat n1)), .val (.int (Int32.ofNat n2)), .val (.int (Int32.ofNat n3)), .val (.ref b10), .val (.int (1 : Int32))] [(.int (own_sz (Int64.ofNat (0 + n1))))])) _
    refine XS.iload X14.here hx rfl (hb hby at_63) rfl ?_
    show Steps p.tables e below (T14.setTop (mkF m 65 #[.val (.long q1), .second, .val (.long q2), .second, .val (.long q3), .second, .val (.int p4), .val (.int p5), .val (.int p6), .val (.int (Int32.ofNat n1)), .val (.int (Int32.ofNat n2)), .val (.int (Int32.ofNat n3)), .val (.ref b10), .val (.int (1 : Int32))] [(.int (Int32.ofNat n1)), (.int (own_sz (Int64.ofNat (0 + n1))))])) _
    refine st15 _ ?_
    show Steps p.tables e below (T15.setTop (mkF m 68 #[.val (.long q1), .second, .val (.long q2), .second, .val (.long q3), .second, .val (.int p4), .val (.int p5), .val (.int p6), .val (.int (Int32.ofNat n1)), .val (.int (Int32.ofNat n2)), .val (.int (Int32.ofNat n3)), .val (.ref b10), .val (.int (1 : Int32))] [(.int (own_bf (Int32.ofNat n1))), (.int (own_sz (Int64.ofNat (0 + n1))))])) _
    refine XS.icmpNo X15.here hx rfl (hb hby at_68) rfl (teq s1).2 ?_
    show Steps p.tables e below (T15.setTop (mkF m 71 #[.val (.long q1), .second, .val (.long q2), .second, .val (.long q3), .second, .val (.int p4), .val (.int p5), .val (.int p6), .val (.int (Int32.ofNat n1)), .val (.int (Int32.ofNat n2)), .val (.int (Int32.ofNat n3)), .val (.ref b10), .val (.int (1 : Int32))] [])) _
    refine XS.iconst X15.here hx rfl (hb hby at_71) ?_
    show Steps p.tables e below (T15.setTop (mkF m 72 #[.val (.long q1), .second, .val (.long q2), .second, .val (.long q3), .second, .val (.int p4), .val (.int p5), .val (.int p6), .val (.int (Int32.ofNat n1)), .val (.int (Int32.ofNat n2)), .val (.int (Int32.ofNat n3)), .val (.ref b10), .val (.int (1 : Int32))] [(.int (1 : Int32))])) _
    refine XS.goto X15.here hx rfl (pc0 := 72) (pc' := 76) rfl (hb hby at_72) (by decide) (by decide) ?_
    show Steps p.tables e below (T15.setTop (mkF m 76 #[.val (.long q1), .second, .val (.long q2), .second, .val (.long q3), .second, .val (.int p4), .val (.int p5), .val (.int p6), .val (.int (Int32.ofNat n1)), .val (.int (Int32.ofNat n2)), .val (.int (Int32.ofNat n3)), .val (.ref b10), .val (.int (1 : Int32))] [(.int (1 : Int32))])) _
    refine XS.istore X15.here hx rfl (hb hby at_76) rfl (l' := #[.val (.long q1), .second, .val (.long q2), .second, .val (.long q3), .second, .val (.int p4), .val (.int p5), .val (.int p6), .val (.int (Int32.ofNat n1)), .val (.int (Int32.ofNat n2)), .val (.int (Int32.ofNat n3)), .val (.ref b10), .val (.int (1 : Int32))]) rfl ?_
    show Steps p.tables e below (T15.setTop (mkF m 78 #[.val (.long q1), .second, .val (.long q2), .second, .val (.long q3), .second, .val (.int p4), .val (.int p5), .val (.int p6), .val (.int (Int32.ofNat n1)), .val (.int (Int32.ofNat n2)), .val (.int (Int32.ofNat n3)), .val (.ref b10), .val (.int (1 : Int32))] [])) _
    refine XS.aload X15.here hx rfl (hb hby at_78) rfl rfl ?_
    show Steps p.tables e below (T15.setTop (mkF m 80 #[.val (.long q1), .second, .val (.long q2), .second, .val (.long q3), .second, .val (.int p4), .val (.int p5), .val (.int p6), .val (.int (Int32.ofNat n1)), .val (.int (Int32.ofNat n2)), .val (.int (Int32.ofNat n3)), .val (.ref b10), .val (.int (1 : Int32))] [(.ref b10)])) _
    refine XS.lloadN X15.here hx rfl (hb hby at_80) rfl ?_
    show Steps p.tables e below (T15.setTop (mkF m 81 #[.val (.long q1), .second, .val (.long q2), .second, .val (.long q3), .second, .val (.int p4), .val (.int p5), .val (.int p6), .val (.int (Int32.ofNat n1)), .val (.int (Int32.ofNat n2)), .val (.int (Int32.ofNat n3)), .val (.ref b10), .val (.int (1 : Int32))] [(.long q2), (.ref b10)])) _
    refine XS.iload X15.here hx rfl (hb hby at_81) rfl ?_
    show Steps p.tables e below (T15.setTop (mkF m 83 #[.val (.long q1), .second, .val (.long q2), .second, .val (.long q3), .second, .val (.int p4), .val (.int p5), .val (.int p6), .val (.int (Int32.ofNat n1)), .val (.int (Int32.ofNat n2)), .val (.int (Int32.ofNat n3)), .val (.ref b10), .val (.int (1 : Int32))] [(.int (Int32.ofNat n2)), (.long q2), (.ref b10)])) _
    refine st16.trans ?_
    show Steps p.tables e below (T16.setTop (mkF m 86 #[.val (.long q1), .second, .val (.long q2), .second, .val (.long q3), .second, .val (.int p4), .val (.int p5), .val (.int p6), .val (.int (Int32.ofNat n1)), .val (.int (Int32.ofNat n2)), .val (.int (Int32.ofNat n3)), .val (.ref b10), .val (.int (1 : Int32))] [])) _
    refine XS.iload X16.here hx rfl (hb hby at_86) rfl ?_
    show Steps p.tables e below (T16.setTop (mkF m 88 #[.val (.long q1), .second, .val (.long q2), .second, .val (.long q3), .second, .val (.int p4), .val (.int p5), .val (.int p6), .val (.int (Int32.ofNat n1)), .val (.int (Int32.ofNat n2)), .val (.int (Int32.ofNat n3)), .val (.ref b10), .val (.int (1 : Int32))] [(.int (1 : Int32))])) _
    refine XS.ifNo X16.here hx rfl (hb hby at_88) rfl ((if0 _ _).trans (feq (by decide)).1) ?_
    show Steps p.tables e below (T16.setTop (mkF m 91 #[.val (.long q1), .second, .val (.long q2), .second, .val (.long q3), .second, .val (.int p4), .val (.int p5), .val (.int p6), .val (.int (Int32.ofNat n1)), .val (.int (Int32.ofNat n2)), .val (.int (Int32.ofNat n3)), .val (.ref b10), .val (.int (1 : Int32))] [])) _
    refine XS.aload X16.here hx rfl (hb hby at_91) rfl rfl ?_
    show Steps p.tables e below (T16.setTop (mkF m 93 #[.val (.long q1), .second, .val (.long q2), .second, .val (.long q3), .second, .val (.int p4), .val (.int p5), .val (.int p6), .val (.int (Int32.ofNat n1)), .val (.int (Int32.ofNat n2)), .val (.int (Int32.ofNat n3)), .val (.ref b10), .val (.int (1 : Int32))] [(.ref b10)])) _
    refine st17.trans ?_
    show Steps p.tables e below (T17.setTop (mkF m 96 #[.val (.long q1), .second, .val (.long q2), .second, .val (.long q3), .second, .val (.int p4), .val (.int p5), .val (.int p6), .val (.int (Int32.ofNat n1)), .val (.int (Int32.ofNat n2)), .val (.int (Int32.ofNat n3)), .val (.ref b10), .val (.int (1 : Int32))] [(.int (own_sz (Int64.ofNat (0 + n1 + n2))))])) _
    refine XS.iload X17.here hx rfl (hb hby at_96) rfl ?_
    show Steps p.tables e below (T17.setTop (mkF m 98 #[.val (.long q1), .second, .val (.long q2), .second, .val (.long q3), .second, .val (.int p4), .val (.int p5), .val (.int p6), .val (.int (Int32.ofNat n1)), .val (.int (Int32.ofNat n2)), .val (.int (Int32.ofNat n3)), .val (.ref b10), .val (.int (1 : Int32))] [(.int (Int32.ofNat n1)), (.int (own_sz (Int64.ofNat (0 + n1 + n2))))])) _
    refine XS.iload X17.here hx rfl (hb hby at_98) rfl ?_
    show Steps p.tables e below (T17.setTop (mkF m 100 #[.val (.long q1), .second, .val (.long q2), .second, .val (.long q3), .second, .val (.int p4), .val (.int p5), .val (.int p6), .val (.int (Int32.ofNat n1)), .val (.int (Int32.ofNat n2)), .val (.int (Int32.ofNat n3)), .val (.ref b10), .val (.int (1 : Int32))] [(.int (Int32.ofNat n2)), (.int (Int32.ofNat n1)), (.int (own_sz (Int64.ofNat (0 + n1 + n2))))])) _
    refine XS.iadd X17.here hx rfl (hb hby at_100) rfl ?_
    show Steps p.tables e below (T17.setTop (mkF m 101 #[.val (.long q1), .second, .val (.long q2), .second, .val (.long q3), .second, .val (.int p4), .val (.int p5), .val (.int p6), .val (.int (Int32.ofNat n1)), .val (.int (Int32.ofNat n2)), .val (.int (Int32.ofNat n3)), .val (.ref b10), .val (.int (1 : Int32))] [(.int ((Int32.ofNat n1) + (Int32.ofNat n2))), (.int (own_sz (Int64.ofNat (0 + n1 + n2))))])) _
    rw [own_a32]
    show Steps p.tables e below (T17.setTop (mkF m 101 #[.val (.long q1), .second, .val (.long q2), .second, .val (.long q3), .second, .val (.int p4), .val (.int p5), .val (.int p6), .val (.int (Int32.ofNat n1)), .val (.int (Int32.ofNat n2)), .val (.int (Int32.ofNat n3)), .val (.ref b10), .val (.int (1 : Int32))] [(.int (Int32.ofNat (n1 + n2))), (.int (own_sz (Int64.ofNat (0 + n1 + n2))))])) _
    refine st18 _ ?_
    show Steps p.tables e below (T18.setTop (mkF m 104 #[.val (.long q1), .second, .val (.long q2), .second, .val (.long q3), .second, .val (.int p4), .val (.int p5), .val (.int p6), .val (.int (Int32.ofNat n1)), .val (.int (Int32.ofNat n2)), .val (.int (Int32.ofNat n3)), .val (.ref b10), .val (.int (1 : Int32))] [(.int (own_bf (Int32.ofNat (n1 + n2)))), (.int (own_sz (Int64.ofNat (0 + n1 + n2))))])) _
    refine XS.icmpNo X18.here hx rfl (hb hby at_104) rfl (teq s2).2 ?_
    show Steps p.tables e below (T18.setTop (mkF m 107 #[.val (.long q1), .second, .val (.long q2), .second, .val (.long q3), .second, .val (.int p4), .val (.int p5), .val (.int p6), .val (.int (Int32.ofNat n1)), .val (.int (Int32.ofNat n2)), .val (.int (Int32.ofNat n3)), .val (.ref b10), .val (.int (1 : Int32))] [])) _
    refine XS.iconst X18.here hx rfl (hb hby at_107) ?_
    show Steps p.tables e below (T18.setTop (mkF m 108 #[.val (.long q1), .second, .val (.long q2), .second, .val (.long q3), .second, .val (.int p4), .val (.int p5), .val (.int p6), .val (.int (Int32.ofNat n1)), .val (.int (Int32.ofNat n2)), .val (.int (Int32.ofNat n3)), .val (.ref b10), .val (.int (1 : Int32))] [(.int (1 : Int32))])) _
    refine XS.goto X18.here hx rfl (pc0 := 108) (pc' := 112) rfl (hb hby at_108) (by decide) (by decide) ?_
    show Steps p.tables e below (T18.setTop (mkF m 112 #[.val (.long q1), .second, .val (.long q2), .second, .val (.long q3), .second, .val (.int p4), .val (.int p5), .val (.int p6), .val (.int (Int32.ofNat n1)), .val (.int (Int32.ofNat n2)), .val (.int (Int32.ofNat n3)), .val (.ref b10), .val (.int (1 : Int32))] [(.int (1 : Int32))])) _
    refine XS.istore X18.here hx rfl (hb hby at_112) rfl (l' := #[.val (.long q1), .second, .val (.long q2), .second, .val (.long q3), .second, .val (.int p4), .val (.int p5), .val (.int p6), .val (.int (Int32.ofNat n1)), .val (.int (Int32.ofNat n2)), .val (.int (Int32.ofNat n3)), .val (.ref b10), .val (.int (1 : Int32))]) rfl ?_
    show Steps p.tables e below (T18.setTop (mkF m 114 #[.val (.long q1), .second, .val (.long q2), .second, .val (.long q3), .second, .val (.int p4), .val (.int p5), .val (.int p6), .val (.int (Int32.ofNat n1)), .val (.int (Int32.ofNat n2)), .val (.int (Int32.ofNat n3)), .val (.ref b10), .val (.int (1 : Int32))] [])) _
    refine XS.aload X18.here hx rfl (hb hby at_114) rfl rfl ?_
    show Steps p.tables e below (T18.setTop (mkF m 116 #[.val (.long q1), .second, .val (.long q2), .second, .val (.long q3), .second, .val (.int p4), .val (.int p5), .val (.int p6), .val (.int (Int32.ofNat n1)), .val (.int (Int32.ofNat n2)), .val (.int (Int32.ofNat n3)), .val (.ref b10), .val (.int (1 : Int32))] [(.ref b10)])) _
    refine XS.lload X18.here hx rfl (hb hby at_116) rfl ?_
    show Steps p.tables e below (T18.setTop (mkF m 118 #[.val (.long q1), .second, .val (.long q2), .second, .val (.long q3), .second, .val (.int p4), .val (.int p5), .val (.int p6), .val (.int (Int32.ofNat n1)), .val (.int (Int32.ofNat n2)), .val (.int (Int32.ofNat n3)), .val (.ref b10), .val (.int (1 : Int32))] [(.long q3), (.ref b10)])) _
    refine XS.iload X18.here hx rfl (hb hby at_118) rfl ?_
    show Steps p.tables e below (T18.setTop (mkF m 120 #[.val (.long q1), .second, .val (.long q2), .second, .val (.long q3), .second, .val (.int p4), .val (.int p5), .val (.int p6), .val (.int (Int32.ofNat n1)), .val (.int (Int32.ofNat n2)), .val (.int (Int32.ofNat n3)), .val (.ref b10), .val (.int (1 : Int32))] [(.int (Int32.ofNat n3)), (.long q3), (.ref b10)])) _
    refine st19.trans ?_
    show Steps p.tables e below (T19.setTop (mkF m 123 #[.val (.long q1), .second, .val (.long q2), .second, .val (.long q3), .second, .val (.int p4), .val (.int p5), .val (.int p6), .val (.int (Int32.ofNat n1)), .val (.int (Int32.ofNat n2)), .val (.int (Int32.ofNat n3)), .val (.ref b10), .val (.int (1 : Int32))] [])) _
    refine XS.iload X19.here hx rfl (hb hby at_123) rfl ?_
    show Steps p.tables e below (T19.setTop (mkF m 125 #[.val (.long q1), .second, .val (.long q2), .second, .val (.long q3), .second, .val (.int p4), .val (.int p5), .val (.int p6), .val (.int (Int32.ofNat n1)), .val (.int (Int32.ofNat n2)), .val (.int (Int32.ofNat n3)), .val (.ref b10), .val (.int (1 : Int32))] [(.int (1 : Int32))])) _
    refine XS.ifNo X19.here hx rfl (hb hby at_125) rfl ((if0 _ _).trans (feq (by decide)).1) ?_
    show Steps p.tables e below (T19.setTop (mkF m 128 #[.val (.long q1), .second, .val (.long q2), .second, .val (.long q3), .second, .val (.int p4), .val (.int p5), .val (.int p6), .val (.int (Int32.ofNat n1)), .val (.int (Int32.ofNat n2)), .val (.int (Int32.ofNat n3)), .val (.ref b10), .val (.int (1 : Int32))] [])) _
    refine XS.aload X19.here hx rfl (hb hby at_128) rfl rfl ?_
    show Steps p.tables e below (T19.setTop (mkF m 130 #[.val (.long q1), .second, .val (.long q2), .second, .val (.long q3), .second, .val (.int p4), .val (.int p5), .val (.int p6), .val (.int (Int32.ofNat n1)), .val (.int (Int32.ofNat n2)), .val (.int (Int32.ofNat n3)), .val (.ref b10), .val (.int (1 : Int32))] [(.ref b10)])) _
    refine st20.trans ?_
    show Steps p.tables e below (T20.setTop (mkF m 133 #[.val (.long q1), .second, .val (.long q2), .second, .val (.long q3), .second, .val (.int p4), .val (.int p5), .val (.int p6), .val (.int (Int32.ofNat n1)), .val (.int (Int32.ofNat n2)), .val (.int (Int32.ofNat n3)), .val (.ref b10), .val (.int (1 : Int32))] [(.int (own_sz (Int64.ofNat (0 + n1 + n2 + n3))))])) _
    refine XS.iload X20.here hx rfl (hb hby at_133) rfl ?_
    show Steps p.tables e below (T20.setTop (mkF m 135 #[.val (.long q1), .second, .val (.long q2), .second, .val (.long q3), .second, .val (.int p4), .val (.int p5), .val (.int p6), .val (.int (Int32.ofNat n1)), .val (.int (Int32.ofNat n2)), .val (.int (Int32.ofNat n3)), .val (.ref b10), .val (.int (1 : Int32))] [(.int (Int32.ofNat n1)), (.int (own_sz (Int64.ofNat (0 + n1 + n2 + n3))))])) _
    refine XS.iload X20.here hx rfl (hb hby at_135) rfl ?_
    show Steps p.tables e below (T20.setTop (mkF m 137 #[.val (.long q1), .second, .val (.long q2), .second, .val (.long q3), .second, .val (.int p4), .val (.int p5), .val (.int p6), .val (.int (Int32.ofNat n1)), .val (.int (Int32.ofNat n2)), .val (.int (Int32.ofNat n3)), .val (.ref b10), .val (.int (1 : Int32))] [(.int (Int32.ofNat n2)), (.int (Int32.ofNat n1)), (.int (own_sz (Int64.ofNat (0 + n1 + n2 + n3))))])) _
    refine XS.iadd X20.here hx rfl (hb hby at_137) rfl ?_
    show Steps p.tables e below (T20.setTop (mkF m 138 #[.val (.long q1), .second, .val (.long q2), .second, .val (.long q3), .second, .val (.int p4), .val (.int p5), .val (.int p6), .val (.int (Int32.ofNat n1)), .val (.int (Int32.ofNat n2)), .val (.int (Int32.ofNat n3)), .val (.ref b10), .val (.int (1 : Int32))] [(.int ((Int32.ofNat n1) + (Int32.ofNat n2))), (.int (own_sz (Int64.ofNat (0 + n1 + n2 + n3))))])) _
    rw [own_a32]
    show Steps p.tables e below (T20.setTop (mkF m 138 #[.val (.long q1), .second, .val (.long q2), .second, .val (.long q3), .second, .val (.int p4), .val (.int p5), .val (.int p6), .val (.int (Int32.ofNat n1)), .val (.int (Int32.ofNat n2)), .val (.int (Int32.ofNat n3)), .val (.ref b10), .val (.int (1 : Int32))] [(.int (Int32.ofNat (n1 + n2))), (.int (own_sz (Int64.ofNat (0 + n1 + n2 + n3))))])) _
    refine XS.iload X20.here hx rfl (hb hby at_138) rfl ?_
    show Steps p.tables e below (T20.setTop (mkF m 140 #[.val (.long q1), .second, .val (.long q2), .second, .val (.long q3), .second, .val (.int p4), .val (.int p5), .val (.int p6), .val (.int (Int32.ofNat n1)), .val (.int (Int32.ofNat n2)), .val (.int (Int32.ofNat n3)), .val (.ref b10), .val (.int (1 : Int32))] [(.int (Int32.ofNat n3)), (.int (Int32.ofNat (n1 + n2))), (.int (own_sz (Int64.ofNat (0 + n1 + n2 + n3))))])) _
    refine XS.iadd X20.here hx rfl (hb hby at_140) rfl ?_
    show Steps p.tables e below (T20.setTop (mkF m 141 #[.val (.long q1), .second, .val (.long q2), .second, .val (.long q3), .second, .val (.int p4), .val (.int p5), .val (.int p6), .val (.int (Int32.ofNat n1)), .val (.int (Int32.ofNat n2)), .val (.int (Int32.ofNat n3)), .val (.ref b10), .val (.int (1 : Int32))] [(.int ((Int32.ofNat (n1 + n2)) + (Int32.ofNat n3))), (.int (own_sz (Int64.ofNat (0 + n1 + n2 + n3))))])) _
    rw [own_a32]
    show Steps p.tables e below (T20.setTop (mkF m 141 #[.val (.long q1), .second, .val (.long q2), .second, .val (.long q3), .second, .val (.int p4), .val (.int p5), .val (.int p6), .val (.int (Int32.ofNat n1)), .val (.int (Int32.ofNat n2)), .val (.int (Int32.ofNat n3)), .val (.ref b10), .val (.int (1 : Int32))] [(.int (Int32.ofNat (n1 + n2 + n3))), (.int (own_sz (Int64.ofNat (0 + n1 + n2 + n3))))])) _
    refine st21 _ ?_
    show Steps p.tables e below (T21.setTop (mkF m 144 #[.val (.long q1), .second, .val (.long q2), .second, .val (.long q3), .second, .val (.int p4), .val (.int p5), .val (.int p6), .val (.int (Int32.ofNat n1)), .val (.int (Int32.ofNat n2)), .val (.int (Int32.ofNat n3)), .val (.ref b10), .val (.int (1 : Int32))] [(.int (own_bf (Int32.ofNat (n1 + n2 + n3)))), (.int (own_sz (Int64.ofNat (0 + n1 + n2 + n3))))])) _
    refine XS.icmpNo X21.here hx rfl (hb hby at_144) rfl (teq s3).2 ?_
    show Steps p.tables e below (T21.setTop (mkF m 147 #[.val (.long q1), .second, .val (.long q2), .second, .val (.long q3), .second, .val (.int p4), .val (.int p5), .val (.int p6), .val (.int (Int32.ofNat n1)), .val (.int (Int32.ofNat n2)), .val (.int (Int32.ofNat n3)), .val (.ref b10), .val (.int (1 : Int32))] [])) _
    refine XS.iconst X21.here hx rfl (hb hby at_147) ?_
    show Steps p.tables e below (T21.setTop (mkF m 148 #[.val (.long q1), .second, .val (.long q2), .second, .val (.long q3), .second, .val (.int p4), .val (.int p5), .val (.int p6), .val (.int (Int32.ofNat n1)), .val (.int (Int32.ofNat n2)), .val (.int (Int32.ofNat n3)), .val (.ref b10), .val (.int (1 : Int32))] [(.int (1 : Int32))])) _
    refine XS.goto X21.here hx rfl (pc0 := 148) (pc' := 152) rfl (hb hby at_148) (by decide) (by decide) ?_
    show Steps p.tables e below (T21.setTop (mkF m 152 #[.val (.long q1), .second, .val (.long q2), .second, .val (.long q3), .second, .val (.int p4), .val (.int p5), .val (.int p6), .val (.int (Int32.ofNat n1)), .val (.int (Int32.ofNat n2)), .val (.int (Int32.ofNat n3)), .val (.ref b10), .val (.int (1 : Int32))] [(.int (1 : Int32))])) _
    refine XS.istore X21.here hx rfl (hb hby at_152) rfl (l' := #[.val (.long q1), .second, .val (.long q2), .second, .val (.long q3), .second, .val (.int p4), .val (.int p5), .val (.int p6), .val (.int (Int32.ofNat n1)), .val (.int (Int32.ofNat n2)), .val (.int (Int32.ofNat n3)), .val (.ref b10), .val (.int (1 : Int32))]) rfl ?_
    show Steps p.tables e below (T21.setTop (mkF m 154 #[.val (.long q1), .second, .val (.long q2), .second, .val (.long q3), .second, .val (.int p4), .val (.int p5), .val (.int p6), .val (.int (Int32.ofNat n1)), .val (.int (Int32.ofNat n2)), .val (.int (Int32.ofNat n3)), .val (.ref b10), .val (.int (1 : Int32))] [])) _
    refine XS.iload X21.here hx rfl (hb hby at_154) rfl ?_
    show Steps p.tables e below (T21.setTop (mkF m 156 #[.val (.long q1), .second, .val (.long q2), .second, .val (.long q3), .second, .val (.int p4), .val (.int p5), .val (.int p6), .val (.int (Int32.ofNat n1)), .val (.int (Int32.ofNat n2)), .val (.int (Int32.ofNat n3)), .val (.ref b10), .val (.int (1 : Int32))] [(.int (1 : Int32))])) _
    exact retN X21 hx (t := .boolean) Bd.returns (by simp) (hb hby at_156) hr
  · show Q0 Z q1 q2 q3 p4 p5 p6 h0 n0 _ T21.heap _
    exact ⟨rfl, N21⟩
set_option maxRecDepth 65536 in
set_option maxHeartbeats 40000000 in
theorem comes_1 {Post : Tables → Env → Array Value → State → Outcome → State → Prop} (hpost : ∀ tb e args s v u, (limb_1_1.after args s (.returned v) u = true ∧ limb_1_2.after args s (.returned v) u = true ∧ True) → FrameEnd s (.returned v) u (Jvm.fieldLocs frame_1_writes args s ++ Jvm.arrayLocs frame_1_arrays args s ++ Jvm.staticLocs frame_1_statics s) 16 256 → Post tb e args s (.returned v) u) :
    ArmFor flags0 classFile x code maxLocals ret World_1 tables_1 room_1 Calls_1 rest_1 Pre_1 Post := by
  intro l hfl _ _ p e ha hc hk s m args below hf hA hF happ hP
  obtain ⟨hcalls, hrest, hpre⟩ := hP
  obtain ⟨-, -, -, hnamed, -, -, -, hat⟩ := (Spec.applies_iff hf).mp happ
  obtain ⟨hg, hn⟩ := and_e (Cond.before_iff.mp (show (Jvm.Cond.and given_1 narrow_1).before args s = true from hpre))
  obtain ⟨gc, q0⟩ := and_e hg
  obtain ⟨g0, q1⟩ := and_e q0
  obtain ⟨g1, q2⟩ := and_e q1
  obtain ⟨g2, q3⟩ := and_e q2
  obtain ⟨g3, q4⟩ := and_e q3
  obtain ⟨g4, q5⟩ := and_e q4
  have g5 := q5
  obtain ⟨w0, w1, w2, w3, w4, w5, rfl⟩ : ∃ w0 w1 w2 w3 w4 w5 : Value, args = #[w0, w1, w2, w3, w4, w5] := by
    have hs : args.size = 6 := by simpa [Cond.value, given_1] using gc
    obtain ⟨L⟩ := args
    match L, hs with
    | [w0, w1, w2, w3, w4, w5], _ => exact ⟨w0, w1, w2, w3, w4, w5, rfl⟩
  have hw := fun d (hd : d ∈ tables_1) => atoms_spec (ws := Jvm.Cond.code x code maxLocals ret :: tables_1) hat d (List.mem_cons_of_mem _ hd)
  obtain ⟨i0, ei0⟩ := isL_v g0
  obtain rfl : w0 = (.long i0) := Option.some.inj ei0
  obtain ⟨i1, ei1⟩ := isL_v g1
  obtain rfl : w1 = (.long i1) := Option.some.inj ei1
  obtain ⟨i2, ei2⟩ := isL_v g2
  obtain rfl : w2 = (.long i2) := Option.some.inj ei2
  obtain ⟨i3, ei3⟩ := is_v g3
  obtain rfl : w3 = (.int i3) := Option.some.inj ei3
  obtain ⟨i4, ei4⟩ := is_v g4
  obtain rfl : w4 = (.int i4) := Option.some.inj ei4
  obtain ⟨i5, ei5⟩ := is_v g5
  obtain rfl : w5 = (.int i5) := Option.some.inj ei5
  obtain ⟨n, o, h1, h2, h3, _, L, rfl, ⟨rfl, N⟩, hq⟩ := rm0 l s _ hw tables_1 i0 i1 i2 i3 i4 i5 s.heap s.heap.size (Nat.le_refl _) p e ha hc hk s m _ below hf ((Spec.applies_iff_loose hf).mp happ).1 ⟨rfl, State.Warmed39.refl s, rfl⟩ trivial
  refine ⟨n, _, h1, h2, h3, hpost _ _ _ _ _ _ ⟨Cond.after_iff.mpr rfl, Cond.after_iff.mpr (eq_i res_at (Term.int_eval (1)) rfl), trivial⟩ ⟨hq.1, hq.2.1, (hq.2.2.sift fun y hy => Or.inr (N y hy)).mono (by decide) (by decide)⟩⟩
theorem main_1_1 : Claimed_1_1 := comes_1 fun _ _ _ _ _ _ h hF => ⟨h.1, hF⟩
theorem main_1_2 : Claimed_1_2 := comes_1 fun _ _ _ _ _ _ h hF => ⟨h.2.1, hF⟩
end Jvm.Pilot.@@N@@
namespace Jvm.Pilot.@@N@@
open Jvm Jvm.ClassFile Sem Op Lib Jvm.Free Jvm.Stand Jvm.Pilot.@@N@@.Jvm.D
/-! MADE BY PROGRAM (witnessworld.py) out of the Statement's table words and the real class files: 10 classes; the members and pool entries that the words name. The judged class is class 1, her method 3. -/
namespace start1
open Jvm.ClassFile
def u (s : String) : CpInfo := .utf8 (stringToUtf16 s)
/-- a pool by its gaps: so many unusable entries, then the entry; so many at the end -/
def gap : Nat → List CpInfo → List CpInfo
  | 0, r => r
  | n + 1, r => .unusable :: gap n r
def poolList (es : List (Nat × CpInfo)) (last : Nat) : List CpInfo := es.foldr (fun e r => gap e.1 (e.2 :: r)) (gap last [])
def pool (es : List (Nat × CpInfo)) (last : Nat) : Array CpInfo := ⟨poolList es last⟩
def fileOf (pool : Array CpInfo) (this : Nat) (attrs : Array Attribute := #[]) (ms : Array MethodInfo := #[]) (fl : Nat := 33) (sup : Nat := 0) (ifs : Array Nat := #[]) (fds : Array FieldInfo := #[]) : ClassFile where
  minorVersion := 0
  majorVersion := 65
  constantPool := pool
  accessFlags := fl
  thisClass := this
  superClass := sup
  interfaces := ifs
  fields := fds
  methods := ms
  attributes := attrs
def plain (name : String) (sup : Option ClassId) : Class where
  name := name
  kind := .ordinary
  loader := none
  accessFlags := 33
  super := sup
  interfaces := #[]
  cf := none
  fields := #[]
  methods := #[]
  instanceTypes := #[]
  staticTypes := #[]
  resolved := #[]
  callSites := []
  init := .initialized
  statics := none
  mirror := none

def pool0 : Array CpInfo := pool [(5, u "<init>"), (0, u "()V"), (1, .class_ 10), (1, u "java/lang/Object")] 113

def k0c0 : Code := { maxStack := 0, maxLocals := 1, code := object_method_1_code, exceptionTable := #[], attributes := #[] }
def k0m0 : Method := { name := "<init>", desc := "()V", sig := { parameters := [], returnType := none }, accessFlags := 1, code := some k0c0 }
/-- java/lang/Object -/
def k0 : Class := { plain "java/lang/Object" none with
  accessFlags := 33
  interfaces := #[]
  cf := some (fileOf pool0 8 #[] #[{ accessFlags := 1, nameIndex := 5, descriptorIndex := 6, attributes := #[] }] 33 0 #[] #[])
  fields := #[]
  methods := #[k0m0]
  instanceTypes := #[]
  staticTypes := #[]
  resolved := Array.replicate 124 none
  statics := none }

def pool1 : Array CpInfo := pool [(2, .class_ 4), (0, .nameAndType 5 6), (0, u "java/lang/Object"), (0, u "<init>"), (0, u "()V"), (0, .integer 2147483647), (0, .methodref 9 10), (0, .class_ 11), (0, .nameAndType 12 13), (0, u "com/example/beaconry/beaconry/archive/WriterSizePinLaw"), (0, u "width"), (0, u "(I)I"), (0, .class_ 15), (0, u "com/example/beaconry/beaconry/archive/Bits$Writer"), (0, .methodref 14 3), (0, .methodref 14 18), (0, .nameAndType 19 20), (0, u "size"), (0, u "()I"), (0, .methodref 14 22), (0, .nameAndType 23 24), (0, u "write"), (0, u "(JI)V"), (0, .methodref 9 26), (0, .nameAndType 27 13), (0, u "bytesFor"), (2, u "law"), (0, u "(JJJIII)Z")] 7

def k1m0 : Method := { name := "<init>", desc := "()V", sig := { parameters := [], returnType := none }, accessFlags := 2, code := none }
def k1c1 : Code := { maxStack := 2, maxLocals := 1, code := method_2_code, exceptionTable := #[], attributes := #[] }
def k1m1 : Method := { name := "width", desc := "(I)I", sig := { parameters := [.int], returnType := some .int }, accessFlags := 10, code := some k1c1 }
def k1c2 : Code := { maxStack := 2, maxLocals := 1, code := method_3_code, exceptionTable := #[], attributes := #[] }
def k1m2 : Method := { name := "bytesFor", desc := "(I)I", sig := { parameters := [.int], returnType := some .int }, accessFlags := 10, code := some k1c2 }
def k1c3 : Code := { maxStack := 4, maxLocals := 14, code := code, exceptionTable := #[], attributes := #[] }
def k1m3 : Method := { name := "law", desc := "(JJJIII)Z", sig := { parameters := [.long, .long, .long, .int, .int, .int], returnType := some .boolean }, accessFlags := 9, code := some k1c3 }
/-- com/example/beaconry/beaconry/archive/WriterSizePinLaw -/
def k1 : Class := { plain "com/example/beaconry/beaconry/archive/WriterSizePinLaw" (some 0) with
  accessFlags := 49
  interfaces := #[]
  cf := some (fileOf pool1 9 #[] #[{ accessFlags := 2, nameIndex := 5, descriptorIndex := 6, attributes := #[] }, { accessFlags := 10, nameIndex := 12, descriptorIndex := 13, attributes := #[] }, { accessFlags := 10, nameIndex := 27, descriptorIndex := 13, attributes := #[] }, { accessFlags := 9, nameIndex := 30, descriptorIndex := 31, attributes := #[] }] 49 2 #[] #[])
  fields := #[]
  methods := #[k1m0, k1m1, k1m2, k1m3]
  instanceTypes := #[]
  staticTypes := #[]
  resolved := Array.replicate 39 none
  statics := none }

def pool2 : Array CpInfo := pool [(1, .class_ 2), (0, u "com/example/beaconry/beaconry/archive/Bits"), (0, .methodref 4 5), (0, .class_ 6), (0, .nameAndType 7 8), (0, u "java/lang/Object"), (0, u "<init>"), (0, u "()V"), (0, .fieldref 10 11), (0, .class_ 12), (0, .nameAndType 13 14), (0, u "com/example/beaconry/beaconry/archive/Bits$Writer"), (0, u "bytes"), (0, u "[B"), (0, .fieldref 10 16), (0, .nameAndType 17 18), (0, u "count"), (0, u "J"), (6, .long 7), (1, .methodref 28 29), (0, .class_ 30), (0, .nameAndType 31 32), (0, u "java/lang/Math"), (0, u "min"), (0, u "(II)I"), (2, u "write"), (0, u "(JI)V"), (16, u "size"), (0, u "()I")] 13

def k2c0 : Code := { maxStack := 2, maxLocals := 1, code := prog_14_method_1_code, exceptionTable := #[], attributes := #[] }
def k2m0 : Method := { name := "<init>", desc := "()V", sig := { parameters := [], returnType := none }, accessFlags := 0, code := some k2c0 }
def k2c1 : Code := { maxStack := 6, maxLocals := 9, code := prog_14_method_2_code, exceptionTable := #[], attributes := #[] }
def k2m1 : Method := { name := "write", desc := "(JI)V", sig := { parameters := [.long, .int], returnType := none }, accessFlags := 0, code := some k2c1 }
def k2c2 : Code := { maxStack := 4, maxLocals := 1, code := prog_14_method_6_code, exceptionTable := #[], attributes := #[] }
def k2m2 : Method := { name := "size", desc := "()I", sig := { parameters := [], returnType := some .int }, accessFlags := 0, code := some k2c2 }
/-- com/example/beaconry/beaconry/archive/Bits$Writer -/
def k2 : Class := { plain "com/example/beaconry/beaconry/archive/Bits$Writer" (some 0) with
  accessFlags := 48
  interfaces := #[]
  cf := some (fileOf pool2 10 #[.nestHost 1] #[{ accessFlags := 0, nameIndex := 7, descriptorIndex := 8, attributes := #[] }, { accessFlags := 0, nameIndex := 35, descriptorIndex := 36, attributes := #[] }, { accessFlags := 0, nameIndex := 53, descriptorIndex := 54, attributes := #[] }] 48 4 #[] #[{ accessFlags := 2, nameIndex := 13, descriptorIndex := 14, attributes := #[] }, { accessFlags := 2, nameIndex := 17, descriptorIndex := 18, attributes := #[] }])
  fields := #[{ name := "bytes", type := (.array .byte), accessFlags := 2, slot := 0, constantValue := 0 }, { name := "count", type := .long, accessFlags := 2, slot := 1, constantValue := 0 }]
  methods := #[k2m0, k2m1, k2m2]
  instanceTypes := #[(.array .byte), .long]
  staticTypes := #[]
  resolved := Array.replicate 68 none
  statics := none }

def pool3 : Array CpInfo := pool [(1, .class_ 2), (0, u "java/lang/Math"), (1, .class_ 6), (1, u "java/lang/Object"), (0, u "<init>"), (0, u "()V"), (89, .class_ 100), (1, u "java/lang/Math$RandomNumberGeneratorHolder"), (71, u "negativeZeroFloatBits"), (0, u "J"), (2, u "negativeZeroDoubleBits"), (24, u "min"), (43, u "$assertionsDisabled"), (0, u "Z"), (88, u "(II)I"), (2, u "twoToTheDoubleScaleDown"), (0, u "D"), (4, u "twoToTheDoubleScaleUp"), (9, u "E"), (3, u "PI"), (2, u "TAU"), (2, u "DEGREES_TO_RADIANS"), (0, u "RADIANS_TO_DEGREES")] 94

def k3m0 : Method := { name := "<init>", desc := "()V", sig := { parameters := [], returnType := none }, accessFlags := 2, code := none }
def k3c1 : Code := { maxStack := 2, maxLocals := 2, code := jdk_29_method_69_code, exceptionTable := #[], attributes := #[] }
def k3m1 : Method := { name := "min", desc := "(II)I", sig := { parameters := [.int, .int], returnType := some .int }, accessFlags := 9, code := some k3c1 }
/-- java/lang/Math -/
def k3 : Class := { plain "java/lang/Math" (some 0) with
  accessFlags := 49
  interfaces := #[]
  cf := some (fileOf pool3 1 #[.nestMembers #[98]] #[{ accessFlags := 2, nameIndex := 7, descriptorIndex := 8, attributes := #[] }, { accessFlags := 9, nameIndex := 201, descriptorIndex := 335, attributes := #[] }] 49 4 #[] #[{ accessFlags := 25, nameIndex := 354, descriptorIndex := 339, attributes := #[] }, { accessFlags := 25, nameIndex := 358, descriptorIndex := 339, attributes := #[] }, { accessFlags := 25, nameIndex := 361, descriptorIndex := 339, attributes := #[] }, { accessFlags := 26, nameIndex := 364, descriptorIndex := 339, attributes := #[] }, { accessFlags := 26, nameIndex := 365, descriptorIndex := 339, attributes := #[] }, { accessFlags := 26, nameIndex := 172, descriptorIndex := 173, attributes := #[] }, { accessFlags := 26, nameIndex := 176, descriptorIndex := 173, attributes := #[] }, { accessFlags := 8, nameIndex := 344, descriptorIndex := 339, attributes := #[] }, { accessFlags := 8, nameIndex := 338, descriptorIndex := 339, attributes := #[] }, { accessFlags := 4120, nameIndex := 245, descriptorIndex := 246, attributes := #[] }])
  fields := #[{ name := "E", type := .double, accessFlags := 25, slot := 0, constantValue := 0 }, { name := "PI", type := .double, accessFlags := 25, slot := 1, constantValue := 0 }, { name := "TAU", type := .double, accessFlags := 25, slot := 2, constantValue := 0 }, { name := "DEGREES_TO_RADIANS", type := .double, accessFlags := 26, slot := 3, constantValue := 0 }, { name := "RADIANS_TO_DEGREES", type := .double, accessFlags := 26, slot := 4, constantValue := 0 }, { name := "negativeZeroFloatBits", type := .long, accessFlags := 26, slot := 5, constantValue := 0 }, { name := "negativeZeroDoubleBits", type := .long, accessFlags := 26, slot := 6, constantValue := 0 }, { name := "twoToTheDoubleScaleUp", type := .double, accessFlags := 8, slot := 7, constantValue := 0 }, { name := "twoToTheDoubleScaleDown", type := .double, accessFlags := 8, slot := 8, constantValue := 0 }, { name := "$assertionsDisabled", type := .boolean, accessFlags := 4120, slot := 9, constantValue := 0 }]
  methods := #[k3m0, k3m1]
  instanceTypes := #[]
  staticTypes := #[.double, .double, .double, .double, .double, .long, .long, .double, .double, .boolean]
  resolved := Array.replicate 460 none
  statics := none }

def pool4 : Array CpInfo := pool [(1, u "java/lang/Cloneable"), (0, .class_ 1), (0, u "java/lang/Object"), (0, .class_ 3)] 3

/-- java/lang/Cloneable -/
def k4 : Class := { plain "java/lang/Cloneable" (some 0) with
  accessFlags := 1537
  interfaces := #[]
  cf := some (fileOf pool4 2 #[] #[] 1537 4 #[] #[])
  fields := #[]
  methods := #[]
  instanceTypes := #[]
  staticTypes := #[]
  resolved := Array.replicate 8 none
  statics := none }

def pool5 : Array CpInfo := pool [(1, u "java/io/Serializable"), (0, .class_ 1), (0, u "java/lang/Object"), (0, .class_ 3)] 3

/-- java/io/Serializable -/
def k5 : Class := { plain "java/io/Serializable" (some 0) with
  accessFlags := 1537
  interfaces := #[]
  cf := some (fileOf pool5 2 #[] #[] 1537 4 #[] #[])
  fields := #[]
  methods := #[]
  instanceTypes := #[]
  staticTypes := #[]
  resolved := Array.replicate 8 none
  statics := none }

/-- the primitive byte -/
def k6 : Class := { plain "byte" none with kind := .primitive 'B', accessFlags := 0x411 }
/-- [B -/
def k7 : Class := { plain "[B" (some 0) with kind := .array 6 .byte, interfaces := #[4, 5], accessFlags := 1041 }

/-- the primitive int -/
def k8 : Class := { plain "int" none with kind := .primitive 'I', accessFlags := 0x411 }
/-- [I -/
def k9 : Class := { plain "[I" (some 0) with kind := .array 8 .int, interfaces := #[4, 5], accessFlags := 1041 }

def heap : Heap := #[]
def classes : Array Class := #[k0, k1, k2, k3, k4, k5, k6, k7, k8, k9]
def interned : List (Array UInt16 × Addr) := []
def slotsUsed : Nat := 0
def theMethod : MethodId := ⟨1, 3⟩
def args0 : Array Value := #[.long 5, .long 300, .long 7, .int 3, .int 9, .int 64]
def aboutOver (below : List Frame) : State where
  vm := { classes := classes, interned := interned.toArray }
  heap := heap
  slotsUsed := slotsUsed
  threads := #[{ frames := .invoking theMethod args0 :: below }]
def below0 : List Frame := [.native { method := ⟨0, 0⟩, args := #[] }]
def about1 : State := aboutOver below0
def p0 : Program := .bare "" "" ""
def e0 : Env := launch0.env 0 0 0
theorem w_frames : about1.frames = Frame.invoking theMethod args0 :: below0 := rfl
set_option maxRecDepth 65536 in
theorem w_args : argsFit about1.vm theMethod args0 = true := by decide +kernel
set_option maxRecDepth 65536 in
theorem w_heap : heapFits about1 = true := by decide +kernel
set_option maxRecDepth 65536 in
theorem w_runnable : about1.curStatus? = some .runnable := by decide +kernel
set_option maxRecDepth 65536 in
theorem w_alone : about1.alone = true := by decide +kernel
set_option maxRecDepth 65536 in
theorem w_named : about1.methodNamed? x = some theMethod := by decide +kernel
set_option maxRecDepth 65536 in
theorem w_hears : about1.hears theMethod below0 = true := by decide +kernel
set_option maxRecDepth 65536 in
theorem w_ripe : about1.ripe theMethod args0 below0 = true := by decide +kernel
theorem w_running : about1.status = .running := rfl
set_option maxRecDepth 65536 in
theorem w_room : about1.hasRoom e0.platform room_1 = true :=
  launch0.hasRoom_least _ room_1 (by decide +kernel) (by decide +kernel) (by decide +kernel) (by decide +kernel) (by decide +kernel) (by decide +kernel)
theorem allAtoms_all (ts : List Jvm.Cond) (a : Array Jvm.Value) (st : Jvm.State) : (allAtoms ts).before a st = ts.all (fun c => c.before a st) := by
  induction ts with
  | nil => rfl
  | cons c t ih =>
    show (Jvm.Cond.and c (allAtoms t)).before a st = _
    rw [Jvm.Cond.before_and, ih, List.all_cons]
def words1 : List Jvm.Cond := Jvm.Cond.code x code maxLocals ret :: tables_1
/-- a 'code' word, met by the world's own term for the bytes: nothing is compared byte by byte -/
theorem code_word {y : MethodName} {bytes : ByteArray} {mx : Nat} {rt : Option FieldType} {a : Array Value} {s : State} {m : MethodId} {meth : Method} {c : Code} (h1 : s.methodNamed? y = some m) (h2 : s.vm.method? m = some meth) (h3 : meth.code = some c) (h4 : c.code = bytes)
    (h5 : (c.maxLocals == mx && c.exceptionTable.isEmpty && decide (c.maxStack ≤ mostOperands) && decide (meth.sig.returnType = rt) && !meth.locks && decide (parseMethodDescriptor y.desc = some meth.sig)) = true) : (Jvm.Cond.code y bytes mx rt).before a s = true := by
  simp only [Bool.and_eq_true, beq_iff_eq, Bool.not_eq_true', decide_eq_true_eq] at h5
  obtain ⟨⟨⟨⟨⟨g1, g2⟩, g3⟩, g4⟩, g5⟩, g6⟩ := h5
  simp [Cond.before, Cond.holds, Cond.value, h1, h2, h3, h4, g1, g2, g3, g4, g5, g6]
def isCode : Jvm.Cond → Bool
  | .code _ _ _ _ => true
  | _ => false
theorem all_split {L : List Jvm.Cond} {P : Jvm.Cond → Bool} (h1 : L.all (fun c => isCode c || P c) = true) (h2 : ∀ c ∈ L.filter isCode, P c = true) : L.all P = true := by
  refine List.all_eq_true.mpr fun c hc => ?_
  have h := List.all_eq_true.mp h1 c hc
  rcases Bool.eq_false_or_eq_true (isCode c) with hi | hi
  · exact h2 c (List.mem_filter.mpr ⟨hc, hi⟩)
  · simpa [hi] using h
set_option maxRecDepth 65536 in
theorem w_c0 : (Jvm.Cond.code x code maxLocals ret).before args0 about1 = true := code_word (m := ⟨1, 3⟩) (meth := k1m3) (c := k1c3) (by decide +kernel) rfl rfl rfl (by decide +kernel)
set_option maxRecDepth 65536 in
theorem w_c1 : (Jvm.Cond.code ({ cls := "com/example/beaconry/beaconry/archive/WriterSizePinLaw", name := "width", desc := "(I)I" } : Jvm.MethodName) method_2_code (1 : Nat) (Option.some Jvm.ClassFile.FieldType.int)).before args0 about1 = true := code_word (m := ⟨1, 1⟩) (meth := k1m1) (c := k1c1) (by decide +kernel) rfl rfl rfl (by decide +kernel)
set_option maxRecDepth 65536 in
theorem w_c2 : (Jvm.Cond.code ({ cls := "com/example/beaconry/beaconry/archive/Bits$Writer", name := "<init>", desc := "()V" } : Jvm.MethodName) prog_14_method_1_code (1 : Nat) (Option.none : Option Jvm.ClassFile.FieldType)).before args0 about1 = true := code_word (m := ⟨2, 0⟩) (meth := k2m0) (c := k2c0) (by decide +kernel) rfl rfl rfl (by decide +kernel)
set_option maxRecDepth 65536 in
theorem w_c3 : (Jvm.Cond.code ({ cls := "java/lang/Object", name := "<init>", desc := "()V" } : Jvm.MethodName) object_method_1_code (1 : Nat) (Option.none : Option Jvm.ClassFile.FieldType)).before args0 about1 = true := code_word (m := ⟨0, 0⟩) (meth := k0m0) (c := k0c0) (by decide +kernel) rfl rfl rfl (by decide +kernel)
set_option maxRecDepth 65536 in
theorem w_c4 : (Jvm.Cond.code ({ cls := "com/example/beaconry/beaconry/archive/Bits$Writer", name := "size", desc := "()I" } : Jvm.MethodName) prog_14_method_6_code (1 : Nat) (Option.some Jvm.ClassFile.FieldType.int)).before args0 about1 = true := code_word (m := ⟨2, 2⟩) (meth := k2m2) (c := k2c2) (by decide +kernel) rfl rfl rfl (by decide +kernel)
set_option maxRecDepth 65536 in
theorem w_c5 : (Jvm.Cond.code ({ cls := "com/example/beaconry/beaconry/archive/Bits$Writer", name := "write", desc := "(JI)V" } : Jvm.MethodName) prog_14_method_2_code (9 : Nat) (Option.none : Option Jvm.ClassFile.FieldType)).before args0 about1 = true := code_word (m := ⟨2, 1⟩) (meth := k2m1) (c := k2c1) (by decide +kernel) rfl rfl rfl (by decide +kernel)
set_option maxRecDepth 65536 in
theorem w_c6 : (Jvm.Cond.code ({ cls := "java/lang/Math", name := "min", desc := "(II)I" } : Jvm.MethodName) jdk_29_method_69_code (2 : Nat) (Option.some Jvm.ClassFile.FieldType.int)).before args0 about1 = true := code_word (m := ⟨3, 1⟩) (meth := k3m1) (c := k3c1) (by decide +kernel) rfl rfl rfl (by decide +kernel)
set_option maxRecDepth 65536 in
theorem w_c7 : (Jvm.Cond.code ({ cls := "com/example/beaconry/beaconry/archive/WriterSizePinLaw", name := "bytesFor", desc := "(I)I" } : Jvm.MethodName) method_3_code (1 : Nat) (Option.some Jvm.ClassFile.FieldType.int)).before args0 about1 = true := code_word (m := ⟨1, 2⟩) (meth := k1m2) (c := k1c2) (by decide +kernel) rfl rfl rfl (by decide +kernel)
def codes1 : List Jvm.Cond := [Jvm.Cond.code x code maxLocals ret, Jvm.Cond.code ({ cls := "com/example/beaconry/beaconry/archive/WriterSizePinLaw", name := "width", desc := "(I)I" } : Jvm.MethodName) method_2_code (1 : Nat) (Option.some Jvm.ClassFile.FieldType.int), Jvm.Cond.code ({ cls := "com/example/beaconry/beaconry/archive/Bits$Writer", name := "<init>", desc := "()V" } : Jvm.MethodName) prog_14_method_1_code (1 : Nat) (Option.none : Option Jvm.ClassFile.FieldType), Jvm.Cond.code ({ cls := "java/lang/Object", name := "<init>", desc := "()V" } : Jvm.MethodName) object_method_1_code (1 : Nat) (Option.none : Option Jvm.ClassFile.FieldType), Jvm.Cond.code ({ cls := "com/example/beaconry/beaconry/archive/Bits$Writer", name := "size", desc := "()I" } : Jvm.MethodName) prog_14_method_6_code (1 : Nat) (Option.some Jvm.ClassFile.FieldType.int), Jvm.Cond.code ({ cls := "com/example/beaconry/beaconry/archive/Bits$Writer", name := "write", desc := "(JI)V" } : Jvm.MethodName) prog_14_method_2_code (9 : Nat) (Option.none : Option Jvm.ClassFile.FieldType), Jvm.Cond.code ({ cls := "java/lang/Math", name := "min", desc := "(II)I" } : Jvm.MethodName) jdk_29_method_69_code (2 : Nat) (Option.some Jvm.ClassFile.FieldType.int), Jvm.Cond.code ({ cls := "com/example/beaconry/beaconry/archive/WriterSizePinLaw", name := "bytesFor", desc := "(I)I" } : Jvm.MethodName) method_3_code (1 : Nat) (Option.some Jvm.ClassFile.FieldType.int)]
set_option maxRecDepth 65536 in
theorem codes_eq : words1.filter isCode = codes1 := rfl
theorem w_codes : ∀ c ∈ words1.filter isCode, c.before args0 about1 = true := by
  rw [codes_eq]
  intro c hc
  simp only [codes1, List.mem_cons, List.not_mem_nil, or_false] at hc
  rcases hc with rfl | rfl | rfl | rfl | rfl | rfl | rfl | rfl
  · exact w_c0
  · exact w_c1
  · exact w_c2
  · exact w_c3
  · exact w_c4
  · exact w_c5
  · exact w_c6
  · exact w_c7
set_option maxRecDepth 65536 in
theorem w_t1 : (words1.take 24).all (fun c => isCode c || c.before args0 about1) = true := by decide +kernel
set_option maxRecDepth 65536 in
theorem w_t2 : (words1.drop 24).all (fun c => isCode c || c.before args0 about1) = true := by decide +kernel
theorem w_tables : (allAtoms (Jvm.Cond.code x code maxLocals ret :: tables_1)).before args0 about1 = true := by
  rw [allAtoms_all]
  show words1.all (fun c => c.before args0 about1) = true
  refine all_split ?_ w_codes
  rw [← List.take_append_drop 24 words1, List.all_append, w_t1, w_t2]
  rfl
set_option maxRecDepth 65536 in
theorem w_case : (Jvm.Cond.and given_1 narrow_1).before args0 about1 = true := by decide +kernel
theorem w_applies : (headSpec (Jvm.Cond.code x code maxLocals ret :: tables_1) room_1).applies x e0.platform about1 = true :=
  (Spec.applies_iff w_frames).mpr ⟨w_running, w_runnable, w_alone, w_named, w_hears, w_ripe, w_room, w_tables⟩
theorem atStart : AtStart classFile x code maxLocals ret World_1 tables_1 room_1 Calls_1 rest_1 Pre_1 launch0 p0 e0 about1 theMethod args0 below0 :=
  ⟨lists_1, trivial, launch0.admits_env _ _ _, launch0.least_env, fairChoices_fair.cas, fairChoices_fair.clock, w_frames, w_args, w_heap, w_applies, trivial, trivial, w_case⟩
end start1
theorem witness_1 : WitnessClaimed_1 := ⟨start1.p0, start1.e0, start1.about1, start1.theMethod, start1.args0, start1.below0, start1.atStart⟩
end Jvm.Pilot.@@N@@
