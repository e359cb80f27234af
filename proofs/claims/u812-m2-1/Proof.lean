import JvmDerived
import JvmDerived.Pilot.@@N@@Statement
import JvmDerived.Pilot.@@N@@Code
set_option linter.unusedVariables false
set_option linter.unusedSimpArgs false
namespace Jvm.RoadKit
open Sem ClassFile Op Lib Jvm.Stand Jvm.Free Jvm.LawKit
section New
variable {p : Program} {l : Launch} {e : Env} {R : Room} {s : State} {m : MethodId} {args : Array Value} {below : List Frame} {meth : Method} {c : Code} {T : State} {locs : List Loc} {cells slots : Nat}
theorem retI (X : Stand p l e R s m args below meth c T locs cells slots) (hx : p.tables.exec = Jvm.exec) {pc : Nat} {Ls : Array Slot} {z : Int32} {rest : List Value} (hret : meth.sig.returnType = some .int) (hd : decode c.code pc = .ok (.ireturn, 1)) {fs : List Frame}
    (hl : ∀ (f : JFrame) (acts : List Action), f.method = m → f.locked = none → f.entered = [] → (doReturn e (T.setTop f) acts (some (.int z))).1 = T.setFrames fs) : Steps p.tables e below (T.setTop (mkF m pc Ls (.int z :: rest))) (T.setFrames fs) := by
  have hm' : T.vm.method? m = some meth := X.method'
  have hn : narrow .int (.int z) = .int z := rfl
  show Steps p.tables e below (T.setTop { method := m, pc := pc, locals := Ls, stack := _ :: rest, locked := none }) _
  jvm_step X.here [X.here.top, hx, hd, hm', hret, hn]
  first | (intro acts; rw [hl _ acts rfl rfl rfl]) | rw [hl _ _ rfl rfl rfl]
  exact Steps.refl _
end New
end Jvm.RoadKit
namespace Jvm.Pilot.@@N@@
open Jvm Jvm.ClassFile Sem Op Lib Jvm.Free Jvm.Stand Jvm.LawKit Jvm.RoadKit Bundle Jvm.Pilot.@@N@@.Jvm.D
def own_ushr (x y : Int32) : Int32 := (x.toUInt32 >>> (y &&& 31).toUInt32).toInt32
theorem own_bv (c a M : BitVec 32) (s : Nat) (hM : ∀ i, i < 32 → M.getLsbD i = decide (s ≤ i)) : (c &&& M = a &&& M) ↔ (c ^^^ (a &&& M)) >>> s = 0#32 := by
  constructor
  · intro h
    apply BitVec.eq_of_getLsbD_eq
    intro i hi
    have hj := congrArg (fun z => BitVec.getLsbD z (s + i)) h
    simp only [BitVec.getLsbD_and, BitVec.getLsbD_ushiftRight, BitVec.getLsbD_xor, BitVec.getLsbD_zero] at hj ⊢
    by_cases h32 : s + i < 32
    · rw [hM _ h32] at hj ⊢; simp at hj; simp [hj]
    · rw [BitVec.getLsbD_of_ge c _ (by omega), BitVec.getLsbD_of_ge a _ (by omega)]; simp
  · intro h
    apply BitVec.eq_of_getLsbD_eq
    intro i hi
    simp only [BitVec.getLsbD_and]
    rw [hM i hi]
    by_cases hs : s ≤ i
    · have hj := congrArg (fun z => BitVec.getLsbD z (i - s)) h
      have e : s + (i - s) = i := by omega
      simp only [BitVec.getLsbD_and, BitVec.getLsbD_ushiftRight, BitVec.getLsbD_xor, BitVec.getLsbD_zero, e, hM i hi] at hj
      simp [hs] at hj ⊢
      exact hj
    · simp [hs]
theorem own_M (s : Nat) (hs : s < 32) : ∀ i, i < 32 → ((-1#32) <<< s).getLsbD i = decide (s ≤ i) := by
  intro i hi
  rw [BitVec.getLsbD_shiftLeft, BitVec.neg_one_eq_allOnes, BitVec.getLsbD_allOnes]
  by_cases h : s ≤ i
  · simp [h, hi]; try omega
  · simp [h]
theorem own_small (x : Int32) (s : Nat) (h : x.toInt = s) (hs : s < 32) : x.toBitVec.toNat = s := by
  have e : x.toInt = x.toBitVec.toInt := rfl
  rw [e, BitVec.toInt_eq_toNat_cond] at h
  have := x.toBitVec.isLt
  split at h <;> omega
theorem own_and31 (x : Int32) (s : Nat) (h : x.toInt = s) (hs : s < 32) : (x &&& 31) = x := by
  apply Int32.toBitVec_inj.mp
  apply BitVec.eq_of_toNat_eq
  rw [Int32.toBitVec_and, BitVec.toNat_and, own_small x s h hs]
  show s &&& (2 ^ 5 - 1) = s
  rw [Nat.and_two_pow_sub_one_eq_mod]; omega
theorem own_net (c a L : Int32) (h1 : 1 ≤ L.toInt) (h2 : L.toInt ≤ 32) :
    (c &&& ((-1) <<< ((32 - L) &&& 31)) = a &&& ((-1) <<< ((32 - L) &&& 31))) ↔ own_ushr (c ^^^ (a &&& ((-1) <<< ((32 - L) &&& 31)))) (32 - L) = 0 := by
  have e : (32 - L).toInt = 32 - L.toInt := by
    rw [Int32.toInt_sub]
    show ((32 : Int) - L.toInt).bmod (2^32) = _
    rw [Int.bmod_eq_of_le (by omega) (by omega)]
  obtain ⟨s, hs, hs2⟩ : ∃ s : Nat, s < 32 ∧ (32 - L).toInt = s := ⟨(32 - L.toInt).toNat, by omega, by omega⟩
  have e31 := own_and31 _ s hs2 hs
  have en := own_small _ s hs2 hs
  unfold own_ushr
  generalize 32 - L = y at *
  rw [e31]
  have hsm : (y.toBitVec.smod 32#32).toNat = s := by
    have : y.toBitVec = BitVec.ofNat 32 s := by
      apply BitVec.eq_of_toNat_eq; rw [en]; simp; omega
    rw [this]
    exact (by decide : ∀ s : Nat, s < 32 → ((BitVec.ofNat 32 s).smod 32#32).toNat = s) s hs
  have hm : ((-1 : Int32) <<< y).toBitVec = (-1#32) <<< s := by
    show (-1#32) <<< (y.toBitVec.smod 32#32) = _
    rw [BitVec.shiftLeft_eq', hsm]
  have k := own_bv c.toBitVec a.toBitVec _ s (own_M s hs)
  rw [← hm] at k
  rw [← Int32.toBitVec_inj, ← Int32.toBitVec_inj]
  simp only [Int32.toBitVec_and]
  rw [k]
  simp only [UInt32.toBitVec_toInt32, UInt32.toBitVec_shiftRight, Int32.toBitVec_toUInt32, Int32.toBitVec_xor, Int32.toBitVec_and]
  have e5 : (y.toBitVec % 32).toNat = s := by simp [en]; omega
  rw [BitVec.ushiftRight_eq', e5]
  rfl
def own_len (k : Int32) : Int32 := (k &&& 63) - ((k &&& 63) / 33) * 33
def own_mask (L : Int32) : Int32 := if L = 0 then 0 else (-1) <<< ((32 - L) &&& 31)
def own_cl (mo c i b : Int32) : Int32 := if mo = 0 then c else if mo = 1 then i else i ^^^ (1 <<< ((b &&& 31) &&& 31))
def own_ex (L c a : Int32) : Int32 := if L = 0 then 1 else if own_ushr (c ^^^ a) (32 - L) = 0 then 1 else 0
def own_hd (c M a : Int32) : Int32 := if c &&& M = a then 1 else 0
theorem own_len64 : ∀ n : Fin 64, 0 ≤ ((Int32.ofNat n.val) - ((Int32.ofNat n.val) / 33) * 33).toInt ∧ ((Int32.ofNat n.val) - ((Int32.ofNat n.val) / 33) * 33).toInt ≤ 32 := by decide +kernel
theorem own_lenb (k : Int32) : 0 ≤ (own_len k).toInt ∧ (own_len k).toInt ≤ 32 := by
  unfold own_len
  have h : (k &&& 63).toBitVec.toNat < 64 := by
    rw [Int32.toBitVec_and, BitVec.toNat_and]
    exact Nat.lt_of_le_of_lt Nat.and_le_right (by decide)
  have e : k &&& 63 = Int32.ofNat (k &&& 63).toBitVec.toNat := by
    apply Int32.toBitVec_inj.mp
    show _ = BitVec.ofNat 32 _
    rw [BitVec.ofNat_toNat, BitVec.setWidth_eq]
  rw [e]
  exact own_len64 ⟨_, h⟩
theorem own_fin (k a c : Int32) : own_hd c (own_mask (own_len k)) (a &&& own_mask (own_len k)) = own_ex (own_len k) c (a &&& own_mask (own_len k)) := by
  obtain ⟨b1, b2⟩ := own_lenb k
  generalize own_len k = L at *
  unfold own_hd own_ex own_mask
  by_cases h : L = 0
  · subst h; simp
  · have h1 : 1 ≤ L.toInt := by
      have : L.toInt ≠ 0 := fun q => h (Int32.toInt_inj.mp q)
      omega
    have k := own_net c a L h1 b2
    simp only [h, if_false]
    by_cases g : c &&& (-1) <<< ((32 - L) &&& 31) = a &&& (-1) <<< ((32 - L) &&& 31)
    · simp [g, k.mp g]
    · have g' : ¬ own_ushr (c ^^^ (a &&& (-1) <<< ((32 - L) &&& 31))) (32 - L) = 0 := fun q => g (k.mpr q)
      simp [g, g']
theorem d2_0 : decode jdk_30_method_1_code 0 = .ok (.aload_n 0, 1) := by decide +kernel
theorem d2_1 : decode jdk_30_method_1_code 1 = .ok (.invokespecial 1, 3) := by decide +kernel
theorem d2_4 : decode jdk_30_method_1_code 4 = .ok (.return_, 1) := by decide +kernel
theorem pn_2 : plainName "java/lang/Record" = true := by first | (simp [plainName, overriddenIn]; done) | decide +kernel
theorem ef_2 (m : MethodId) (x0 : Addr) : entryFrame m #[(.ref x0)] 1 = mkF m 0 #[.val (.ref x0)] [] := by first | (simp [entryFrame, mkF, argsToLocals, Value.category]; done) | rfl
def Q2 (Z : State) (a1 : Addr) (h0 : Heap) (n0 : Nat) (v : Option Value) (h : Heap) (L : List Loc) : Prop := v = none ∧ Fr n0 L ∧ h = h0
set_option maxRecDepth 65536 in
set_option maxHeartbeats 40000000 in
theorem rm2 (l : Launch) (Z : State) (a0 : Array Value) (hw : ∀ d ∈ tables_1, d.before a0 Z = true) (ws : List Jvm.Cond) (a1 : Addr) (h0 : Heap) (n0 : Nat) (Z0 : n0 ≤ h0.size) :
    MetFree l (⟨"java/lang/Record", "<init>", "()V"⟩ : MethodName) (head1 (Jvm.Cond.code (⟨"java/lang/Record", "<init>", "()V"⟩ : MethodName) jdk_30_method_1_code 1 none :: ws) ({ frames := 1, cells := 0, slots := 0, locals := 12 } : Room)) (fun a U => a = #[(.ref a1)] ∧ Z.Warmed39 U.vm ∧ U.heap = h0) (fun _ _ _ _ _ => True) (fun _ U o U' => ∃ v L, o = .returned v ∧ Q2 Z a1 h0 n0 v U'.heap L ∧ FrameEnd U o U' L ({ frames := 1, cells := 0, slots := 0, locals := 12 } : Room).cells ({ frames := 1, cells := 0, slots := 0, locals := 12 } : Room).slots) := by
  refine MetFree.of_bodySF (plainFor_of_name pn_2) hisR ?_
  intro p e s m args below meth c s₁ Bd hml0 hP hK
  obtain ⟨rfl, hZ, hh⟩ := hP
  have hx := Bd.exec
  have hby := Bd.bytes
  have hml : c.maxLocals = 1 := hml0
  have hown : s.vm.findClass "java/lang/Record" = some m.cls := findClass_of_methodNamed Bd.named
  have hnm := (name_of_methodNamed Bd.named Bd.method).1
  have X0 : Stand p l e ({ frames := 1, cells := 0, slots := 0, locals := 12 } : Room) s m #[(.ref a1)] below meth c s₁ [] 0 0 := Stand.of_body Bd
  have e0 : s₁.heap = h0 := by rw [← hh, Bd.state]; rfl
  have N0 := Fr.nil n0
  have pre0 : ∀ t, Steps p.tables e below (s₁.setTop (mkF m 0 #[.val (.ref a1)] [])) t → Steps p.tables e below (s₁.setTop (entryFrame m #[(.ref a1)] 1)) t := fun t k => castTop (ef_2 m a1) k
  obtain ⟨T2, X2, e2, st2⟩ := initO X0 hx hZ hown (hw _ (List.mem_of_getElem? (i := 11) rfl)) (hw _ (List.mem_of_getElem? (i := 12) rfl)) (hw _ (List.mem_of_getElem? (i := 13) rfl)) e0 (g := (mkF m 1 #[.val (.ref a1)] [(.ref a1)])) rfl (by rw [hml]; rfl) rfl (hb hby d2_1) (by decide) (W := 0) (by show 2 * 0 + _ ≤ _; exact Nat.le_of_eq rfl) (by decide)
  obtain ⟨fs, hr, hrun, hended, hW, hsame⟩ := X2.leave (v := none) (fun _ => rfl)
  refine ⟨_, _, pre0 _ ?_, hrun, hended, _, _, rfl, ?_, ⟨_, rfl⟩, hW, hsame.mono (by decide) (by decide)⟩
  · show Steps p.tables e below (s₁.setTop (mkF m 0 #[.val (.ref a1)] [])) _
    refine XS.aloadN X0.here hx rfl (hb hby d2_0) rfl rfl ?_
    show Steps p.tables e below (s₁.setTop (mkF m 1 #[.val (.ref a1)] [(.ref a1)])) _
    refine st2 _ ?_
    show Steps p.tables e below (T2.setTop (mkF m 4 #[.val (.ref a1)] [])) _
    exact X2.returnOut hx Bd.returns (hb hby d2_4) hr
  · show Q2 Z a1 h0 n0 _ T2.heap _
    rw [e2]
    exact ⟨rfl, N0, rfl⟩
theorem d1_0 : decode prog_90_method_1_code 0 = .ok (.aload_n 0, 1) := by decide +kernel
theorem d1_1 : decode prog_90_method_1_code 1 = .ok (.invokespecial 1, 3) := by decide +kernel
theorem d1_4 : decode prog_90_method_1_code 4 = .ok (.aload_n 0, 1) := by decide +kernel
theorem d1_5 : decode prog_90_method_1_code 5 = .ok (.iload_n 1, 1) := by decide +kernel
theorem d1_6 : decode prog_90_method_1_code 6 = .ok (.putfield 7, 3) := by decide +kernel
theorem d1_9 : decode prog_90_method_1_code 9 = .ok (.aload_n 0, 1) := by decide +kernel
theorem d1_10 : decode prog_90_method_1_code 10 = .ok (.iload_n 2, 1) := by decide +kernel
theorem d1_11 : decode prog_90_method_1_code 11 = .ok (.putfield 13, 3) := by decide +kernel
theorem d1_14 : decode prog_90_method_1_code 14 = .ok (.return_, 1) := by decide +kernel
theorem pn_1 : plainName "com/example/portcullis/portcullis/policy/Pop$Network" = true := by first | (simp [plainName, overriddenIn]; done) | decide +kernel
theorem pd_1_1 : parseMethodDescriptor "()V" = some ⟨[], none⟩ := by decide +kernel
theorem ef_1 (m : MethodId) (x0 : Addr) (x1 : Int32) (x2 : Int32) : entryFrame m #[(.ref x0), (.int x1), (.int x2)] 3 = mkF m 0 #[.val (.ref x0), .val (.int x1), .val (.int x2)] [] := by first | (simp [entryFrame, mkF, argsToLocals, Value.category]; done) | rfl
def Q1 (Z : State) (a1 : Addr) (p2 : Int32) (p3 : Int32) (u_address_a1 : Value) (u_mask_a1 : Value) (h0 : Heap) (n0 : Nat) (v : Option Value) (h : Heap) (L : List Loc) : Prop := v = none ∧ Fr n0 L ∧ Keep h0 h [a1] ∧ Exa Z h a1 "com/example/portcullis/portcullis/policy/Pop$Network" ∧ Fld Z h a1 "com/example/portcullis/portcullis/policy/Pop$Network" "address" "I" (.int p2) ∧ Fld Z h a1 "com/example/portcullis/portcullis/policy/Pop$Network" "mask" "I" (.int p3)
set_option maxRecDepth 65536 in
set_option maxHeartbeats 40000000 in
theorem rm1 (l : Launch) (Z : State) (a0 : Array Value) (hw : ∀ d ∈ tables_1, d.before a0 Z = true) (ws : List Jvm.Cond) (a1 : Addr) (p2 : Int32) (p3 : Int32) (u_address_a1 : Value) (u_mask_a1 : Value) (h0 : Heap) (n0 : Nat) (Z0 : n0 ≤ h0.size) (E_a1 : Exa Z h0 a1 "com/example/portcullis/portcullis/policy/Pop$Network") (F_address_a1 : Fld Z h0 a1 "com/example/portcullis/portcullis/policy/Pop$Network" "address" "I" u_address_a1) (g_a1 : n0 ≤ a1) (F_mask_a1 : Fld Z h0 a1 "com/example/portcullis/portcullis/policy/Pop$Network" "mask" "I" u_mask_a1) :
    MetFree l (⟨"com/example/portcullis/portcullis/policy/Pop$Network", "<init>", "(II)V"⟩ : MethodName) (head1 (Jvm.Cond.code (⟨"com/example/portcullis/portcullis/policy/Pop$Network", "<init>", "(II)V"⟩ : MethodName) prog_90_method_1_code 3 none :: ws) ({ frames := 2, cells := 0, slots := 0, locals := 24 } : Room)) (fun a U => a = #[(.ref a1), (.int p2), (.int p3)] ∧ Z.Warmed39 U.vm ∧ U.heap = h0) (fun _ _ _ _ _ => True) (fun _ U o U' => ∃ v L, o = .returned v ∧ Q1 Z a1 p2 p3 u_address_a1 u_mask_a1 h0 n0 v U'.heap L ∧ FrameEnd U o U' L ({ frames := 2, cells := 0, slots := 0, locals := 24 } : Room).cells ({ frames := 2, cells := 0, slots := 0, locals := 24 } : Room).slots) := by
  refine MetFree.of_bodySF (plainFor_of_name pn_1) hisR ?_
  intro p e s m args below meth c s₁ Bd hml0 hP hK
  obtain ⟨rfl, hZ, hh⟩ := hP
  have hx := Bd.exec
  have hby := Bd.bytes
  have hml : c.maxLocals = 3 := hml0
  have hown : s.vm.findClass "com/example/portcullis/portcullis/policy/Pop$Network" = some m.cls := findClass_of_methodNamed Bd.named
  have hnm := (name_of_methodNamed Bd.named Bd.method).1
  have X0 : Stand p l e ({ frames := 2, cells := 0, slots := 0, locals := 24 } : Room) s m #[(.ref a1), (.int p2), (.int p3)] below meth c s₁ [] 0 0 := Stand.of_body Bd
  have e0 : s₁.heap = h0 := by rw [← hh, Bd.state]; rfl
  have N0 := Fr.nil n0
  have pre0 : ∀ t, Steps p.tables e below (s₁.setTop (mkF m 0 #[.val (.ref a1), .val (.int p2), .val (.int p3)] [])) t → Steps p.tables e below (s₁.setTop (entryFrame m #[(.ref a1), (.int p2), (.int p3)] 3)) t := fun t k => castTop (ef_1 m a1 p2 p3) k
  obtain ⟨_, _, ⟨T4, L4, k4, n4⟩, -, X4, ⟨Lc4, hQ4, l4, y4, z4⟩, st4⟩ := X0.specialBack hx (y := (⟨"java/lang/Record", "<init>", "()V"⟩ : MethodName)) rfl hown (mvT hZ (hw _ (List.mem_of_getElem? (i := 6) rfl))) (mvT hZ (hw _ (List.mem_of_getElem? (i := 7) rfl))) (mvT hZ (hw _ (List.mem_of_getElem? (i := 10) rfl))) (by decide) (backOf (W := 0) (rm2 l Z a0 hw [] a1 h0 n0 Z0) hZ (hw _ (List.mem_of_getElem? (i := 10) rfl)) (hw _ (List.mem_of_getElem? (i := 9) rfl)) (by decide) (by decide)) (g := (mkF m 1 #[.val (.ref a1), .val (.int p2), .val (.int p3)] [(.ref a1)])) rfl (by rw [hml]; rfl) (Steps.refl _) (a := a1) (argsL := []) (rest := []) (lenOf pd_1_1 rfl) rfl (by show 2 * 0 + _ ≤ _; exact Nat.le_of_eq rfl) (hb hby d1_1) (fun _ _ => ⟨rfl, e0, (by decide : 0 + 0 ≤ _), (by decide : 0 + 0 ≤ _)⟩)
  dsimp only [Pt.U, Pt.locs, Pt.cells, Pt.slots] at X4 l4 y4 z4 st4 hQ4
  subst l4 y4 z4
  obtain ⟨rfl, N4q, e4q⟩ := hQ4
  have N4 := Fr.app N0 N4q
  obtain ⟨T5, h5, X5, e5, W5, st5⟩ := putF X4 hx hZ hown (host := "") (Or.inl (hw _ (List.mem_of_getElem? (i := 14) rfl))) Via.refl e4q F_address_a1 E_a1 (Or.inr ⟨(hw _ (List.mem_of_getElem? (i := 15) rfl)), rfl, hnm⟩) (hw _ (List.mem_of_getElem? (i := 1) rfl)) (ty := .int) (by decide) rfl rfl (g := (mkF m 6 #[.val (.ref a1), .val (.int p2), .val (.int p3)] [(.int p2), (.ref a1)])) rfl rfl (hb hby d1_6)
  have Fw5 := F_address_a1.same W5
  have K5 : Keep h0 h5 [a1] := (Keep.refl _ _).wr W5 (Or.inl (List.mem_of_getElem? (i := 0) rfl))
  have N5 := Fr.snoc X5 N4 g_a1
  obtain ⟨T6, h6, X6, e6, W6, st6⟩ := putF X5 hx hZ hown (host := "") (Or.inl (hw _ (List.mem_of_getElem? (i := 16) rfl))) Via.refl e5 (F_mask_a1.other W5 (Or.inr (slot_ne (Or.inr (hw _ (List.mem_of_getElem? (i := 17) rfl))) (Or.inr (hw _ (List.mem_of_getElem? (i := 15) rfl))) (by decide) (t := .int) (t' := .int) (by decide) (by decide)))) (E_a1.wr W5) (Or.inr ⟨(hw _ (List.mem_of_getElem? (i := 17) rfl)), rfl, hnm⟩) (hw _ (List.mem_of_getElem? (i := 1) rfl)) (ty := .int) (by decide) rfl rfl (g := (mkF m 11 #[.val (.ref a1), .val (.int p2), .val (.int p3)] [(.int p3), (.ref a1)])) rfl rfl (hb hby d1_11)
  have Fw6 := (F_mask_a1.other W5 (Or.inr (slot_ne (Or.inr (hw _ (List.mem_of_getElem? (i := 17) rfl))) (Or.inr (hw _ (List.mem_of_getElem? (i := 15) rfl))) (by decide) (t := .int) (t' := .int) (by decide) (by decide)))).same W6
  have K6 : Keep h0 h6 [a1] := K5.wr W6 (Or.inl (List.mem_of_getElem? (i := 0) rfl))
  have N6 := Fr.snoc X6 N5 g_a1
  obtain ⟨fs, hr, hrun, hended, hW, hsame⟩ := X6.leave (v := none) (fun _ => rfl)
  refine ⟨_, _, pre0 _ ?_, hrun, hended, _, _, rfl, ?_, ⟨_, rfl⟩, hW, hsame.mono (by decide) (by decide)⟩
  · show Steps p.tables e below (s₁.setTop (mkF m 0 #[.val (.ref a1), .val (.int p2), .val (.int p3)] [])) _
    refine XS.aloadN X0.here hx rfl (hb hby d1_0) rfl rfl ?_
    show Steps p.tables e below (s₁.setTop (mkF m 1 #[.val (.ref a1), .val (.int p2), .val (.int p3)] [(.ref a1)])) _
    refine st4.trans ?_
    show Steps p.tables e below (T4.setTop (mkF m 4 #[.val (.ref a1), .val (.int p2), .val (.int p3)] [])) _
    refine XS.aloadN X4.here hx rfl (hb hby d1_4) rfl rfl ?_
    show Steps p.tables e below (T4.setTop (mkF m 5 #[.val (.ref a1), .val (.int p2), .val (.int p3)] [(.ref a1)])) _
    refine XS.iloadN X4.here hx rfl (hb hby d1_5) rfl ?_
    show Steps p.tables e below (T4.setTop (mkF m 6 #[.val (.ref a1), .val (.int p2), .val (.int p3)] [(.int p2), (.ref a1)])) _
    refine st5 _ ?_
    show Steps p.tables e below (T5.setTop (mkF m 9 #[.val (.ref a1), .val (.int p2), .val (.int p3)] [])) _
    refine XS.aloadN X5.here hx rfl (hb hby d1_9) rfl rfl ?_
    show Steps p.tables e below (T5.setTop (mkF m 10 #[.val (.ref a1), .val (.int p2), .val (.int p3)] [(.ref a1)])) _
    refine XS.iloadN X5.here hx rfl (hb hby d1_10) rfl ?_
    show Steps p.tables e below (T5.setTop (mkF m 11 #[.val (.ref a1), .val (.int p2), .val (.int p3)] [(.int p3), (.ref a1)])) _
    refine st6 _ ?_
    show Steps p.tables e below (T6.setTop (mkF m 14 #[.val (.ref a1), .val (.int p2), .val (.int p3)] [])) _
    exact X6.returnOut hx Bd.returns (hb hby d1_14) hr
  · show Q1 Z a1 p2 p3 u_address_a1 u_mask_a1 h0 n0 _ T6.heap _
    rw [e6]
    exact ⟨rfl, N6, K6, (E_a1.wr W5).wr W6, Fw5.other W6 (Or.inr (slot_ne (Or.inr (hw _ (List.mem_of_getElem? (i := 15) rfl))) (Or.inr (hw _ (List.mem_of_getElem? (i := 17) rfl))) (by decide) (t := .int) (t' := .int) (by decide) (by decide))), Fw6⟩
theorem d4_0 : decode prog_90_method_3_code 0 = .ok (.iload_n 1, 1) := by decide +kernel
theorem d4_1 : decode prog_90_method_3_code 1 = .ok (.aload_n 0, 1) := by decide +kernel
theorem d4_2 : decode prog_90_method_3_code 2 = .ok (.getfield 13, 3) := by decide +kernel
theorem d4_5 : decode prog_90_method_3_code 5 = .ok (.iand, 1) := by decide +kernel
theorem d4_6 : decode prog_90_method_3_code 6 = .ok (.aload_n 0, 1) := by decide +kernel
theorem d4_7 : decode prog_90_method_3_code 7 = .ok (.getfield 7, 3) := by decide +kernel
theorem d4_10 : decode prog_90_method_3_code 10 = .ok (.if_icmp .ne 7, 3) := by decide +kernel
theorem d4_13 : decode prog_90_method_3_code 13 = .ok (.iconst 1, 1) := by decide +kernel
theorem d4_14 : decode prog_90_method_3_code 14 = .ok (.goto 4, 3) := by decide +kernel
theorem d4_17 : decode prog_90_method_3_code 17 = .ok (.iconst 0, 1) := by decide +kernel
theorem d4_18 : decode prog_90_method_3_code 18 = .ok (.ireturn, 1) := by decide +kernel
theorem pn_4 : plainName "com/example/portcullis/portcullis/policy/Pop$Network" = true := by first | (simp [plainName, overriddenIn]; done) | decide +kernel
theorem ef_4 (m : MethodId) (x0 : Addr) (x1 : Int32) : entryFrame m #[(.ref x0), (.int x1)] 2 = mkF m 0 #[.val (.ref x0), .val (.int x1)] [] := by first | (simp [entryFrame, mkF, argsToLocals, Value.category]; done) | rfl
def Q4 (Z : State) (a1 : Addr) (p2 : Int32) (w3 : Int32) (w5 : Int32) (h0 : Heap) (n0 : Nat) (v : Option Value) (h : Heap) (L : List Loc) : Prop := v = some (.int (own_hd p2 w3 w5)) ∧ Fr n0 L ∧ h = h0
set_option maxRecDepth 65536 in
set_option maxHeartbeats 40000000 in
theorem rm4 (l : Launch) (Z : State) (a0 : Array Value) (hw : ∀ d ∈ tables_1, d.before a0 Z = true) (ws : List Jvm.Cond) (a1 : Addr) (p2 : Int32) (w3 : Int32) (w5 : Int32) (h0 : Heap) (n0 : Nat) (Z0 : n0 ≤ h0.size) (F1 : Fld Z h0 a1 "com/example/portcullis/portcullis/policy/Pop$Network" "mask" "I" (.int w3)) (F2 : Fld Z h0 a1 "com/example/portcullis/portcullis/policy/Pop$Network" "address" "I" (.int w5)) :
    MetFree l (⟨"com/example/portcullis/portcullis/policy/Pop$Network", "holds", "(I)Z"⟩ : MethodName) (head1 (Jvm.Cond.code (⟨"com/example/portcullis/portcullis/policy/Pop$Network", "holds", "(I)Z"⟩ : MethodName) prog_90_method_3_code 2 (some .boolean) :: ws) ({ frames := 0, cells := 0, slots := 0, locals := 0 } : Room)) (fun a U => a = #[(.ref a1), (.int p2)] ∧ Z.Warmed39 U.vm ∧ U.heap = h0) (fun _ _ _ _ _ => True) (fun _ U o U' => ∃ v L, o = .returned v ∧ Q4 Z a1 p2 w3 w5 h0 n0 v U'.heap L ∧ FrameEnd U o U' L (({ frames := 0, cells := 0, slots := 0, locals := 0 } : Room)).cells (({ frames := 0, cells := 0, slots := 0, locals := 0 } : Room)).slots) := by
  refine MetFree.of_bodySF (plainFor_of_name pn_4) hisR ?_
  intro p e s m args below meth c s₁ Bd hml0 hP hK
  obtain ⟨rfl, hZ, hh⟩ := hP
  have hx := Bd.exec
  have hby := Bd.bytes
  have hml : c.maxLocals = 2 := hml0
  have hown : s.vm.findClass "com/example/portcullis/portcullis/policy/Pop$Network" = some m.cls := findClass_of_methodNamed Bd.named
  have hnm := (name_of_methodNamed Bd.named Bd.method).1
  have X0 : Stand p l e ({ frames := 0, cells := 0, slots := 0, locals := 0 } : Room) s m #[(.ref a1), (.int p2)] below meth c s₁ [] 0 0 := Stand.of_body Bd
  have e0 : s₁.heap = h0 := by rw [← hh, Bd.state]; rfl
  have N0 := Fr.nil n0
  have pre0 : ∀ t, Steps p.tables e below (s₁.setTop (mkF m 0 #[.val (.ref a1), .val (.int p2)] [])) t → Steps p.tables e below (s₁.setTop (entryFrame m #[(.ref a1), (.int p2)] 2)) t := fun t k => castTop (ef_4 m a1 p2) k
  obtain ⟨T4, X4, e4, st4⟩ := getF X0 hx hZ hown (host := "") (Or.inl (hw _ (List.mem_of_getElem? (i := 16) rfl))) Via.refl e0 F1 (g := (mkF m 2 #[.val (.ref a1), .val (.int p2)] [(.ref a1), (.int p2)])) rfl rfl (hb hby d4_2)
  obtain ⟨T6, X6, e6, st6⟩ := getF X4 hx hZ hown (host := "") (Or.inl (hw _ (List.mem_of_getElem? (i := 14) rfl))) Via.refl e4 F2 (g := (mkF m 7 #[.val (.ref a1), .val (.int p2)] [(.ref a1), (.int (p2 &&& w3))])) rfl rfl (hb hby d4_7)
  obtain ⟨fs, hr, hrun, hended, hW, hsame⟩ := X6.leave (v := some (.int (own_hd p2 w3 w5))) (fun h => by rw [Bd.returns] at h; cases h)
  refine ⟨_, _, pre0 _ ?_, hrun, hended, _, _, rfl, ?_, ⟨_, rfl⟩, hW, hsame.mono (by decide) (by decide)⟩
  · show Steps p.tables e below (s₁.setTop (mkF m 0 #[.val (.ref a1), .val (.int p2)] [])) _
    refine XS.iloadN X0.here hx rfl (hb hby d4_0) rfl ?_
    show Steps p.tables e below (s₁.setTop (mkF m 1 #[.val (.ref a1), .val (.int p2)] [(.int p2)])) _
    refine XS.aloadN X0.here hx rfl (hb hby d4_1) rfl rfl ?_
    show Steps p.tables e below (s₁.setTop (mkF m 2 #[.val (.ref a1), .val (.int p2)] [(.ref a1), (.int p2)])) _
    refine st4 _ ?_
    show Steps p.tables e below (T4.setTop (mkF m 5 #[.val (.ref a1), .val (.int p2)] [(.int w3), (.int p2)])) _
    refine XS.iand X4.here hx rfl (hb hby d4_5) rfl ?_
    show Steps p.tables e below (T4.setTop (mkF m 6 #[.val (.ref a1), .val (.int p2)] [(.int (p2 &&& w3))])) _
    refine XS.aloadN X4.here hx rfl (hb hby d4_6) rfl rfl ?_
    show Steps p.tables e below (T4.setTop (mkF m 7 #[.val (.ref a1), .val (.int p2)] [(.ref a1), (.int (p2 &&& w3))])) _
    refine st6 _ ?_
    show Steps p.tables e below (T6.setTop (mkF m 10 #[.val (.ref a1), .val (.int p2)] [(.int w5), (.int (p2 &&& w3))])) _
    by_cases c10 : (p2 &&& w3) = w5
    · refine XS.icmpNo X6.here hx rfl (hb hby d4_10) rfl (teq c10).2 ?_
      show Steps p.tables e below (T6.setTop (mkF m 13 #[.val (.ref a1), .val (.int p2)] [])) _
      refine XS.iconst X6.here hx rfl (hb hby d4_13) ?_
      show Steps p.tables e below (T6.setTop (mkF m 14 #[.val (.ref a1), .val (.int p2)] [(.int (1 : Int32))])) _
      refine XS.goto X6.here hx rfl (pc0 := 14) (pc' := 18) rfl (hb hby d4_14) (by decide) (by decide) ?_
      show Steps p.tables e below (T6.setTop (mkF m 18 #[.val (.ref a1), .val (.int p2)] [(.int (1 : Int32))])) _
      have ev : own_hd p2 w3 w5 = (1 : Int32) := by simp [own_hd, c10]
      rw [ev] at hr
      exact retN X6 hx (t := .boolean) Bd.returns (by simp) (hb hby d4_18) hr
    · refine XS.icmpYes X6.here hx rfl (pc0 := 10) (pc' := 17) rfl (hb hby d4_10) rfl (feq c10).2 (by decide) (by decide) ?_
      show Steps p.tables e below (T6.setTop (mkF m 17 #[.val (.ref a1), .val (.int p2)] [])) _
      refine XS.iconst X6.here hx rfl (hb hby d4_17) ?_
      show Steps p.tables e below (T6.setTop (mkF m 18 #[.val (.ref a1), .val (.int p2)] [(.int (0 : Int32))])) _
      have ev : own_hd p2 w3 w5 = (0 : Int32) := by simp [own_hd, c10]
      rw [ev] at hr
      exact retN X6 hx (t := .boolean) Bd.returns (by simp) (hb hby d4_18) hr
  · show Q4 Z a1 p2 w3 w5 h0 n0 _ T6.heap _
    rw [e6]
    exact ⟨rfl, N0, rfl⟩
theorem pd_in : parseMethodDescriptor "(II)V" = some ⟨[.int, .int], none⟩ := by decide +kernel
theorem pd_ho : parseMethodDescriptor "(I)Z" = some ⟨[.int], some .boolean⟩ := by decide +kernel
theorem pn_0 : plainName "com/example/portcullis/portcullis/policy/NetworkHoldsPinLaw" = true := by first | (simp [plainName, overriddenIn]; done) | decide +kernel
theorem ef_0 (m : MethodId) (x0 : Int32) (x1 : Int32) (x2 : Int32) (x3 : Int32) (x4 : Int32) : entryFrame m #[(.int x0), (.int x1), (.int x2), (.int x3), (.int x4)] maxLocals = mkF m 0 #[.val (.int x0), .val (.int x1), .val (.int x2), .val (.int x3), .val (.int x4), .unset, .unset, .unset, .unset, .unset, .unset, .unset, .unset] [] := by first | (simp [entryFrame, mkF, argsToLocals, Value.category, maxLocals]; done) | rfl
def Q0 (Z : State) (p1 : Int32) (p2 : Int32) (p3 : Int32) (p4 : Int32) (p5 : Int32) (h0 : Heap) (n0 : Nat) (v : Option Value) (h : Heap) (L : List Loc) : Prop := v = some (.int 1) ∧ Fr n0 L
set_option maxRecDepth 65536 in
set_option maxHeartbeats 40000000 in
theorem rm0 (l : Launch) (Z : State) (a0 : Array Value) (hw : ∀ d ∈ tables_1, d.before a0 Z = true) (ws : List Jvm.Cond) (p1 : Int32) (p2 : Int32) (p3 : Int32) (p4 : Int32) (p5 : Int32) (h0 : Heap) (n0 : Nat) (Z0 : n0 ≤ h0.size) :
    MetFree l x (head1 (Jvm.Cond.code x code maxLocals ret :: ws) room_1) (fun a U => a = #[(.int p1), (.int p2), (.int p3), (.int p4), (.int p5)] ∧ Z.Warmed39 U.vm ∧ U.heap = h0) (fun _ _ _ _ _ => True) (fun _ U o U' => ∃ v L, o = .returned v ∧ Q0 Z p1 p2 p3 p4 p5 h0 n0 v U'.heap L ∧ FrameEnd U o U' L (room_1).cells (room_1).slots) := by
  refine MetFree.of_bodySF (plainFor_of_name pn_0) hisR ?_
  intro p e s m args below meth c s₁ Bd hml0 hP hK
  obtain ⟨rfl, hZ, hh⟩ := hP
  have hx := Bd.exec
  have hby := Bd.bytes
  have hml : c.maxLocals = 13 := hml0
  have hown : s.vm.findClass "com/example/portcullis/portcullis/policy/NetworkHoldsPinLaw" = some m.cls := findClass_of_methodNamed Bd.named
  have hnm := (name_of_methodNamed Bd.named Bd.method).1
  have X0 : Stand p l e room_1 s m #[(.int p1), (.int p2), (.int p3), (.int p4), (.int p5)] below meth c s₁ [] 0 0 := Stand.of_body Bd
  have e0 : s₁.heap = h0 := by rw [← hh, Bd.state]; rfl
  have N0 := Fr.nil n0
  have pre0 : ∀ t, Steps p.tables e below (s₁.setTop (mkF m 0 #[.val (.int p1), .val (.int p2), .val (.int p3), .val (.int p4), .val (.int p5), .unset, .unset, .unset, .unset, .unset, .unset, .unset, .unset] [])) t → Steps p.tables e below (s₁.setTop (entryFrame m #[(.int p1), (.int p2), (.int p3), (.int p4), (.int p5)] maxLocals)) t := fun t k => castTop (ef_0 m p1 p2 p3 p4 p5) k
  have jA : ∀ t, Steps p.tables e below (s₁.setTop (mkF m 25 #[.val (.int p1), .val (.int p2), .val (.int p3), .val (.int p4), .val (.int p5), .val (.int (own_len p1)), .unset, .unset, .unset, .unset, .unset, .unset, .unset] [(.int (own_mask (own_len p1)))])) t → Steps p.tables e below (s₁.setTop (mkF m 9 #[.val (.int p1), .val (.int p2), .val (.int p3), .val (.int p4), .val (.int p5), .val (.int (own_len p1)), .unset, .unset, .unset, .unset, .unset, .unset, .unset] [])) t := by
    intro t kt
    show Steps p.tables e below (s₁.setTop (mkF m 9 #[.val (.int p1), .val (.int p2), .val (.int p3), .val (.int p4), .val (.int p5), .val (.int (own_len p1)), .unset, .unset, .unset, .unset, .unset, .unset, .unset] [])) _
    refine XS.iload X0.here hx rfl (hb hby at_9) rfl ?_
    show Steps p.tables e below (s₁.setTop (mkF m 11 #[.val (.int p1), .val (.int p2), .val (.int p3), .val (.int p4), .val (.int p5), .val (.int (own_len p1)), .unset, .unset, .unset, .unset, .unset, .unset, .unset] [(.int (own_len p1))])) _
    by_cases c11 : (own_len p1) = (0 : Int32)
    · refine XS.ifNo X0.here hx rfl (hb hby at_11) rfl ((if0 _ _).trans (teq c11).2) ?_
      show Steps p.tables e below (s₁.setTop (mkF m 14 #[.val (.int p1), .val (.int p2), .val (.int p3), .val (.int p4), .val (.int p5), .val (.int (own_len p1)), .unset, .unset, .unset, .unset, .unset, .unset, .unset] [])) _
      refine XS.iconst X0.here hx rfl (hb hby at_14) ?_
      show Steps p.tables e below (s₁.setTop (mkF m 15 #[.val (.int p1), .val (.int p2), .val (.int p3), .val (.int p4), .val (.int p5), .val (.int (own_len p1)), .unset, .unset, .unset, .unset, .unset, .unset, .unset] [(.int (0 : Int32))])) _
      refine XS.goto X0.here hx rfl (pc0 := 15) (pc' := 25) rfl (hb hby at_15) (by decide) (by decide) ?_
      show Steps p.tables e below (s₁.setTop (mkF m 25 #[.val (.int p1), .val (.int p2), .val (.int p3), .val (.int p4), .val (.int p5), .val (.int (own_len p1)), .unset, .unset, .unset, .unset, .unset, .unset, .unset] [(.int (0 : Int32))])) _
      have em : own_mask (own_len p1) = 0 := by simp [own_mask, c11]
      rw [em] at kt
      exact kt
    · refine XS.ifYes X0.here hx rfl (pc0 := 11) (pc' := 18) rfl (hb hby at_11) rfl ((if0 _ _).trans (feq c11).2) (by decide) (by decide) ?_
      show Steps p.tables e below (s₁.setTop (mkF m 18 #[.val (.int p1), .val (.int p2), .val (.int p3), .val (.int p4), .val (.int p5), .val (.int (own_len p1)), .unset, .unset, .unset, .unset, .unset, .unset, .unset] [])) _
      refine XS.iconst X0.here hx rfl (hb hby at_18) ?_
      show Steps p.tables e below (s₁.setTop (mkF m 19 #[.val (.int p1), .val (.int p2), .val (.int p3), .val (.int p4), .val (.int p5), .val (.int (own_len p1)), .unset, .unset, .unset, .unset, .unset, .unset, .unset] [(.int (-1 : Int32))])) _
      refine XS.bipush X0.here hx rfl (hb hby at_19) ?_
      show Steps p.tables e below (s₁.setTop (mkF m 21 #[.val (.int p1), .val (.int p2), .val (.int p3), .val (.int p4), .val (.int p5), .val (.int (own_len p1)), .unset, .unset, .unset, .unset, .unset, .unset, .unset] [(.int (32 : Int32)), (.int (-1 : Int32))])) _
      refine XS.iload X0.here hx rfl (hb hby at_21) rfl ?_
      show Steps p.tables e below (s₁.setTop (mkF m 23 #[.val (.int p1), .val (.int p2), .val (.int p3), .val (.int p4), .val (.int p5), .val (.int (own_len p1)), .unset, .unset, .unset, .unset, .unset, .unset, .unset] [(.int (own_len p1)), (.int (32 : Int32)), (.int (-1 : Int32))])) _
      refine XS.isub X0.here hx rfl (hb hby at_23) rfl ?_
      show Steps p.tables e below (s₁.setTop (mkF m 24 #[.val (.int p1), .val (.int p2), .val (.int p3), .val (.int p4), .val (.int p5), .val (.int (own_len p1)), .unset, .unset, .unset, .unset, .unset, .unset, .unset] [(.int ((32 : Int32) - (own_len p1))), (.int (-1 : Int32))])) _
      refine XS.ishl X0.here hx rfl (hb hby at_24) rfl ?_
      show Steps p.tables e below (s₁.setTop (mkF m 25 #[.val (.int p1), .val (.int p2), .val (.int p3), .val (.int p4), .val (.int p5), .val (.int (own_len p1)), .unset, .unset, .unset, .unset, .unset, .unset, .unset] [(.int ((-1 : Int32) <<< (((32 : Int32) - (own_len p1)) &&& 31)))])) _
      have em : own_mask (own_len p1) = ((-1 : Int32) <<< (((32 : Int32) - (own_len p1)) &&& 31)) := by simp [own_mask, c11]
      rw [em] at kt
      exact kt
  obtain ⟨T3, h3, X3, e3, E3, A3, D3, -, st3⟩ := newO X0 hx hZ hown (hw _ (List.mem_of_getElem? (i := 0) rfl)) (hw _ (List.mem_of_getElem? (i := 1) rfl)) (hw _ (List.mem_of_getElem? (i := 2) rfl)) e0 (g := (mkF m 33 #[.val (.int p1), .val (.int p2), .val (.int p3), .val (.int p4), .val (.int p5), .val (.int (own_len p1)), .val (.int (own_mask (own_len p1))), .val (.int (p2 &&& (own_mask (own_len p1)))), .unset, .unset, .unset, .unset, .unset] [])) rfl (hb hby at_33) (by decide) (by decide)
  obtain ⟨b3, g3⟩ : ∃ z, z = h0.size := ⟨_, rfl⟩
  rw [← g3] at A3 D3 st3
  have F_address : Fld Z h3 b3 "com/example/portcullis/portcullis/policy/Pop$Network" "address" "I" (.int (0 : Int32)) := D3 (Or.inr (hw _ (List.mem_of_getElem? (i := 15) rfl))) (ty := .int) (by decide)
  have F_mask : Fld Z h3 b3 "com/example/portcullis/portcullis/policy/Pop$Network" "mask" "I" (.int (0 : Int32)) := D3 (Or.inr (hw _ (List.mem_of_getElem? (i := 17) rfl))) (ty := .int) (by decide)
  have g_b3 : n0 ≤ b3 := Nat.le_trans Z0 (Nat.le_of_eq g3.symm)
  have Z3 : n0 ≤ h3.size := Nat.le_trans Z0 E3.1
  obtain ⟨_, _, ⟨T4, L4, k4, n4⟩, -, X4, ⟨Lc4, hQ4, l4, y4, z4⟩, st4⟩ := X3.specialBack hx (y := (⟨"com/example/portcullis/portcullis/policy/Pop$Network", "<init>", "(II)V"⟩ : MethodName)) rfl hown (mvT hZ (hw _ (List.mem_of_getElem? (i := 3) rfl))) (mvT hZ (hw _ (List.mem_of_getElem? (i := 4) rfl))) (mvT hZ (hw _ (List.mem_of_getElem? (i := 5) rfl))) (by decide) (backOf (W := 1) (rm1 l Z a0 hw [] b3 (p2 &&& (own_mask (own_len p1))) (own_mask (own_len p1)) (.int 0) (.int 0) h3 n0 Z3 A3 F_address g_b3 F_mask) hZ (hw _ (List.mem_of_getElem? (i := 5) rfl)) (hw _ (List.mem_of_getElem? (i := 2) rfl)) (by decide) (by decide)) (g := (mkF m 41 #[.val (.int p1), .val (.int p2), .val (.int p3), .val (.int p4), .val (.int p5), .val (.int (own_len p1)), .val (.int (own_mask (own_len p1))), .val (.int (p2 &&& (own_mask (own_len p1)))), .unset, .unset, .unset, .unset, .unset] [(.int (own_mask (own_len p1))), (.int (p2 &&& (own_mask (own_len p1)))), (.ref b3), (.ref b3)])) rfl (by rw [hml]; rfl) (Steps.refl _) (a := b3) (argsL := [(.int (p2 &&& (own_mask (own_len p1)))), (.int (own_mask (own_len p1)))]) (rest := [(.ref b3)]) (lenOf pd_in rfl) rfl (by show 2 * 0 + _ ≤ _; exact Nat.le_of_eq rfl) (hb hby at_41) (fun _ _ => ⟨rfl, e3, (by decide : 1 + 0 ≤ _), (by decide : 2 + 0 ≤ _)⟩)
  dsimp only [Pt.U, Pt.locs, Pt.cells, Pt.slots] at X4 l4 y4 z4 st4 hQ4
  subst l4 y4 z4
  obtain ⟨rfl, N4q, K4, E4, Fa4, Fm4⟩ := hQ4
  have N4 := Fr.app N0 N4q
  have Z4 : n0 ≤ T4.heap.size := Nat.le_trans Z3 K4.1
  have jB : ∀ t, Steps p.tables e below (T4.setTop (mkF m 98 #[.val (.int p1), .val (.int p2), .val (.int p3), .val (.int p4), .val (.int p5), .val (.int (own_len p1)), .val (.int (own_mask (own_len p1))), .val (.int (p2 &&& (own_mask (own_len p1)))), .val (.ref b3), .val (.int ((p2 &&& (own_mask (own_len p1))) ||| (p3 &&& ((own_mask (own_len p1)) ^^^ (-1 : Int32))))), .val (.int (p4 &&& (3 : Int32))), .val (.int (own_cl (p4 &&& (3 : Int32)) p3 ((p2 &&& (own_mask (own_len p1))) ||| (p3 &&& ((own_mask (own_len p1)) ^^^ (-1 : Int32)))) p5)), .unset] [])) t → Steps p.tables e below (T4.setTop (mkF m 62 #[.val (.int p1), .val (.int p2), .val (.int p3), .val (.int p4), .val (.int p5), .val (.int (own_len p1)), .val (.int (own_mask (own_len p1))), .val (.int (p2 &&& (own_mask (own_len p1)))), .val (.ref b3), .val (.int ((p2 &&& (own_mask (own_len p1))) ||| (p3 &&& ((own_mask (own_len p1)) ^^^ (-1 : Int32))))), .val (.int (p4 &&& (3 : Int32))), .unset, .unset] [])) t := by
    intro t kt
    show Steps p.tables e below (T4.setTop (mkF m 62 #[.val (.int p1), .val (.int p2), .val (.int p3), .val (.int p4), .val (.int p5), .val (.int (own_len p1)), .val (.int (own_mask (own_len p1))), .val (.int (p2 &&& (own_mask (own_len p1)))), .val (.ref b3), .val (.int ((p2 &&& (own_mask (own_len p1))) ||| (p3 &&& ((own_mask (own_len p1)) ^^^ (-1 : Int32))))), .val (.int (p4 &&& (3 : Int32))), .unset, .unset] [])) _
    refine XS.iload X4.here hx rfl (hb hby at_62) rfl ?_
    show Steps p.tables e below (T4.setTop (mkF m 64 #[.val (.int p1), .val (.int p2), .val (.int p3), .val (.int p4), .val (.int p5), .val (.int (own_len p1)), .val (.int (own_mask (own_len p1))), .val (.int (p2 &&& (own_mask (own_len p1)))), .val (.ref b3), .val (.int ((p2 &&& (own_mask (own_len p1))) ||| (p3 &&& ((own_mask (own_len p1)) ^^^ (-1 : Int32))))), .val (.int (p4 &&& (3 : Int32))), .unset, .unset] [(.int (p4 &&& (3 : Int32)))])) _
    by_cases c64 : (p4 &&& (3 : Int32)) = (0 : Int32)
    · refine XS.ifNo X4.here hx rfl (hb hby at_64) rfl ((if0 _ _).trans (teq c64).2) ?_
      show Steps p.tables e below (T4.setTop (mkF m 67 #[.val (.int p1), .val (.int p2), .val (.int p3), .val (.int p4), .val (.int p5), .val (.int (own_len p1)), .val (.int (own_mask (own_len p1))), .val (.int (p2 &&& (own_mask (own_len p1)))), .val (.ref b3), .val (.int ((p2 &&& (own_mask (own_len p1))) ||| (p3 &&& ((own_mask (own_len p1)) ^^^ (-1 : Int32))))), .val (.int (p4 &&& (3 : Int32))), .unset, .unset] [])) _
      refine XS.iloadN X4.here hx rfl (hb hby at_67) rfl ?_
      show Steps p.tables e below (T4.setTop (mkF m 68 #[.val (.int p1), .val (.int p2), .val (.int p3), .val (.int p4), .val (.int p5), .val (.int (own_len p1)), .val (.int (own_mask (own_len p1))), .val (.int (p2 &&& (own_mask (own_len p1)))), .val (.ref b3), .val (.int ((p2 &&& (own_mask (own_len p1))) ||| (p3 &&& ((own_mask (own_len p1)) ^^^ (-1 : Int32))))), .val (.int (p4 &&& (3 : Int32))), .unset, .unset] [(.int p3)])) _
      refine XS.istore X4.here hx rfl (hb hby at_68) rfl (l' := #[.val (.int p1), .val (.int p2), .val (.int p3), .val (.int p4), .val (.int p5), .val (.int (own_len p1)), .val (.int (own_mask (own_len p1))), .val (.int (p2 &&& (own_mask (own_len p1)))), .val (.ref b3), .val (.int ((p2 &&& (own_mask (own_len p1))) ||| (p3 &&& ((own_mask (own_len p1)) ^^^ (-1 : Int32))))), .val (.int (p4 &&& (3 : Int32))), .val (.int p3), .unset]) rfl ?_
      show Steps p.tables e below (T4.setTop (mkF m 70 #[.val (.int p1), .val (.int p2), .val (.int p3), .val (.int p4), .val (.int p5), .val (.int (own_len p1)), .val (.int (own_mask (own_len p1))), .val (.int (p2 &&& (own_mask (own_len p1)))), .val (.ref b3), .val (.int ((p2 &&& (own_mask (own_len p1))) ||| (p3 &&& ((own_mask (own_len p1)) ^^^ (-1 : Int32))))), .val (.int (p4 &&& (3 : Int32))), .val (.int p3), .unset] [])) _
      refine XS.goto X4.here hx rfl (pc0 := 70) (pc' := 98) rfl (hb hby at_70) (by decide) (by decide) ?_
      show Steps p.tables e below (T4.setTop (mkF m 98 #[.val (.int p1), .val (.int p2), .val (.int p3), .val (.int p4), .val (.int p5), .val (.int (own_len p1)), .val (.int (own_mask (own_len p1))), .val (.int (p2 &&& (own_mask (own_len p1)))), .val (.ref b3), .val (.int ((p2 &&& (own_mask (own_len p1))) ||| (p3 &&& ((own_mask (own_len p1)) ^^^ (-1 : Int32))))), .val (.int (p4 &&& (3 : Int32))), .val (.int p3), .unset] [])) _
      have em : (own_cl (p4 &&& (3 : Int32)) p3 ((p2 &&& (own_mask (own_len p1))) ||| (p3 &&& ((own_mask (own_len p1)) ^^^ (-1 : Int32)))) p5) = p3 := by simp only [own_cl, c64, if_true]
      rw [em] at kt
      exact kt
    · refine XS.ifYes X4.here hx rfl (pc0 := 64) (pc' := 73) rfl (hb hby at_64) rfl ((if0 _ _).trans (feq c64).2) (by decide) (by decide) ?_
      show Steps p.tables e below (T4.setTop (mkF m 73 #[.val (.int p1), .val (.int p2), .val (.int p3), .val (.int p4), .val (.int p5), .val (.int (own_len p1)), .val (.int (own_mask (own_len p1))), .val (.int (p2 &&& (own_mask (own_len p1)))), .val (.ref b3), .val (.int ((p2 &&& (own_mask (own_len p1))) ||| (p3 &&& ((own_mask (own_len p1)) ^^^ (-1 : Int32))))), .val (.int (p4 &&& (3 : Int32))), .unset, .unset] [])) _
      refine XS.iload X4.here hx rfl (hb hby at_73) rfl ?_
      show Steps p.tables e below (T4.setTop (mkF m 75 #[.val (.int p1), .val (.int p2), .val (.int p3), .val (.int p4), .val (.int p5), .val (.int (own_len p1)), .val (.int (own_mask (own_len p1))), .val (.int (p2 &&& (own_mask (own_len p1)))), .val (.ref b3), .val (.int ((p2 &&& (own_mask (own_len p1))) ||| (p3 &&& ((own_mask (own_len p1)) ^^^ (-1 : Int32))))), .val (.int (p4 &&& (3 : Int32))), .unset, .unset] [(.int (p4 &&& (3 : Int32)))])) _
      refine XS.iconst X4.here hx rfl (hb hby at_75) ?_
      show Steps p.tables e below (T4.setTop (mkF m 76 #[.val (.int p1), .val (.int p2), .val (.int p3), .val (.int p4), .val (.int p5), .val (.int (own_len p1)), .val (.int (own_mask (own_len p1))), .val (.int (p2 &&& (own_mask (own_len p1)))), .val (.ref b3), .val (.int ((p2 &&& (own_mask (own_len p1))) ||| (p3 &&& ((own_mask (own_len p1)) ^^^ (-1 : Int32))))), .val (.int (p4 &&& (3 : Int32))), .unset, .unset] [(.int (1 : Int32)), (.int (p4 &&& (3 : Int32)))])) _
      by_cases c76 : (p4 &&& (3 : Int32)) = (1 : Int32)
      · refine XS.icmpNo X4.here hx rfl (hb hby at_76) rfl (teq c76).2 ?_
        show Steps p.tables e below (T4.setTop (mkF m 79 #[.val (.int p1), .val (.int p2), .val (.int p3), .val (.int p4), .val (.int p5), .val (.int (own_len p1)), .val (.int (own_mask (own_len p1))), .val (.int (p2 &&& (own_mask (own_len p1)))), .val (.ref b3), .val (.int ((p2 &&& (own_mask (own_len p1))) ||| (p3 &&& ((own_mask (own_len p1)) ^^^ (-1 : Int32))))), .val (.int (p4 &&& (3 : Int32))), .unset, .unset] [])) _
        refine XS.iload X4.here hx rfl (hb hby at_79) rfl ?_
        show Steps p.tables e below (T4.setTop (mkF m 81 #[.val (.int p1), .val (.int p2), .val (.int p3), .val (.int p4), .val (.int p5), .val (.int (own_len p1)), .val (.int (own_mask (own_len p1))), .val (.int (p2 &&& (own_mask (own_len p1)))), .val (.ref b3), .val (.int ((p2 &&& (own_mask (own_len p1))) ||| (p3 &&& ((own_mask (own_len p1)) ^^^ (-1 : Int32))))), .val (.int (p4 &&& (3 : Int32))), .unset, .unset] [(.int ((p2 &&& (own_mask (own_len p1))) ||| (p3 &&& ((own_mask (own_len p1)) ^^^ (-1 : Int32)))))])) _
        refine XS.istore X4.here hx rfl (hb hby at_81) rfl (l' := #[.val (.int p1), .val (.int p2), .val (.int p3), .val (.int p4), .val (.int p5), .val (.int (own_len p1)), .val (.int (own_mask (own_len p1))), .val (.int (p2 &&& (own_mask (own_len p1)))), .val (.ref b3), .val (.int ((p2 &&& (own_mask (own_len p1))) ||| (p3 &&& ((own_mask (own_len p1)) ^^^ (-1 : Int32))))), .val (.int (p4 &&& (3 : Int32))), .val (.int ((p2 &&& (own_mask (own_len p1))) ||| (p3 &&& ((own_mask (own_len p1)) ^^^ (-1 : Int32))))), .unset]) rfl ?_
        show Steps p.tables e below (T4.setTop (mkF m 83 #[.val (.int p1), .val (.int p2), .val (.int p3), .val (.int p4), .val (.int p5), .val (.int (own_len p1)), .val (.int (own_mask (own_len p1))), .val (.int (p2 &&& (own_mask (own_len p1)))), .val (.ref b3), .val (.int ((p2 &&& (own_mask (own_len p1))) ||| (p3 &&& ((own_mask (own_len p1)) ^^^ (-1 : Int32))))), .val (.int (p4 &&& (3 : Int32))), .val (.int ((p2 &&& (own_mask (own_len p1))) ||| (p3 &&& ((own_mask (own_len p1)) ^^^ (-1 : Int32))))), .unset] [])) _
        refine XS.goto X4.here hx rfl (pc0 := 83) (pc' := 98) rfl (hb hby at_83) (by decide) (by decide) ?_
        show Steps p.tables e below (T4.setTop (mkF m 98 #[.val (.int p1), .val (.int p2), .val (.int p3), .val (.int p4), .val (.int p5), .val (.int (own_len p1)), .val (.int (own_mask (own_len p1))), .val (.int (p2 &&& (own_mask (own_len p1)))), .val (.ref b3), .val (.int ((p2 &&& (own_mask (own_len p1))) ||| (p3 &&& ((own_mask (own_len p1)) ^^^ (-1 : Int32))))), .val (.int (p4 &&& (3 : Int32))), .val (.int ((p2 &&& (own_mask (own_len p1))) ||| (p3 &&& ((own_mask (own_len p1)) ^^^ (-1 : Int32))))), .unset] [])) _
        have em : (own_cl (p4 &&& (3 : Int32)) p3 ((p2 &&& (own_mask (own_len p1))) ||| (p3 &&& ((own_mask (own_len p1)) ^^^ (-1 : Int32)))) p5) = ((p2 &&& (own_mask (own_len p1))) ||| (p3 &&& ((own_mask (own_len p1)) ^^^ (-1 : Int32)))) := by rw [own_cl, if_neg c64, if_pos c76]
        rw [em] at kt
        exact kt
      · refine XS.icmpYes X4.here hx rfl (pc0 := 76) (pc' := 86) rfl (hb hby at_76) rfl (feq c76).2 (by decide) (by decide) ?_
        show Steps p.tables e below (T4.setTop (mkF m 86 #[.val (.int p1), .val (.int p2), .val (.int p3), .val (.int p4), .val (.int p5), .val (.int (own_len p1)), .val (.int (own_mask (own_len p1))), .val (.int (p2 &&& (own_mask (own_len p1)))), .val (.ref b3), .val (.int ((p2 &&& (own_mask (own_len p1))) ||| (p3 &&& ((own_mask (own_len p1)) ^^^ (-1 : Int32))))), .val (.int (p4 &&& (3 : Int32))), .unset, .unset] [])) _
        refine XS.iload X4.here hx rfl (hb hby at_86) rfl ?_
        show Steps p.tables e below (T4.setTop (mkF m 88 #[.val (.int p1), .val (.int p2), .val (.int p3), .val (.int p4), .val (.int p5), .val (.int (own_len p1)), .val (.int (own_mask (own_len p1))), .val (.int (p2 &&& (own_mask (own_len p1)))), .val (.ref b3), .val (.int ((p2 &&& (own_mask (own_len p1))) ||| (p3 &&& ((own_mask (own_len p1)) ^^^ (-1 : Int32))))), .val (.int (p4 &&& (3 : Int32))), .unset, .unset] [(.int ((p2 &&& (own_mask (own_len p1))) ||| (p3 &&& ((own_mask (own_len p1)) ^^^ (-1 : Int32)))))])) _
        refine XS.iconst X4.here hx rfl (hb hby at_88) ?_
        show Steps p.tables e below (T4.setTop (mkF m 89 #[.val (.int p1), .val (.int p2), .val (.int p3), .val (.int p4), .val (.int p5), .val (.int (own_len p1)), .val (.int (own_mask (own_len p1))), .val (.int (p2 &&& (own_mask (own_len p1)))), .val (.ref b3), .val (.int ((p2 &&& (own_mask (own_len p1))) ||| (p3 &&& ((own_mask (own_len p1)) ^^^ (-1 : Int32))))), .val (.int (p4 &&& (3 : Int32))), .unset, .unset] [(.int (1 : Int32)), (.int ((p2 &&& (own_mask (own_len p1))) ||| (p3 &&& ((own_mask (own_len p1)) ^^^ (-1 : Int32)))))])) _
        refine XS.iload X4.here hx rfl (hb hby at_89) rfl ?_
        show Steps p.tables e below (T4.setTop (mkF m 91 #[.val (.int p1), .val (.int p2), .val (.int p3), .val (.int p4), .val (.int p5), .val (.int (own_len p1)), .val (.int (own_mask (own_len p1))), .val (.int (p2 &&& (own_mask (own_len p1)))), .val (.ref b3), .val (.int ((p2 &&& (own_mask (own_len p1))) ||| (p3 &&& ((own_mask (own_len p1)) ^^^ (-1 : Int32))))), .val (.int (p4 &&& (3 : Int32))), .unset, .unset] [(.int p5), (.int (1 : Int32)), (.int ((p2 &&& (own_mask (own_len p1))) ||| (p3 &&& ((own_mask (own_len p1)) ^^^ (-1 : Int32)))))])) _
        refine XS.bipush X4.here hx rfl (hb hby at_91) ?_
        show Steps p.tables e below (T4.setTop (mkF m 93 #[.val (.int p1), .val (.int p2), .val (.int p3), .val (.int p4), .val (.int p5), .val (.int (own_len p1)), .val (.int (own_mask (own_len p1))), .val (.int (p2 &&& (own_mask (own_len p1)))), .val (.ref b3), .val (.int ((p2 &&& (own_mask (own_len p1))) ||| (p3 &&& ((own_mask (own_len p1)) ^^^ (-1 : Int32))))), .val (.int (p4 &&& (3 : Int32))), .unset, .unset] [(.int (31 : Int32)), (.int p5), (.int (1 : Int32)), (.int ((p2 &&& (own_mask (own_len p1))) ||| (p3 &&& ((own_mask (own_len p1)) ^^^ (-1 : Int32)))))])) _
        refine XS.iand X4.here hx rfl (hb hby at_93) rfl ?_
        show Steps p.tables e below (T4.setTop (mkF m 94 #[.val (.int p1), .val (.int p2), .val (.int p3), .val (.int p4), .val (.int p5), .val (.int (own_len p1)), .val (.int (own_mask (own_len p1))), .val (.int (p2 &&& (own_mask (own_len p1)))), .val (.ref b3), .val (.int ((p2 &&& (own_mask (own_len p1))) ||| (p3 &&& ((own_mask (own_len p1)) ^^^ (-1 : Int32))))), .val (.int (p4 &&& (3 : Int32))), .unset, .unset] [(.int (p5 &&& (31 : Int32))), (.int (1 : Int32)), (.int ((p2 &&& (own_mask (own_len p1))) ||| (p3 &&& ((own_mask (own_len p1)) ^^^ (-1 : Int32)))))])) _
        refine XS.ishl X4.here hx rfl (hb hby at_94) rfl ?_
        show Steps p.tables e below (T4.setTop (mkF m 95 #[.val (.int p1), .val (.int p2), .val (.int p3), .val (.int p4), .val (.int p5), .val (.int (own_len p1)), .val (.int (own_mask (own_len p1))), .val (.int (p2 &&& (own_mask (own_len p1)))), .val (.ref b3), .val (.int ((p2 &&& (own_mask (own_len p1))) ||| (p3 &&& ((own_mask (own_len p1)) ^^^ (-1 : Int32))))), .val (.int (p4 &&& (3 : Int32))), .unset, .unset] [(.int ((1 : Int32) <<< ((p5 &&& (31 : Int32)) &&& 31))), (.int ((p2 &&& (own_mask (own_len p1))) ||| (p3 &&& ((own_mask (own_len p1)) ^^^ (-1 : Int32)))))])) _
        refine XS.ixor X4.here hx rfl (hb hby at_95) rfl ?_
        show Steps p.tables e below (T4.setTop (mkF m 96 #[.val (.int p1), .val (.int p2), .val (.int p3), .val (.int p4), .val (.int p5), .val (.int (own_len p1)), .val (.int (own_mask (own_len p1))), .val (.int (p2 &&& (own_mask (own_len p1)))), .val (.ref b3), .val (.int ((p2 &&& (own_mask (own_len p1))) ||| (p3 &&& ((own_mask (own_len p1)) ^^^ (-1 : Int32))))), .val (.int (p4 &&& (3 : Int32))), .unset, .unset] [(.int (((p2 &&& (own_mask (own_len p1))) ||| (p3 &&& ((own_mask (own_len p1)) ^^^ (-1 : Int32)))) ^^^ ((1 : Int32) <<< ((p5 &&& (31 : Int32)) &&& 31))))])) _
        refine XS.istore X4.here hx rfl (hb hby at_96) rfl (l' := #[.val (.int p1), .val (.int p2), .val (.int p3), .val (.int p4), .val (.int p5), .val (.int (own_len p1)), .val (.int (own_mask (own_len p1))), .val (.int (p2 &&& (own_mask (own_len p1)))), .val (.ref b3), .val (.int ((p2 &&& (own_mask (own_len p1))) ||| (p3 &&& ((own_mask (own_len p1)) ^^^ (-1 : Int32))))), .val (.int (p4 &&& (3 : Int32))), .val (.int (((p2 &&& (own_mask (own_len p1))) ||| (p3 &&& ((own_mask (own_len p1)) ^^^ (-1 : Int32)))) ^^^ ((1 : Int32) <<< ((p5 &&& (31 : Int32)) &&& 31)))), .unset]) rfl ?_
        show Steps p.tables e below (T4.setTop (mkF m 98 #[.val (.int p1), .val (.int p2), .val (.int p3), .val (.int p4), .val (.int p5), .val (.int (own_len p1)), .val (.int (own_mask (own_len p1))), .val (.int (p2 &&& (own_mask (own_len p1)))), .val (.ref b3), .val (.int ((p2 &&& (own_mask (own_len p1))) ||| (p3 &&& ((own_mask (own_len p1)) ^^^ (-1 : Int32))))), .val (.int (p4 &&& (3 : Int32))), .val (.int (((p2 &&& (own_mask (own_len p1))) ||| (p3 &&& ((own_mask (own_len p1)) ^^^ (-1 : Int32)))) ^^^ ((1 : Int32) <<< ((p5 &&& (31 : Int32)) &&& 31)))), .unset] [])) _
        have em : (own_cl (p4 &&& (3 : Int32)) p3 ((p2 &&& (own_mask (own_len p1))) ||| (p3 &&& ((own_mask (own_len p1)) ^^^ (-1 : Int32)))) p5) = (((p2 &&& (own_mask (own_len p1))) ||| (p3 &&& ((own_mask (own_len p1)) ^^^ (-1 : Int32)))) ^^^ ((1 : Int32) <<< ((p5 &&& (31 : Int32)) &&& 31))) := by rw [own_cl, if_neg c64, if_neg c76]
        rw [em] at kt
        exact kt
  have jC : ∀ t, Steps p.tables e below (T4.setTop (mkF m 122 #[.val (.int p1), .val (.int p2), .val (.int p3), .val (.int p4), .val (.int p5), .val (.int (own_len p1)), .val (.int (own_mask (own_len p1))), .val (.int (p2 &&& (own_mask (own_len p1)))), .val (.ref b3), .val (.int ((p2 &&& (own_mask (own_len p1))) ||| (p3 &&& ((own_mask (own_len p1)) ^^^ (-1 : Int32))))), .val (.int (p4 &&& (3 : Int32))), .val (.int (own_cl (p4 &&& (3 : Int32)) p3 ((p2 &&& (own_mask (own_len p1))) ||| (p3 &&& ((own_mask (own_len p1)) ^^^ (-1 : Int32)))) p5)), .unset] [(.int (own_ex (own_len p1) (own_cl (p4 &&& (3 : Int32)) p3 ((p2 &&& (own_mask (own_len p1))) ||| (p3 &&& ((own_mask (own_len p1)) ^^^ (-1 : Int32)))) p5) (p2 &&& (own_mask (own_len p1)))))])) t → Steps p.tables e below (T4.setTop (mkF m 98 #[.val (.int p1), .val (.int p2), .val (.int p3), .val (.int p4), .val (.int p5), .val (.int (own_len p1)), .val (.int (own_mask (own_len p1))), .val (.int (p2 &&& (own_mask (own_len p1)))), .val (.ref b3), .val (.int ((p2 &&& (own_mask (own_len p1))) ||| (p3 &&& ((own_mask (own_len p1)) ^^^ (-1 : Int32))))), .val (.int (p4 &&& (3 : Int32))), .val (.int (own_cl (p4 &&& (3 : Int32)) p3 ((p2 &&& (own_mask (own_len p1))) ||| (p3 &&& ((own_mask (own_len p1)) ^^^ (-1 : Int32)))) p5)), .unset] [])) t := by
    intro t kt
    show Steps p.tables e below (T4.setTop (mkF m 98 #[.val (.int p1), .val (.int p2), .val (.int p3), .val (.int p4), .val (.int p5), .val (.int (own_len p1)), .val (.int (own_mask (own_len p1))), .val (.int (p2 &&& (own_mask (own_len p1)))), .val (.ref b3), .val (.int ((p2 &&& (own_mask (own_len p1))) ||| (p3 &&& ((own_mask (own_len p1)) ^^^ (-1 : Int32))))), .val (.int (p4 &&& (3 : Int32))), .val (.int (own_cl (p4 &&& (3 : Int32)) p3 ((p2 &&& (own_mask (own_len p1))) ||| (p3 &&& ((own_mask (own_len p1)) ^^^ (-1 : Int32)))) p5)), .unset] [])) _
    refine XS.iload X4.here hx rfl (hb hby at_98) rfl ?_
    show Steps p.tables e below (T4.setTop (mkF m 100 #[.val (.int p1), .val (.int p2), .val (.int p3), .val (.int p4), .val (.int p5), .val (.int (own_len p1)), .val (.int (own_mask (own_len p1))), .val (.int (p2 &&& (own_mask (own_len p1)))), .val (.ref b3), .val (.int ((p2 &&& (own_mask (own_len p1))) ||| (p3 &&& ((own_mask (own_len p1)) ^^^ (-1 : Int32))))), .val (.int (p4 &&& (3 : Int32))), .val (.int (own_cl (p4 &&& (3 : Int32)) p3 ((p2 &&& (own_mask (own_len p1))) ||| (p3 &&& ((own_mask (own_len p1)) ^^^ (-1 : Int32)))) p5)), .unset] [(.int (own_len p1))])) _
    by_cases c100 : (own_len p1) = (0 : Int32)
    · refine XS.ifYes X4.here hx rfl (pc0 := 100) (pc' := 117) rfl (hb hby at_100) rfl ((if0 _ _).trans (teq c100).1) (by decide) (by decide) ?_
      show Steps p.tables e below (T4.setTop (mkF m 117 #[.val (.int p1), .val (.int p2), .val (.int p3), .val (.int p4), .val (.int p5), .val (.int (own_len p1)), .val (.int (own_mask (own_len p1))), .val (.int (p2 &&& (own_mask (own_len p1)))), .val (.ref b3), .val (.int ((p2 &&& (own_mask (own_len p1))) ||| (p3 &&& ((own_mask (own_len p1)) ^^^ (-1 : Int32))))), .val (.int (p4 &&& (3 : Int32))), .val (.int (own_cl (p4 &&& (3 : Int32)) p3 ((p2 &&& (own_mask (own_len p1))) ||| (p3 &&& ((own_mask (own_len p1)) ^^^ (-1 : Int32)))) p5)), .unset] [])) _
      refine XS.iconst X4.here hx rfl (hb hby at_117) ?_
      show Steps p.tables e below (T4.setTop (mkF m 118 #[.val (.int p1), .val (.int p2), .val (.int p3), .val (.int p4), .val (.int p5), .val (.int (own_len p1)), .val (.int (own_mask (own_len p1))), .val (.int (p2 &&& (own_mask (own_len p1)))), .val (.ref b3), .val (.int ((p2 &&& (own_mask (own_len p1))) ||| (p3 &&& ((own_mask (own_len p1)) ^^^ (-1 : Int32))))), .val (.int (p4 &&& (3 : Int32))), .val (.int (own_cl (p4 &&& (3 : Int32)) p3 ((p2 &&& (own_mask (own_len p1))) ||| (p3 &&& ((own_mask (own_len p1)) ^^^ (-1 : Int32)))) p5)), .unset] [(.int (1 : Int32))])) _
      refine XS.goto X4.here hx rfl (pc0 := 118) (pc' := 122) rfl (hb hby at_118) (by decide) (by decide) ?_
      show Steps p.tables e below (T4.setTop (mkF m 122 #[.val (.int p1), .val (.int p2), .val (.int p3), .val (.int p4), .val (.int p5), .val (.int (own_len p1)), .val (.int (own_mask (own_len p1))), .val (.int (p2 &&& (own_mask (own_len p1)))), .val (.ref b3), .val (.int ((p2 &&& (own_mask (own_len p1))) ||| (p3 &&& ((own_mask (own_len p1)) ^^^ (-1 : Int32))))), .val (.int (p4 &&& (3 : Int32))), .val (.int (own_cl (p4 &&& (3 : Int32)) p3 ((p2 &&& (own_mask (own_len p1))) ||| (p3 &&& ((own_mask (own_len p1)) ^^^ (-1 : Int32)))) p5)), .unset] [(.int (1 : Int32))])) _
      have em : (own_ex (own_len p1) (own_cl (p4 &&& (3 : Int32)) p3 ((p2 &&& (own_mask (own_len p1))) ||| (p3 &&& ((own_mask (own_len p1)) ^^^ (-1 : Int32)))) p5) (p2 &&& (own_mask (own_len p1)))) = 1 := by rw [own_ex, if_pos c100]
      rw [em] at kt
      exact kt
    · refine XS.ifNo X4.here hx rfl (hb hby at_100) rfl ((if0 _ _).trans (feq c100).1) ?_
      show Steps p.tables e below (T4.setTop (mkF m 103 #[.val (.int p1), .val (.int p2), .val (.int p3), .val (.int p4), .val (.int p5), .val (.int (own_len p1)), .val (.int (own_mask (own_len p1))), .val (.int (p2 &&& (own_mask (own_len p1)))), .val (.ref b3), .val (.int ((p2 &&& (own_mask (own_len p1))) ||| (p3 &&& ((own_mask (own_len p1)) ^^^ (-1 : Int32))))), .val (.int (p4 &&& (3 : Int32))), .val (.int (own_cl (p4 &&& (3 : Int32)) p3 ((p2 &&& (own_mask (own_len p1))) ||| (p3 &&& ((own_mask (own_len p1)) ^^^ (-1 : Int32)))) p5)), .unset] [])) _
      refine XS.iload X4.here hx rfl (hb hby at_103) rfl ?_
      show Steps p.tables e below (T4.setTop (mkF m 105 #[.val (.int p1), .val (.int p2), .val (.int p3), .val (.int p4), .val (.int p5), .val (.int (own_len p1)), .val (.int (own_mask (own_len p1))), .val (.int (p2 &&& (own_mask (own_len p1)))), .val (.ref b3), .val (.int ((p2 &&& (own_mask (own_len p1))) ||| (p3 &&& ((own_mask (own_len p1)) ^^^ (-1 : Int32))))), .val (.int (p4 &&& (3 : Int32))), .val (.int (own_cl (p4 &&& (3 : Int32)) p3 ((p2 &&& (own_mask (own_len p1))) ||| (p3 &&& ((own_mask (own_len p1)) ^^^ (-1 : Int32)))) p5)), .unset] [(.int (own_cl (p4 &&& (3 : Int32)) p3 ((p2 &&& (own_mask (own_len p1))) ||| (p3 &&& ((own_mask (own_len p1)) ^^^ (-1 : Int32)))) p5))])) _
      refine XS.iload X4.here hx rfl (hb hby at_105) rfl ?_
      show Steps p.tables e below (T4.setTop (mkF m 107 #[.val (.int p1), .val (.int p2), .val (.int p3), .val (.int p4), .val (.int p5), .val (.int (own_len p1)), .val (.int (own_mask (own_len p1))), .val (.int (p2 &&& (own_mask (own_len p1)))), .val (.ref b3), .val (.int ((p2 &&& (own_mask (own_len p1))) ||| (p3 &&& ((own_mask (own_len p1)) ^^^ (-1 : Int32))))), .val (.int (p4 &&& (3 : Int32))), .val (.int (own_cl (p4 &&& (3 : Int32)) p3 ((p2 &&& (own_mask (own_len p1))) ||| (p3 &&& ((own_mask (own_len p1)) ^^^ (-1 : Int32)))) p5)), .unset] [(.int (p2 &&& (own_mask (own_len p1)))), (.int (own_cl (p4 &&& (3 : Int32)) p3 ((p2 &&& (own_mask (own_len p1))) ||| (p3 &&& ((own_mask (own_len p1)) ^^^ (-1 : Int32)))) p5))])) _
      refine XS.ixor X4.here hx rfl (hb hby at_107) rfl ?_
      show Steps p.tables e below (T4.setTop (mkF m 108 #[.val (.int p1), .val (.int p2), .val (.int p3), .val (.int p4), .val (.int p5), .val (.int (own_len p1)), .val (.int (own_mask (own_len p1))), .val (.int (p2 &&& (own_mask (own_len p1)))), .val (.ref b3), .val (.int ((p2 &&& (own_mask (own_len p1))) ||| (p3 &&& ((own_mask (own_len p1)) ^^^ (-1 : Int32))))), .val (.int (p4 &&& (3 : Int32))), .val (.int (own_cl (p4 &&& (3 : Int32)) p3 ((p2 &&& (own_mask (own_len p1))) ||| (p3 &&& ((own_mask (own_len p1)) ^^^ (-1 : Int32)))) p5)), .unset] [(.int ((own_cl (p4 &&& (3 : Int32)) p3 ((p2 &&& (own_mask (own_len p1))) ||| (p3 &&& ((own_mask (own_len p1)) ^^^ (-1 : Int32)))) p5) ^^^ (p2 &&& (own_mask (own_len p1)))))])) _
      refine XS.bipush X4.here hx rfl (hb hby at_108) ?_
      show Steps p.tables e below (T4.setTop (mkF m 110 #[.val (.int p1), .val (.int p2), .val (.int p3), .val (.int p4), .val (.int p5), .val (.int (own_len p1)), .val (.int (own_mask (own_len p1))), .val (.int (p2 &&& (own_mask (own_len p1)))), .val (.ref b3), .val (.int ((p2 &&& (own_mask (own_len p1))) ||| (p3 &&& ((own_mask (own_len p1)) ^^^ (-1 : Int32))))), .val (.int (p4 &&& (3 : Int32))), .val (.int (own_cl (p4 &&& (3 : Int32)) p3 ((p2 &&& (own_mask (own_len p1))) ||| (p3 &&& ((own_mask (own_len p1)) ^^^ (-1 : Int32)))) p5)), .unset] [(.int (32 : Int32)), (.int ((own_cl (p4 &&& (3 : Int32)) p3 ((p2 &&& (own_mask (own_len p1))) ||| (p3 &&& ((own_mask (own_len p1)) ^^^ (-1 : Int32)))) p5) ^^^ (p2 &&& (own_mask (own_len p1)))))])) _
      refine XS.iload X4.here hx rfl (hb hby at_110) rfl ?_
      show Steps p.tables e below (T4.setTop (mkF m 112 #[.val (.int p1), .val (.int p2), .val (.int p3), .val (.int p4), .val (.int p5), .val (.int (own_len p1)), .val (.int (own_mask (own_len p1))), .val (.int (p2 &&& (own_mask (own_len p1)))), .val (.ref b3), .val (.int ((p2 &&& (own_mask (own_len p1))) ||| (p3 &&& ((own_mask (own_len p1)) ^^^ (-1 : Int32))))), .val (.int (p4 &&& (3 : Int32))), .val (.int (own_cl (p4 &&& (3 : Int32)) p3 ((p2 &&& (own_mask (own_len p1))) ||| (p3 &&& ((own_mask (own_len p1)) ^^^ (-1 : Int32)))) p5)), .unset] [(.int (own_len p1)), (.int (32 : Int32)), (.int ((own_cl (p4 &&& (3 : Int32)) p3 ((p2 &&& (own_mask (own_len p1))) ||| (p3 &&& ((own_mask (own_len p1)) ^^^ (-1 : Int32)))) p5) ^^^ (p2 &&& (own_mask (own_len p1)))))])) _
      refine XS.isub X4.here hx rfl (hb hby at_112) rfl ?_
      show Steps p.tables e below (T4.setTop (mkF m 113 #[.val (.int p1), .val (.int p2), .val (.int p3), .val (.int p4), .val (.int p5), .val (.int (own_len p1)), .val (.int (own_mask (own_len p1))), .val (.int (p2 &&& (own_mask (own_len p1)))), .val (.ref b3), .val (.int ((p2 &&& (own_mask (own_len p1))) ||| (p3 &&& ((own_mask (own_len p1)) ^^^ (-1 : Int32))))), .val (.int (p4 &&& (3 : Int32))), .val (.int (own_cl (p4 &&& (3 : Int32)) p3 ((p2 &&& (own_mask (own_len p1))) ||| (p3 &&& ((own_mask (own_len p1)) ^^^ (-1 : Int32)))) p5)), .unset] [(.int ((32 : Int32) - (own_len p1))), (.int ((own_cl (p4 &&& (3 : Int32)) p3 ((p2 &&& (own_mask (own_len p1))) ||| (p3 &&& ((own_mask (own_len p1)) ^^^ (-1 : Int32)))) p5) ^^^ (p2 &&& (own_mask (own_len p1)))))])) _
      refine XS.iushr X4.here hx rfl (hb hby at_113) rfl ?_
      show Steps p.tables e below (T4.setTop (mkF m 114 #[.val (.int p1), .val (.int p2), .val (.int p3), .val (.int p4), .val (.int p5), .val (.int (own_len p1)), .val (.int (own_mask (own_len p1))), .val (.int (p2 &&& (own_mask (own_len p1)))), .val (.ref b3), .val (.int ((p2 &&& (own_mask (own_len p1))) ||| (p3 &&& ((own_mask (own_len p1)) ^^^ (-1 : Int32))))), .val (.int (p4 &&& (3 : Int32))), .val (.int (own_cl (p4 &&& (3 : Int32)) p3 ((p2 &&& (own_mask (own_len p1))) ||| (p3 &&& ((own_mask (own_len p1)) ^^^ (-1 : Int32)))) p5)), .unset] [(.int (own_ushr ((own_cl (p4 &&& (3 : Int32)) p3 ((p2 &&& (own_mask (own_len p1))) ||| (p3 &&& ((own_mask (own_len p1)) ^^^ (-1 : Int32)))) p5) ^^^ (p2 &&& (own_mask (own_len p1)))) ((32 : Int32) - (own_len p1))))])) _
      by_cases c114 : (own_ushr ((own_cl (p4 &&& (3 : Int32)) p3 ((p2 &&& (own_mask (own_len p1))) ||| (p3 &&& ((own_mask (own_len p1)) ^^^ (-1 : Int32)))) p5) ^^^ (p2 &&& (own_mask (own_len p1)))) ((32 : Int32) - (own_len p1))) = (0 : Int32)
      · refine XS.ifNo X4.here hx rfl (hb hby at_114) rfl ((if0 _ _).trans (teq c114).2) ?_
        show Steps p.tables e below (T4.setTop (mkF m 117 #[.val (.int p1), .val (.int p2), .val (.int p3), .val (.int p4), .val (.int p5), .val (.int (own_len p1)), .val (.int (own_mask (own_len p1))), .val (.int (p2 &&& (own_mask (own_len p1)))), .val (.ref b3), .val (.int ((p2 &&& (own_mask (own_len p1))) ||| (p3 &&& ((own_mask (own_len p1)) ^^^ (-1 : Int32))))), .val (.int (p4 &&& (3 : Int32))), .val (.int (own_cl (p4 &&& (3 : Int32)) p3 ((p2 &&& (own_mask (own_len p1))) ||| (p3 &&& ((own_mask (own_len p1)) ^^^ (-1 : Int32)))) p5)), .unset] [])) _
        refine XS.iconst X4.here hx rfl (hb hby at_117) ?_
        show Steps p.tables e below (T4.setTop (mkF m 118 #[.val (.int p1), .val (.int p2), .val (.int p3), .val (.int p4), .val (.int p5), .val (.int (own_len p1)), .val (.int (own_mask (own_len p1))), .val (.int (p2 &&& (own_mask (own_len p1)))), .val (.ref b3), .val (.int ((p2 &&& (own_mask (own_len p1))) ||| (p3 &&& ((own_mask (own_len p1)) ^^^ (-1 : Int32))))), .val (.int (p4 &&& (3 : Int32))), .val (.int (own_cl (p4 &&& (3 : Int32)) p3 ((p2 &&& (own_mask (own_len p1))) ||| (p3 &&& ((own_mask (own_len p1)) ^^^ (-1 : Int32)))) p5)), .unset] [(.int (1 : Int32))])) _
        refine XS.goto X4.here hx rfl (pc0 := 118) (pc' := 122) rfl (hb hby at_118) (by decide) (by decide) ?_
        show Steps p.tables e below (T4.setTop (mkF m 122 #[.val (.int p1), .val (.int p2), .val (.int p3), .val (.int p4), .val (.int p5), .val (.int (own_len p1)), .val (.int (own_mask (own_len p1))), .val (.int (p2 &&& (own_mask (own_len p1)))), .val (.ref b3), .val (.int ((p2 &&& (own_mask (own_len p1))) ||| (p3 &&& ((own_mask (own_len p1)) ^^^ (-1 : Int32))))), .val (.int (p4 &&& (3 : Int32))), .val (.int (own_cl (p4 &&& (3 : Int32)) p3 ((p2 &&& (own_mask (own_len p1))) ||| (p3 &&& ((own_mask (own_len p1)) ^^^ (-1 : Int32)))) p5)), .unset] [(.int (1 : Int32))])) _
        have em : (own_ex (own_len p1) (own_cl (p4 &&& (3 : Int32)) p3 ((p2 &&& (own_mask (own_len p1))) ||| (p3 &&& ((own_mask (own_len p1)) ^^^ (-1 : Int32)))) p5) (p2 &&& (own_mask (own_len p1)))) = 1 := by rw [own_ex, if_neg c100, if_pos c114]
        rw [em] at kt
        exact kt
      · refine XS.ifYes X4.here hx rfl (pc0 := 114) (pc' := 121) rfl (hb hby at_114) rfl ((if0 _ _).trans (feq c114).2) (by decide) (by decide) ?_
        show Steps p.tables e below (T4.setTop (mkF m 121 #[.val (.int p1), .val (.int p2), .val (.int p3), .val (.int p4), .val (.int p5), .val (.int (own_len p1)), .val (.int (own_mask (own_len p1))), .val (.int (p2 &&& (own_mask (own_len p1)))), .val (.ref b3), .val (.int ((p2 &&& (own_mask (own_len p1))) ||| (p3 &&& ((own_mask (own_len p1)) ^^^ (-1 : Int32))))), .val (.int (p4 &&& (3 : Int32))), .val (.int (own_cl (p4 &&& (3 : Int32)) p3 ((p2 &&& (own_mask (own_len p1))) ||| (p3 &&& ((own_mask (own_len p1)) ^^^ (-1 : Int32)))) p5)), .unset] [])) _
        refine XS.iconst X4.here hx rfl (hb hby at_121) ?_
        show Steps p.tables e below (T4.setTop (mkF m 122 #[.val (.int p1), .val (.int p2), .val (.int p3), .val (.int p4), .val (.int p5), .val (.int (own_len p1)), .val (.int (own_mask (own_len p1))), .val (.int (p2 &&& (own_mask (own_len p1)))), .val (.ref b3), .val (.int ((p2 &&& (own_mask (own_len p1))) ||| (p3 &&& ((own_mask (own_len p1)) ^^^ (-1 : Int32))))), .val (.int (p4 &&& (3 : Int32))), .val (.int (own_cl (p4 &&& (3 : Int32)) p3 ((p2 &&& (own_mask (own_len p1))) ||| (p3 &&& ((own_mask (own_len p1)) ^^^ (-1 : Int32)))) p5)), .unset] [(.int (0 : Int32))])) _
        have em : (own_ex (own_len p1) (own_cl (p4 &&& (3 : Int32)) p3 ((p2 &&& (own_mask (own_len p1))) ||| (p3 &&& ((own_mask (own_len p1)) ^^^ (-1 : Int32)))) p5) (p2 &&& (own_mask (own_len p1)))) = 0 := by rw [own_ex, if_neg c100, if_neg c114]
        rw [em] at kt
        exact kt
  obtain ⟨cq5, kq5, q5a, q5b, q5c⟩ := isOf hZ rfl E4
  obtain ⟨_, _, ⟨T5, L5, k5, n5⟩, -, X5, ⟨Lc5, hQ5, l5, y5, z5⟩, st5⟩ := X4.virtualBack hx (y := (⟨"com/example/portcullis/portcullis/policy/Pop$Network", "holds", "(I)Z"⟩ : MethodName)) (z := (⟨"com/example/portcullis/portcullis/policy/Pop$Network", "holds", "(I)Z"⟩ : MethodName)) hown (mvT hZ (hw _ (List.mem_of_getElem? (i := 18) rfl))) (mvT hZ (hw _ (List.mem_of_getElem? (i := 19) rfl))) (notFace_of_selects (args := #[]) (mvT hZ (hw _ (List.mem_of_getElem? (i := 21) rfl)))) (mvT hZ (hw _ (List.mem_of_getElem? (i := 21) rfl))) (mvT hZ (hw _ (List.mem_of_getElem? (i := 20) rfl))) (by decide) (backOf (W := 0) (rm4 l Z a0 hw [] b3 (own_cl (p4 &&& (3 : Int32)) p3 ((p2 &&& (own_mask (own_len p1))) ||| (p3 &&& ((own_mask (own_len p1)) ^^^ (-1 : Int32)))) p5) (own_mask (own_len p1)) (p2 &&& (own_mask (own_len p1))) T4.heap n0 Z4 Fm4 Fa4) hZ (hw _ (List.mem_of_getElem? (i := 22) rfl)) (hw _ (List.mem_of_getElem? (i := 2) rfl)) (by decide) (by decide)) q5a q5c (g := (mkF m 128 #[.val (.int p1), .val (.int p2), .val (.int p3), .val (.int p4), .val (.int p5), .val (.int (own_len p1)), .val (.int (own_mask (own_len p1))), .val (.int (p2 &&& (own_mask (own_len p1)))), .val (.ref b3), .val (.int ((p2 &&& (own_mask (own_len p1))) ||| (p3 &&& ((own_mask (own_len p1)) ^^^ (-1 : Int32))))), .val (.int (p4 &&& (3 : Int32))), .val (.int (own_cl (p4 &&& (3 : Int32)) p3 ((p2 &&& (own_mask (own_len p1))) ||| (p3 &&& ((own_mask (own_len p1)) ^^^ (-1 : Int32)))) p5)), .val (.int (own_ex (own_len p1) (own_cl (p4 &&& (3 : Int32)) p3 ((p2 &&& (own_mask (own_len p1))) ||| (p3 &&& ((own_mask (own_len p1)) ^^^ (-1 : Int32)))) p5) (p2 &&& (own_mask (own_len p1)))))] [(.int (own_cl (p4 &&& (3 : Int32)) p3 ((p2 &&& (own_mask (own_len p1))) ||| (p3 &&& ((own_mask (own_len p1)) ^^^ (-1 : Int32)))) p5)), (.ref b3)])) rfl (by rw [hml]; rfl) (Steps.refl _) (argsL := [(.int (own_cl (p4 &&& (3 : Int32)) p3 ((p2 &&& (own_mask (own_len p1))) ||| (p3 &&& ((own_mask (own_len p1)) ^^^ (-1 : Int32)))) p5))]) (rest := []) (lenOf pd_ho rfl) rfl (by show 2 * 0 + _ ≤ _; exact Nat.le_of_eq rfl) (hb hby at_128) (fun _ _ => ⟨rfl, rfl, (by decide : 1 + 0 ≤ _), (by decide : 2 + 0 ≤ _)⟩)
  dsimp only [Pt.U, Pt.locs, Pt.cells, Pt.slots] at X5 l5 y5 z5 st5 hQ5
  subst l5 y5 z5
  obtain ⟨rfl, N5q, e5⟩ := hQ5
  have N5 := Fr.app N4 N5q
  have fin := own_fin p1 p2 (own_cl (p4 &&& (3 : Int32)) p3 ((p2 &&& (own_mask (own_len p1))) ||| (p3 &&& ((own_mask (own_len p1)) ^^^ (-1 : Int32)))) p5)
  obtain ⟨fs, hr, hrun, hended, hW, hsame⟩ := X5.leave (v := some (.int (1 : Int32))) (fun h => by rw [Bd.returns] at h; cases h)
  refine ⟨_, _, pre0 _ ?_, hrun, hended, _, _, rfl, ?_, ⟨_, rfl⟩, hW, hsame.mono (by decide) (by decide)⟩
  · show Steps p.tables e below (s₁.setTop (mkF m 0 #[.val (.int p1), .val (.int p2), .val (.int p3), .val (.int p4), .val (.int p5), .unset, .unset, .unset, .unset, .unset, .unset, .unset, .unset] [])) _
    refine XS.iloadN X0.here hx rfl (hb hby at_0) rfl ?_
    show Steps p.tables e below (s₁.setTop (mkF m 1 #[.val (.int p1), .val (.int p2), .val (.int p3), .val (.int p4), .val (.int p5), .unset, .unset, .unset, .unset, .unset, .unset, .unset, .unset] [(.int p1)])) _
    refine XS.bipush X0.here hx rfl (hb hby at_1) ?_
    show Steps p.tables e below (s₁.setTop (mkF m 3 #[.val (.int p1), .val (.int p2), .val (.int p3), .val (.int p4), .val (.int p5), .unset, .unset, .unset, .unset, .unset, .unset, .unset, .unset] [(.int (63 : Int32)), (.int p1)])) _
    refine XS.iand X0.here hx rfl (hb hby at_3) rfl ?_
    show Steps p.tables e below (s₁.setTop (mkF m 4 #[.val (.int p1), .val (.int p2), .val (.int p3), .val (.int p4), .val (.int p5), .unset, .unset, .unset, .unset, .unset, .unset, .unset, .unset] [(.int (p1 &&& (63 : Int32)))])) _
    refine XS.bipush X0.here hx rfl (hb hby at_4) ?_
    show Steps p.tables e below (s₁.setTop (mkF m 6 #[.val (.int p1), .val (.int p2), .val (.int p3), .val (.int p4), .val (.int p5), .unset, .unset, .unset, .unset, .unset, .unset, .unset, .unset] [(.int (33 : Int32)), (.int (p1 &&& (63 : Int32)))])) _
    refine XS.irem X0.here hx rfl (hb hby at_6) rfl (by decide) ?_
    show Steps p.tables e below (s₁.setTop (mkF m 7 #[.val (.int p1), .val (.int p2), .val (.int p3), .val (.int p4), .val (.int p5), .unset, .unset, .unset, .unset, .unset, .unset, .unset, .unset] [(.int ((p1 &&& (63 : Int32)) - ((p1 &&& (63 : Int32)) / (33 : Int32)) * (33 : Int32)))])) _
    refine XS.istore X0.here hx rfl (hb hby at_7) rfl (l' := #[.val (.int p1), .val (.int p2), .val (.int p3), .val (.int p4), .val (.int p5), .val (.int (own_len p1)), .unset, .unset, .unset, .unset, .unset, .unset, .unset]) rfl ?_
    show Steps p.tables e below (s₁.setTop (mkF m 9 #[.val (.int p1), .val (.int p2), .val (.int p3), .val (.int p4), .val (.int p5), .val (.int (own_len p1)), .unset, .unset, .unset, .unset, .unset, .unset, .unset] [])) _
    refine jA _ ?_
    show Steps p.tables e below (s₁.setTop (mkF m 25 #[.val (.int p1), .val (.int p2), .val (.int p3), .val (.int p4), .val (.int p5), .val (.int (own_len p1)), .unset, .unset, .unset, .unset, .unset, .unset, .unset] [(.int (own_mask (own_len p1)))])) _
    refine XS.istore X0.here hx rfl (hb hby at_25) rfl (l' := #[.val (.int p1), .val (.int p2), .val (.int p3), .val (.int p4), .val (.int p5), .val (.int (own_len p1)), .val (.int (own_mask (own_len p1))), .unset, .unset, .unset, .unset, .unset, .unset]) rfl ?_
    show Steps p.tables e below (s₁.setTop (mkF m 27 #[.val (.int p1), .val (.int p2), .val (.int p3), .val (.int p4), .val (.int p5), .val (.int (own_len p1)), .val (.int (own_mask (own_len p1))), .unset, .unset, .unset, .unset, .unset, .unset] [])) _
    refine XS.iloadN X0.here hx rfl (hb hby at_27) rfl ?_
    show Steps p.tables e below (s₁.setTop (mkF m 28 #[.val (.int p1), .val (.int p2), .val (.int p3), .val (.int p4), .val (.int p5), .val (.int (own_len p1)), .val (.int (own_mask (own_len p1))), .unset, .unset, .unset, .unset, .unset, .unset] [(.int p2)])) _
    refine XS.iload X0.here hx rfl (hb hby at_28) rfl ?_
    show Steps p.tables e below (s₁.setTop (mkF m 30 #[.val (.int p1), .val (.int p2), .val (.int p3), .val (.int p4), .val (.int p5), .val (.int (own_len p1)), .val (.int (own_mask (own_len p1))), .unset, .unset, .unset, .unset, .unset, .unset] [(.int (own_mask (own_len p1))), (.int p2)])) _
    refine XS.iand X0.here hx rfl (hb hby at_30) rfl ?_
    show Steps p.tables e below (s₁.setTop (mkF m 31 #[.val (.int p1), .val (.int p2), .val (.int p3), .val (.int p4), .val (.int p5), .val (.int (own_len p1)), .val (.int (own_mask (own_len p1))), .unset, .unset, .unset, .unset, .unset, .unset] [(.int (p2 &&& (own_mask (own_len p1))))])) _
    refine XS.istore X0.here hx rfl (hb hby at_31) rfl (l' := #[.val (.int p1), .val (.int p2), .val (.int p3), .val (.int p4), .val (.int p5), .val (.int (own_len p1)), .val (.int (own_mask (own_len p1))), .val (.int (p2 &&& (own_mask (own_len p1)))), .unset, .unset, .unset, .unset, .unset]) rfl ?_
    show Steps p.tables e below (s₁.setTop (mkF m 33 #[.val (.int p1), .val (.int p2), .val (.int p3), .val (.int p4), .val (.int p5), .val (.int (own_len p1)), .val (.int (own_mask (own_len p1))), .val (.int (p2 &&& (own_mask (own_len p1)))), .unset, .unset, .unset, .unset, .unset] [])) _
    refine st3 _ ?_
    show Steps p.tables e below (T3.setTop (mkF m 36 #[.val (.int p1), .val (.int p2), .val (.int p3), .val (.int p4), .val (.int p5), .val (.int (own_len p1)), .val (.int (own_mask (own_len p1))), .val (.int (p2 &&& (own_mask (own_len p1)))), .unset, .unset, .unset, .unset, .unset] [(.ref b3)])) _
    refine XS.dup X3.here hx rfl (hb hby at_36) rfl rfl ?_
    show Steps p.tables e below (T3.setTop (mkF m 37 #[.val (.int p1), .val (.int p2), .val (.int p3), .val (.int p4), .val (.int p5), .val (.int (own_len p1)), .val (.int (own_mask (own_len p1))), .val (.int (p2 &&& (own_mask (own_len p1)))), .unset, .unset, .unset, .unset, .unset] [(.ref b3), (.ref b3)])) _
    refine XS.iload X3.here hx rfl (hb hby at_37) rfl ?_
    show Steps p.tables e below (T3.setTop (mkF m 39 #[.val (.int p1), .val (.int p2), .val (.int p3), .val (.int p4), .val (.int p5), .val (.int (own_len p1)), .val (.int (own_mask (own_len p1))), .val (.int (p2 &&& (own_mask (own_len p1)))), .unset, .unset, .unset, .unset, .unset] [(.int (p2 &&& (own_mask (own_len p1)))), (.ref b3), (.ref b3)])) _
    refine XS.iload X3.here hx rfl (hb hby at_39) rfl ?_
    show Steps p.tables e below (T3.setTop (mkF m 41 #[.val (.int p1), .val (.int p2), .val (.int p3), .val (.int p4), .val (.int p5), .val (.int (own_len p1)), .val (.int (own_mask (own_len p1))), .val (.int (p2 &&& (own_mask (own_len p1)))), .unset, .unset, .unset, .unset, .unset] [(.int (own_mask (own_len p1))), (.int (p2 &&& (own_mask (own_len p1)))), (.ref b3), (.ref b3)])) _
    refine st4.trans ?_
    show Steps p.tables e below (T4.setTop (mkF m 44 #[.val (.int p1), .val (.int p2), .val (.int p3), .val (.int p4), .val (.int p5), .val (.int (own_len p1)), .val (.int (own_mask (own_len p1))), .val (.int (p2 &&& (own_mask (own_len p1)))), .unset, .unset, .unset, .unset, .unset] [(.ref b3)])) _
    refine XS.astore X4.here hx rfl (hb hby at_44) rfl rfl (l' := #[.val (.int p1), .val (.int p2), .val (.int p3), .val (.int p4), .val (.int p5), .val (.int (own_len p1)), .val (.int (own_mask (own_len p1))), .val (.int (p2 &&& (own_mask (own_len p1)))), .val (.ref b3), .unset, .unset, .unset, .unset]) rfl ?_
    show Steps p.tables e below (T4.setTop (mkF m 46 #[.val (.int p1), .val (.int p2), .val (.int p3), .val (.int p4), .val (.int p5), .val (.int (own_len p1)), .val (.int (own_mask (own_len p1))), .val (.int (p2 &&& (own_mask (own_len p1)))), .val (.ref b3), .unset, .unset, .unset, .unset] [])) _
    refine XS.iload X4.here hx rfl (hb hby at_46) rfl ?_
    show Steps p.tables e below (T4.setTop (mkF m 48 #[.val (.int p1), .val (.int p2), .val (.int p3), .val (.int p4), .val (.int p5), .val (.int (own_len p1)), .val (.int (own_mask (own_len p1))), .val (.int (p2 &&& (own_mask (own_len p1)))), .val (.ref b3), .unset, .unset, .unset, .unset] [(.int (p2 &&& (own_mask (own_len p1))))])) _
    refine XS.iloadN X4.here hx rfl (hb hby at_48) rfl ?_
    show Steps p.tables e below (T4.setTop (mkF m 49 #[.val (.int p1), .val (.int p2), .val (.int p3), .val (.int p4), .val (.int p5), .val (.int (own_len p1)), .val (.int (own_mask (own_len p1))), .val (.int (p2 &&& (own_mask (own_len p1)))), .val (.ref b3), .unset, .unset, .unset, .unset] [(.int p3), (.int (p2 &&& (own_mask (own_len p1))))])) _
    refine XS.iload X4.here hx rfl (hb hby at_49) rfl ?_
    show Steps p.tables e below (T4.setTop (mkF m 51 #[.val (.int p1), .val (.int p2), .val (.int p3), .val (.int p4), .val (.int p5), .val (.int (own_len p1)), .val (.int (own_mask (own_len p1))), .val (.int (p2 &&& (own_mask (own_len p1)))), .val (.ref b3), .unset, .unset, .unset, .unset] [(.int (own_mask (own_len p1))), (.int p3), (.int (p2 &&& (own_mask (own_len p1))))])) _
    refine XS.iconst X4.here hx rfl (hb hby at_51) ?_
    show Steps p.tables e below (T4.setTop (mkF m 52 #[.val (.int p1), .val (.int p2), .val (.int p3), .val (.int p4), .val (.int p5), .val (.int (own_len p1)), .val (.int (own_mask (own_len p1))), .val (.int (p2 &&& (own_mask (own_len p1)))), .val (.ref b3), .unset, .unset, .unset, .unset] [(.int (-1 : Int32)), (.int (own_mask (own_len p1))), (.int p3), (.int (p2 &&& (own_mask (own_len p1))))])) _
    refine XS.ixor X4.here hx rfl (hb hby at_52) rfl ?_
    show Steps p.tables e below (T4.setTop (mkF m 53 #[.val (.int p1), .val (.int p2), .val (.int p3), .val (.int p4), .val (.int p5), .val (.int (own_len p1)), .val (.int (own_mask (own_len p1))), .val (.int (p2 &&& (own_mask (own_len p1)))), .val (.ref b3), .unset, .unset, .unset, .unset] [(.int ((own_mask (own_len p1)) ^^^ (-1 : Int32))), (.int p3), (.int (p2 &&& (own_mask (own_len p1))))])) _
    refine XS.iand X4.here hx rfl (hb hby at_53) rfl ?_
    show Steps p.tables e below (T4.setTop (mkF m 54 #[.val (.int p1), .val (.int p2), .val (.int p3), .val (.int p4), .val (.int p5), .val (.int (own_len p1)), .val (.int (own_mask (own_len p1))), .val (.int (p2 &&& (own_mask (own_len p1)))), .val (.ref b3), .unset, .unset, .unset, .unset] [(.int (p3 &&& ((own_mask (own_len p1)) ^^^ (-1 : Int32)))), (.int (p2 &&& (own_mask (own_len p1))))])) _
    refine XS.ior X4.here hx rfl (hb hby at_54) rfl ?_
    show Steps p.tables e below (T4.setTop (mkF m 55 #[.val (.int p1), .val (.int p2), .val (.int p3), .val (.int p4), .val (.int p5), .val (.int (own_len p1)), .val (.int (own_mask (own_len p1))), .val (.int (p2 &&& (own_mask (own_len p1)))), .val (.ref b3), .unset, .unset, .unset, .unset] [(.int ((p2 &&& (own_mask (own_len p1))) ||| (p3 &&& ((own_mask (own_len p1)) ^^^ (-1 : Int32)))))])) _
    refine XS.istore X4.here hx rfl (hb hby at_55) rfl (l' := #[.val (.int p1), .val (.int p2), .val (.int p3), .val (.int p4), .val (.int p5), .val (.int (own_len p1)), .val (.int (own_mask (own_len p1))), .val (.int (p2 &&& (own_mask (own_len p1)))), .val (.ref b3), .val (.int ((p2 &&& (own_mask (own_len p1))) ||| (p3 &&& ((own_mask (own_len p1)) ^^^ (-1 : Int32))))), .unset, .unset, .unset]) rfl ?_
    show Steps p.tables e below (T4.setTop (mkF m 57 #[.val (.int p1), .val (.int p2), .val (.int p3), .val (.int p4), .val (.int p5), .val (.int (own_len p1)), .val (.int (own_mask (own_len p1))), .val (.int (p2 &&& (own_mask (own_len p1)))), .val (.ref b3), .val (.int ((p2 &&& (own_mask (own_len p1))) ||| (p3 &&& ((own_mask (own_len p1)) ^^^ (-1 : Int32))))), .unset, .unset, .unset] [])) _
    refine XS.iloadN X4.here hx rfl (hb hby at_57) rfl ?_
    show Steps p.tables e below (T4.setTop (mkF m 58 #[.val (.int p1), .val (.int p2), .val (.int p3), .val (.int p4), .val (.int p5), .val (.int (own_len p1)), .val (.int (own_mask (own_len p1))), .val (.int (p2 &&& (own_mask (own_len p1)))), .val (.ref b3), .val (.int ((p2 &&& (own_mask (own_len p1))) ||| (p3 &&& ((own_mask (own_len p1)) ^^^ (-1 : Int32))))), .unset, .unset, .unset] [(.int p4)])) _
    refine XS.iconst X4.here hx rfl (hb hby at_58) ?_
    show Steps p.tables e below (T4.setTop (mkF m 59 #[.val (.int p1), .val (.int p2), .val (.int p3), .val (.int p4), .val (.int p5), .val (.int (own_len p1)), .val (.int (own_mask (own_len p1))), .val (.int (p2 &&& (own_mask (own_len p1)))), .val (.ref b3), .val (.int ((p2 &&& (own_mask (own_len p1))) ||| (p3 &&& ((own_mask (own_len p1)) ^^^ (-1 : Int32))))), .unset, .unset, .unset] [(.int (3 : Int32)), (.int p4)])) _
    refine XS.iand X4.here hx rfl (hb hby at_59) rfl ?_
    show Steps p.tables e below (T4.setTop (mkF m 60 #[.val (.int p1), .val (.int p2), .val (.int p3), .val (.int p4), .val (.int p5), .val (.int (own_len p1)), .val (.int (own_mask (own_len p1))), .val (.int (p2 &&& (own_mask (own_len p1)))), .val (.ref b3), .val (.int ((p2 &&& (own_mask (own_len p1))) ||| (p3 &&& ((own_mask (own_len p1)) ^^^ (-1 : Int32))))), .unset, .unset, .unset] [(.int (p4 &&& (3 : Int32)))])) _
    refine XS.istore X4.here hx rfl (hb hby at_60) rfl (l' := #[.val (.int p1), .val (.int p2), .val (.int p3), .val (.int p4), .val (.int p5), .val (.int (own_len p1)), .val (.int (own_mask (own_len p1))), .val (.int (p2 &&& (own_mask (own_len p1)))), .val (.ref b3), .val (.int ((p2 &&& (own_mask (own_len p1))) ||| (p3 &&& ((own_mask (own_len p1)) ^^^ (-1 : Int32))))), .val (.int (p4 &&& (3 : Int32))), .unset, .unset]) rfl ?_
    show Steps p.tables e below (T4.setTop (mkF m 62 #[.val (.int p1), .val (.int p2), .val (.int p3), .val (.int p4), .val (.int p5), .val (.int (own_len p1)), .val (.int (own_mask (own_len p1))), .val (.int (p2 &&& (own_mask (own_len p1)))), .val (.ref b3), .val (.int ((p2 &&& (own_mask (own_len p1))) ||| (p3 &&& ((own_mask (own_len p1)) ^^^ (-1 : Int32))))), .val (.int (p4 &&& (3 : Int32))), .unset, .unset] [])) _
    refine jB _ ?_
    show Steps p.tables e below (T4.setTop (mkF m 98 #[.val (.int p1), .val (.int p2), .val (.int p3), .val (.int p4), .val (.int p5), .val (.int (own_len p1)), .val (.int (own_mask (own_len p1))), .val (.int (p2 &&& (own_mask (own_len p1)))), .val (.ref b3), .val (.int ((p2 &&& (own_mask (own_len p1))) ||| (p3 &&& ((own_mask (own_len p1)) ^^^ (-1 : Int32))))), .val (.int (p4 &&& (3 : Int32))), .val (.int (own_cl (p4 &&& (3 : Int32)) p3 ((p2 &&& (own_mask (own_len p1))) ||| (p3 &&& ((own_mask (own_len p1)) ^^^ (-1 : Int32)))) p5)), .unset] [])) _
    refine jC _ ?_
    show Steps p.tables e below (T4.setTop (mkF m 122 #[.val (.int p1), .val (.int p2), .val (.int p3), .val (.int p4), .val (.int p5), .val (.int (own_len p1)), .val (.int (own_mask (own_len p1))), .val (.int (p2 &&& (own_mask (own_len p1)))), .val (.ref b3), .val (.int ((p2 &&& (own_mask (own_len p1))) ||| (p3 &&& ((own_mask (own_len p1)) ^^^ (-1 : Int32))))), .val (.int (p4 &&& (3 : Int32))), .val (.int (own_cl (p4 &&& (3 : Int32)) p3 ((p2 &&& (own_mask (own_len p1))) ||| (p3 &&& ((own_mask (own_len p1)) ^^^ (-1 : Int32)))) p5)), .unset] [(.int (own_ex (own_len p1) (own_cl (p4 &&& (3 : Int32)) p3 ((p2 &&& (own_mask (own_len p1))) ||| (p3 &&& ((own_mask (own_len p1)) ^^^ (-1 : Int32)))) p5) (p2 &&& (own_mask (own_len p1)))))])) _
    refine XS.istore X4.here hx rfl (hb hby at_122) rfl (l' := #[.val (.int p1), .val (.int p2), .val (.int p3), .val (.int p4), .val (.int p5), .val (.int (own_len p1)), .val (.int (own_mask (own_len p1))), .val (.int (p2 &&& (own_mask (own_len p1)))), .val (.ref b3), .val (.int ((p2 &&& (own_mask (own_len p1))) ||| (p3 &&& ((own_mask (own_len p1)) ^^^ (-1 : Int32))))), .val (.int (p4 &&& (3 : Int32))), .val (.int (own_cl (p4 &&& (3 : Int32)) p3 ((p2 &&& (own_mask (own_len p1))) ||| (p3 &&& ((own_mask (own_len p1)) ^^^ (-1 : Int32)))) p5)), .val (.int (own_ex (own_len p1) (own_cl (p4 &&& (3 : Int32)) p3 ((p2 &&& (own_mask (own_len p1))) ||| (p3 &&& ((own_mask (own_len p1)) ^^^ (-1 : Int32)))) p5) (p2 &&& (own_mask (own_len p1)))))]) rfl ?_
    show Steps p.tables e below (T4.setTop (mkF m 124 #[.val (.int p1), .val (.int p2), .val (.int p3), .val (.int p4), .val (.int p5), .val (.int (own_len p1)), .val (.int (own_mask (own_len p1))), .val (.int (p2 &&& (own_mask (own_len p1)))), .val (.ref b3), .val (.int ((p2 &&& (own_mask (own_len p1))) ||| (p3 &&& ((own_mask (own_len p1)) ^^^ (-1 : Int32))))), .val (.int (p4 &&& (3 : Int32))), .val (.int (own_cl (p4 &&& (3 : Int32)) p3 ((p2 &&& (own_mask (own_len p1))) ||| (p3 &&& ((own_mask (own_len p1)) ^^^ (-1 : Int32)))) p5)), .val (.int (own_ex (own_len p1) (own_cl (p4 &&& (3 : Int32)) p3 ((p2 &&& (own_mask (own_len p1))) ||| (p3 &&& ((own_mask (own_len p1)) ^^^ (-1 : Int32)))) p5) (p2 &&& (own_mask (own_len p1)))))] [])) _
    refine XS.aload X4.here hx rfl (hb hby at_124) rfl rfl ?_
    show Steps p.tables e below (T4.setTop (mkF m 126 #[.val (.int p1), .val (.int p2), .val (.int p3), .val (.int p4), .val (.int p5), .val (.int (own_len p1)), .val (.int (own_mask (own_len p1))), .val (.int (p2 &&& (own_mask (own_len p1)))), .val (.ref b3), .val (.int ((p2 &&& (own_mask (own_len p1))) ||| (p3 &&& ((own_mask (own_len p1)) ^^^ (-1 : Int32))))), .val (.int (p4 &&& (3 : Int32))), .val (.int (own_cl (p4 &&& (3 : Int32)) p3 ((p2 &&& (own_mask (own_len p1))) ||| (p3 &&& ((own_mask (own_len p1)) ^^^ (-1 : Int32)))) p5)), .val (.int (own_ex (own_len p1) (own_cl (p4 &&& (3 : Int32)) p3 ((p2 &&& (own_mask (own_len p1))) ||| (p3 &&& ((own_mask (own_len p1)) ^^^ (-1 : Int32)))) p5) (p2 &&& (own_mask (own_len p1)))))] [(.ref b3)])) _
    refine XS.iload X4.here hx rfl (hb hby at_126) rfl ?_
    show Steps p.tables e below (T4.setTop (mkF m 128 #[.val (.int p1), .val (.int p2), .val (.int p3), .val (.int p4), .val (.int p5), .val (.int (own_len p1)), .val (.int (own_mask (own_len p1))), .val (.int (p2 &&& (own_mask (own_len p1)))), .val (.ref b3), .val (.int ((p2 &&& (own_mask (own_len p1))) ||| (p3 &&& ((own_mask (own_len p1)) ^^^ (-1 : Int32))))), .val (.int (p4 &&& (3 : Int32))), .val (.int (own_cl (p4 &&& (3 : Int32)) p3 ((p2 &&& (own_mask (own_len p1))) ||| (p3 &&& ((own_mask (own_len p1)) ^^^ (-1 : Int32)))) p5)), .val (.int (own_ex (own_len p1) (own_cl (p4 &&& (3 : Int32)) p3 ((p2 &&& (own_mask (own_len p1))) ||| (p3 &&& ((own_mask (own_len p1)) ^^^ (-1 : Int32)))) p5) (p2 &&& (own_mask (own_len p1)))))] [(.int (own_cl (p4 &&& (3 : Int32)) p3 ((p2 &&& (own_mask (own_len p1))) ||| (p3 &&& ((own_mask (own_len p1)) ^^^ (-1 : Int32)))) p5)), (.ref b3)])) _
    refine st5.trans ?_
    show Steps p.tables e below (T5.setTop (mkF m 131 #[.val (.int p1), .val (.int p2), .val (.int p3), .val (.int p4), .val (.int p5), .val (.int (own_len p1)), .val (.int (own_mask (own_len p1))), .val (.int (p2 &&& (own_mask (own_len p1)))), .val (.ref b3), .val (.int ((p2 &&& (own_mask (own_len p1))) ||| (p3 &&& ((own_mask (own_len p1)) ^^^ (-1 : Int32))))), .val (.int (p4 &&& (3 : Int32))), .val (.int (own_cl (p4 &&& (3 : Int32)) p3 ((p2 &&& (own_mask (own_len p1))) ||| (p3 &&& ((own_mask (own_len p1)) ^^^ (-1 : Int32)))) p5)), .val (.int (own_ex (own_len p1) (own_cl (p4 &&& (3 : Int32)) p3 ((p2 &&& (own_mask (own_len p1))) ||| (p3 &&& ((own_mask (own_len p1)) ^^^ (-1 : Int32)))) p5) (p2 &&& (own_mask (own_len p1)))))] [(.int (own_hd (own_cl (p4 &&& (3 : Int32)) p3 ((p2 &&& (own_mask (own_len p1))) ||| (p3 &&& ((own_mask (own_len p1)) ^^^ (-1 : Int32)))) p5) (own_mask (own_len p1)) (p2 &&& (own_mask (own_len p1)))))])) _
    refine XS.iload X5.here hx rfl (hb hby at_131) rfl ?_
    show Steps p.tables e below (T5.setTop (mkF m 133 #[.val (.int p1), .val (.int p2), .val (.int p3), .val (.int p4), .val (.int p5), .val (.int (own_len p1)), .val (.int (own_mask (own_len p1))), .val (.int (p2 &&& (own_mask (own_len p1)))), .val (.ref b3), .val (.int ((p2 &&& (own_mask (own_len p1))) ||| (p3 &&& ((own_mask (own_len p1)) ^^^ (-1 : Int32))))), .val (.int (p4 &&& (3 : Int32))), .val (.int (own_cl (p4 &&& (3 : Int32)) p3 ((p2 &&& (own_mask (own_len p1))) ||| (p3 &&& ((own_mask (own_len p1)) ^^^ (-1 : Int32)))) p5)), .val (.int (own_ex (own_len p1) (own_cl (p4 &&& (3 : Int32)) p3 ((p2 &&& (own_mask (own_len p1))) ||| (p3 &&& ((own_mask (own_len p1)) ^^^ (-1 : Int32)))) p5) (p2 &&& (own_mask (own_len p1)))))] [(.int (own_ex (own_len p1) (own_cl (p4 &&& (3 : Int32)) p3 ((p2 &&& (own_mask (own_len p1))) ||| (p3 &&& ((own_mask (own_len p1)) ^^^ (-1 : Int32)))) p5) (p2 &&& (own_mask (own_len p1))))), (.int (own_hd (own_cl (p4 &&& (3 : Int32)) p3 ((p2 &&& (own_mask (own_len p1))) ||| (p3 &&& ((own_mask (own_len p1)) ^^^ (-1 : Int32)))) p5) (own_mask (own_len p1)) (p2 &&& (own_mask (own_len p1)))))])) _
    refine XS.icmpNo X5.here hx rfl (hb hby at_133) rfl (teq fin).2 ?_
    show Steps p.tables e below (T5.setTop (mkF m 136 #[.val (.int p1), .val (.int p2), .val (.int p3), .val (.int p4), .val (.int p5), .val (.int (own_len p1)), .val (.int (own_mask (own_len p1))), .val (.int (p2 &&& (own_mask (own_len p1)))), .val (.ref b3), .val (.int ((p2 &&& (own_mask (own_len p1))) ||| (p3 &&& ((own_mask (own_len p1)) ^^^ (-1 : Int32))))), .val (.int (p4 &&& (3 : Int32))), .val (.int (own_cl (p4 &&& (3 : Int32)) p3 ((p2 &&& (own_mask (own_len p1))) ||| (p3 &&& ((own_mask (own_len p1)) ^^^ (-1 : Int32)))) p5)), .val (.int (own_ex (own_len p1) (own_cl (p4 &&& (3 : Int32)) p3 ((p2 &&& (own_mask (own_len p1))) ||| (p3 &&& ((own_mask (own_len p1)) ^^^ (-1 : Int32)))) p5) (p2 &&& (own_mask (own_len p1)))))] [])) _
    refine XS.iconst X5.here hx rfl (hb hby at_136) ?_
    show Steps p.tables e below (T5.setTop (mkF m 137 #[.val (.int p1), .val (.int p2), .val (.int p3), .val (.int p4), .val (.int p5), .val (.int (own_len p1)), .val (.int (own_mask (own_len p1))), .val (.int (p2 &&& (own_mask (own_len p1)))), .val (.ref b3), .val (.int ((p2 &&& (own_mask (own_len p1))) ||| (p3 &&& ((own_mask (own_len p1)) ^^^ (-1 : Int32))))), .val (.int (p4 &&& (3 : Int32))), .val (.int (own_cl (p4 &&& (3 : Int32)) p3 ((p2 &&& (own_mask (own_len p1))) ||| (p3 &&& ((own_mask (own_len p1)) ^^^ (-1 : Int32)))) p5)), .val (.int (own_ex (own_len p1) (own_cl (p4 &&& (3 : Int32)) p3 ((p2 &&& (own_mask (own_len p1))) ||| (p3 &&& ((own_mask (own_len p1)) ^^^ (-1 : Int32)))) p5) (p2 &&& (own_mask (own_len p1)))))] [(.int (1 : Int32))])) _
    refine XS.goto X5.here hx rfl (pc0 := 137) (pc' := 141) rfl (hb hby at_137) (by decide) (by decide) ?_
    show Steps p.tables e below (T5.setTop (mkF m 141 #[.val (.int p1), .val (.int p2), .val (.int p3), .val (.int p4), .val (.int p5), .val (.int (own_len p1)), .val (.int (own_mask (own_len p1))), .val (.int (p2 &&& (own_mask (own_len p1)))), .val (.ref b3), .val (.int ((p2 &&& (own_mask (own_len p1))) ||| (p3 &&& ((own_mask (own_len p1)) ^^^ (-1 : Int32))))), .val (.int (p4 &&& (3 : Int32))), .val (.int (own_cl (p4 &&& (3 : Int32)) p3 ((p2 &&& (own_mask (own_len p1))) ||| (p3 &&& ((own_mask (own_len p1)) ^^^ (-1 : Int32)))) p5)), .val (.int (own_ex (own_len p1) (own_cl (p4 &&& (3 : Int32)) p3 ((p2 &&& (own_mask (own_len p1))) ||| (p3 &&& ((own_mask (own_len p1)) ^^^ (-1 : Int32)))) p5) (p2 &&& (own_mask (own_len p1)))))] [(.int (1 : Int32))])) _
    exact retN X5 hx (t := .boolean) Bd.returns (by simp) (hb hby at_141) hr
  · show Q0 Z p1 p2 p3 p4 p5 h0 n0 _ T5.heap _
    exact ⟨rfl, N5⟩
set_option maxRecDepth 65536 in
set_option maxHeartbeats 40000000 in
theorem comes_1 {Post : Tables → Env → Array Value → State → Outcome → State → Prop} (hpost : ∀ tb e args s v u, (limb_1_1.after args s (.returned v) u = true ∧ limb_1_2.after args s (.returned v) u = true ∧ True) → FrameEnd s (.returned v) u (Jvm.fieldLocs frame_1_writes args s ++ Jvm.arrayLocs frame_1_arrays args s ++ Jvm.staticLocs frame_1_statics s) 16 128 → Post tb e args s (.returned v) u) :
    ArmFor flags0 classFile x code maxLocals ret World_1 tables_1 room_1 Calls_1 rest_1 Pre_1 Post := by
  intro l hfl _ _ p e ha hc hk s m args below hf hA hF happ hP
  obtain ⟨hcalls, hrest, hpre⟩ := hP
  obtain ⟨-, -, -, hnamed, -, -, -, hat⟩ := (Spec.applies_iff hf).mp happ
  obtain ⟨hg, hn⟩ := and_e (Cond.before_iff.mp (show (Jvm.Cond.and given_1 narrow_1).before args s = true from hpre))
  obtain ⟨gc, q0⟩ := and_e hg
  obtain ⟨g0, q1⟩ := and_e q0
  obtain ⟨g1, q2⟩ := and_e q1
  obtain ⟨g2, q3⟩ := and_e q2
  obtain ⟨g3, q4⟩ := and_e q3
  have g4 := q4
  obtain ⟨w0, w1, w2, w3, w4, rfl⟩ : ∃ w0 w1 w2 w3 w4 : Value, args = #[w0, w1, w2, w3, w4] := by
    have hs : args.size = 5 := by simpa [Cond.value, given_1] using gc
    obtain ⟨L⟩ := args
    match L, hs with
    | [w0, w1, w2, w3, w4], _ => exact ⟨w0, w1, w2, w3, w4, rfl⟩
  have hw := fun d (hd : d ∈ tables_1) => atoms_spec (ws := Jvm.Cond.code x code maxLocals ret :: tables_1) hat d (List.mem_cons_of_mem _ hd)
  obtain ⟨i0, ei0⟩ := is_v g0
  obtain rfl : w0 = (.int i0) := Option.some.inj ei0
  obtain ⟨i1, ei1⟩ := is_v g1
  obtain rfl : w1 = (.int i1) := Option.some.inj ei1
  obtain ⟨i2, ei2⟩ := is_v g2
  obtain rfl : w2 = (.int i2) := Option.some.inj ei2
  obtain ⟨i3, ei3⟩ := is_v g3
  obtain rfl : w3 = (.int i3) := Option.some.inj ei3
  obtain ⟨i4, ei4⟩ := is_v g4
  obtain rfl : w4 = (.int i4) := Option.some.inj ei4
  obtain ⟨n, o, h1, h2, h3, _, L, rfl, ⟨rfl, N⟩, hq⟩ := rm0 l s _ hw tables_1 i0 i1 i2 i3 i4 s.heap s.heap.size (Nat.le_refl _) p e ha hc hk s m _ below hf ((Spec.applies_iff_loose hf).mp happ).1 ⟨rfl, State.Warmed39.refl s, rfl⟩ trivial
  refine ⟨n, _, h1, h2, h3, hpost _ _ _ _ _ _ ⟨Cond.after_iff.mpr rfl, Cond.after_iff.mpr (eq_i res_at (Term.int_eval (1)) rfl), trivial⟩ ⟨hq.1, hq.2.1, (hq.2.2.sift fun y hy => Or.inr (N y hy)).mono (by decide) (by decide)⟩⟩
theorem main_1_1 : Claimed_1_1 := comes_1 fun _ _ _ _ _ _ h hF => ⟨h.1, hF⟩
theorem main_1_2 : Claimed_1_2 := comes_1 fun _ _ _ _ _ _ h hF => ⟨h.2.1, hF⟩
end Jvm.Pilot.@@N@@
namespace Jvm.Pilot.@@N@@
open Jvm Jvm.ClassFile Sem Op Lib Jvm.Free Jvm.Stand Jvm.Pilot.@@N@@.Jvm.D
/-! MADE BY PROGRAM (witnessworld.py) out of the Statement's table words and the real class files: 10 classes; the members and pool entries that the words name. The judged class is class 1, her method 1. -/
namespace start1
open Jvm.ClassFile
def u (s : String) : CpInfo := .utf8 (stringToUtf16 s)
/-- a pool by its gaps: so many unusable entries, then the entry; so many at the end -/
def gap : Nat → List CpInfo → List CpInfo
  | 0, r => r
  | n + 1, r => .unusable :: gap n r
def poolList (es : List (Nat × CpInfo)) (last : Nat) : List CpInfo := es.foldr (fun e r => gap e.1 (e.2 :: r)) (gap last [])
def pool (es : List (Nat × CpInfo)) (last : Nat) : Array CpInfo := ⟨poolList es last⟩
def fileOf (pool : Array CpInfo) (this : Nat) (attrs : Array Attribute := #[]) (ms : Array MethodInfo := #[]) (fl : Nat := 33) (sup : Nat := 0) (ifs : Array Nat := #[]) (fds : Array FieldInfo := #[]) : ClassFile where
  minorVersion := 0
  majorVersion := 65
  constantPool := pool
  accessFlags := fl
  thisClass := this
  superClass := sup
  interfaces := ifs
  fields := fds
  methods := ms
  attributes := attrs
def plain (name : String) (sup : Option ClassId) : Class where
  name := name
  kind := .ordinary
  loader := none
  accessFlags := 33
  super := sup
  interfaces := #[]
  cf := none
  fields := #[]
  methods := #[]
  instanceTypes := #[]
  staticTypes := #[]
  resolved := #[]
  callSites := []
  init := .initialized
  statics := none
  mirror := none

def pool0 : Array CpInfo := pool [(5, u "<init>"), (0, u "()V"), (1, .class_ 10), (1, u "java/lang/Object")] 113

def k0c0 : Code := { maxStack := 0, maxLocals := 1, code := object_method_1_code, exceptionTable := #[], attributes := #[] }
def k0m0 : Method := { name := "<init>", desc := "()V", sig := { parameters := [], returnType := none }, accessFlags := 1, code := some k0c0 }
/-- java/lang/Object -/
def k0 : Class := { plain "java/lang/Object" none with
  accessFlags := 33
  interfaces := #[]
  cf := some (fileOf pool0 8 #[] #[{ accessFlags := 1, nameIndex := 5, descriptorIndex := 6, attributes := #[] }] 33 0 #[] #[])
  fields := #[]
  methods := #[k0m0]
  instanceTypes := #[]
  staticTypes := #[]
  resolved := Array.replicate 124 none
  statics := none }

def pool1 : Array CpInfo := pool [(2, .class_ 4), (1, u "java/lang/Object"), (0, u "<init>"), (0, u "()V"), (0, .class_ 8), (0, u "com/example/portcullis/portcullis/policy/Pop$Network"), (0, .methodref 7 10), (0, .nameAndType 5 11), (0, u "(II)V"), (0, .methodref 7 13), (0, .nameAndType 14 15), (0, u "holds"), (0, u "(I)Z"), (0, .class_ 17), (0, u "com/example/portcullis/portcullis/policy/NetworkHoldsPinLaw"), (2, u "law"), (0, u "(IIIII)Z")] 7

def k1m0 : Method := { name := "<init>", desc := "()V", sig := { parameters := [], returnType := none }, accessFlags := 2, code := none }
def k1c1 : Code := { maxStack := 4, maxLocals := 13, code := code, exceptionTable := #[], attributes := #[] }
def k1m1 : Method := { name := "law", desc := "(IIIII)Z", sig := { parameters := [.int, .int, .int, .int, .int], returnType := some .boolean }, accessFlags := 9, code := some k1c1 }
/-- com/example/portcullis/portcullis/policy/NetworkHoldsPinLaw -/
def k1 : Class := { plain "com/example/portcullis/portcullis/policy/NetworkHoldsPinLaw" (some 0) with
  accessFlags := 49
  interfaces := #[]
  cf := some (fileOf pool1 16 #[] #[{ accessFlags := 2, nameIndex := 5, descriptorIndex := 6, attributes := #[] }, { accessFlags := 9, nameIndex := 20, descriptorIndex := 21, attributes := #[] }] 49 2 #[] #[])
  fields := #[]
  methods := #[k1m0, k1m1]
  instanceTypes := #[]
  staticTypes := #[]
  resolved := Array.replicate 29 none
  statics := none }

def pool2 : Array CpInfo := pool [(1, .methodref 2 3), (0, .class_ 4), (0, .nameAndType 5 6), (0, u "java/lang/Object"), (0, u "<init>"), (0, u "()V"), (0, .class_ 8), (0, u "java/lang/Record")] 13

def k2c0 : Code := { maxStack := 1, maxLocals := 1, code := jdk_30_method_1_code, exceptionTable := #[], attributes := #[] }
def k2m0 : Method := { name := "<init>", desc := "()V", sig := { parameters := [], returnType := none }, accessFlags := 4, code := some k2c0 }
/-- java/lang/Record -/
def k2 : Class := { plain "java/lang/Record" (some 0) with
  accessFlags := 1057
  interfaces := #[]
  cf := some (fileOf pool2 7 #[] #[{ accessFlags := 4, nameIndex := 5, descriptorIndex := 6, attributes := #[] }] 1057 2 #[] #[])
  fields := #[]
  methods := #[k2m0]
  instanceTypes := #[]
  staticTypes := #[]
  resolved := Array.replicate 22 none
  statics := none }

def pool3 : Array CpInfo := pool [(1, .methodref 2 3), (0, .class_ 4), (0, .nameAndType 5 6), (0, u "java/lang/Record"), (0, u "<init>"), (0, u "()V"), (0, .fieldref 8 9), (0, .class_ 10), (0, .nameAndType 11 12), (0, u "com/example/portcullis/portcullis/policy/Pop$Network"), (0, u "address"), (0, u "I"), (0, .fieldref 8 14), (0, .nameAndType 15 12), (0, u "mask"), (23, u "(II)V"), (35, u "holds"), (0, u "(I)Z"), (9, .class_ 87), (0, u "com/example/portcullis/portcullis/policy/Pop")] 20

def k3c0 : Code := { maxStack := 2, maxLocals := 3, code := prog_90_method_1_code, exceptionTable := #[], attributes := #[] }
def k3m0 : Method := { name := "<init>", desc := "(II)V", sig := { parameters := [.int, .int], returnType := none }, accessFlags := 0, code := some k3c0 }
def k3c1 : Code := { maxStack := 2, maxLocals := 2, code := prog_90_method_3_code, exceptionTable := #[], attributes := #[] }
def k3m1 : Method := { name := "holds", desc := "(I)Z", sig := { parameters := [.int], returnType := some .boolean }, accessFlags := 0, code := some k3c1 }
/-- com/example/portcullis/portcullis/policy/Pop$Network -/
def k3 : Class := { plain "com/example/portcullis/portcullis/policy/Pop$Network" (some 2) with
  accessFlags := 48
  interfaces := #[]
  cf := some (fileOf pool3 8 #[.nestHost 86] #[{ accessFlags := 0, nameIndex := 5, descriptorIndex := 39, attributes := #[] }, { accessFlags := 0, nameIndex := 75, descriptorIndex := 76, attributes := #[] }] 48 2 #[] #[{ accessFlags := 18, nameIndex := 11, descriptorIndex := 12, attributes := #[] }, { accessFlags := 18, nameIndex := 15, descriptorIndex := 12, attributes := #[] }])
  fields := #[{ name := "address", type := .int, accessFlags := 18, slot := 0, constantValue := 0 }, { name := "mask", type := .int, accessFlags := 18, slot := 1, constantValue := 0 }]
  methods := #[k3m0, k3m1]
  instanceTypes := #[.int, .int]
  staticTypes := #[]
  resolved := Array.replicate 108 none
  statics := none }

def pool4 : Array CpInfo := pool [(1, u "java/lang/Cloneable"), (0, .class_ 1), (0, u "java/lang/Object"), (0, .class_ 3)] 3

/-- java/lang/Cloneable -/
def k4 : Class := { plain "java/lang/Cloneable" (some 0) with
  accessFlags := 1537
  interfaces := #[]
  cf := some (fileOf pool4 2 #[] #[] 1537 4 #[] #[])
  fields := #[]
  methods := #[]
  instanceTypes := #[]
  staticTypes := #[]
  resolved := Array.replicate 8 none
  statics := none }

def pool5 : Array CpInfo := pool [(1, u "java/io/Serializable"), (0, .class_ 1), (0, u "java/lang/Object"), (0, .class_ 3)] 3

/-- java/io/Serializable -/
def k5 : Class := { plain "java/io/Serializable" (some 0) with
  accessFlags := 1537
  interfaces := #[]
  cf := some (fileOf pool5 2 #[] #[] 1537 4 #[] #[])
  fields := #[]
  methods := #[]
  instanceTypes := #[]
  staticTypes := #[]
  resolved := Array.replicate 8 none
  statics := none }

/-- the primitive byte -/
def k6 : Class := { plain "byte" none with kind := .primitive 'B', accessFlags := 0x411 }
/-- [B -/
def k7 : Class := { plain "[B" (some 0) with kind := .array 6 .byte, interfaces := #[4, 5], accessFlags := 1041 }

/-- the primitive int -/
def k8 : Class := { plain "int" none with kind := .primitive 'I', accessFlags := 0x411 }
/-- [I -/
def k9 : Class := { plain "[I" (some 0) with kind := .array 8 .int, interfaces := #[4, 5], accessFlags := 1041 }

def heap : Heap := #[]
def classes : Array Class := #[k0, k1, k2, k3, k4, k5, k6, k7, k8, k9]
def interned : List (Array UInt16 × Addr) := []
def slotsUsed : Nat := 0
def theMethod : MethodId := ⟨1, 1⟩
def args0 : Array Value := #[.int 24, .int 167772161, .int 5, .int 1, .int 3]
def aboutOver (below : List Frame) : State where
  vm := { classes := classes, interned := interned.toArray }
  heap := heap
  slotsUsed := slotsUsed
  threads := #[{ frames := .invoking theMethod args0 :: below }]
def below0 : List Frame := [.native { method := ⟨0, 0⟩, args := #[] }]
def about1 : State := aboutOver below0
def p0 : Program := .bare "" "" ""
def e0 : Env := launch0.env 0 0 0
theorem w_frames : about1.frames = Frame.invoking theMethod args0 :: below0 := rfl
set_option maxRecDepth 65536 in
theorem w_args : argsFit about1.vm theMethod args0 = true := by decide +kernel
set_option maxRecDepth 65536 in
theorem w_heap : heapFits about1 = true := by decide +kernel
set_option maxRecDepth 65536 in
theorem w_runnable : about1.curStatus? = some .runnable := by decide +kernel
set_option maxRecDepth 65536 in
theorem w_alone : about1.alone = true := by decide +kernel
set_option maxRecDepth 65536 in
theorem w_named : about1.methodNamed? x = some theMethod := by decide +kernel
set_option maxRecDepth 65536 in
theorem w_hears : about1.hears theMethod below0 = true := by decide +kernel
set_option maxRecDepth 65536 in
theorem w_ripe : about1.ripe theMethod args0 below0 = true := by decide +kernel
theorem w_running : about1.status = .running := rfl
set_option maxRecDepth 65536 in
theorem w_room : about1.hasRoom e0.platform room_1 = true :=
  launch0.hasRoom_least _ room_1 (by decide +kernel) (by decide +kernel) (by decide +kernel) (by decide +kernel) (by decide +kernel) (by decide +kernel)
theorem allAtoms_all (ts : List Jvm.Cond) (a : Array Jvm.Value) (st : Jvm.State) : (allAtoms ts).before a st = ts.all (fun c => c.before a st) := by
  induction ts with
  | nil => rfl
  | cons c t ih =>
    show (Jvm.Cond.and c (allAtoms t)).before a st = _
    rw [Jvm.Cond.before_and, ih, List.all_cons]
def words1 : List Jvm.Cond := Jvm.Cond.code x code maxLocals ret :: tables_1
/-- a 'code' word, met by the world's own term for the bytes: nothing is compared byte by byte -/
theorem code_word {y : MethodName} {bytes : ByteArray} {mx : Nat} {rt : Option FieldType} {a : Array Value} {s : State} {m : MethodId} {meth : Method} {c : Code} (h1 : s.methodNamed? y = some m) (h2 : s.vm.method? m = some meth) (h3 : meth.code = some c) (h4 : c.code = bytes)
    (h5 : (c.maxLocals == mx && c.exceptionTable.isEmpty && decide (c.maxStack ≤ mostOperands) && decide (meth.sig.returnType = rt) && !meth.locks && decide (parseMethodDescriptor y.desc = some meth.sig)) = true) : (Jvm.Cond.code y bytes mx rt).before a s = true := by
  simp only [Bool.and_eq_true, beq_iff_eq, Bool.not_eq_true', decide_eq_true_eq] at h5
  obtain ⟨⟨⟨⟨⟨g1, g2⟩, g3⟩, g4⟩, g5⟩, g6⟩ := h5
  simp [Cond.before, Cond.holds, Cond.value, h1, h2, h3, h4, g1, g2, g3, g4, g5, g6]
def isCode : Jvm.Cond → Bool
  | .code _ _ _ _ => true
  | _ => false
theorem all_split {L : List Jvm.Cond} {P : Jvm.Cond → Bool} (h1 : L.all (fun c => isCode c || P c) = true) (h2 : ∀ c ∈ L.filter isCode, P c = true) : L.all P = true := by
  refine List.all_eq_true.mpr fun c hc => ?_
  have h := List.all_eq_true.mp h1 c hc
  rcases Bool.eq_false_or_eq_true (isCode c) with hi | hi
  · exact h2 c (List.mem_filter.mpr ⟨hc, hi⟩)
  · simpa [hi] using h
set_option maxRecDepth 65536 in
theorem w_c0 : (Jvm.Cond.code x code maxLocals ret).before args0 about1 = true := code_word (m := ⟨1, 1⟩) (meth := k1m1) (c := k1c1) (by decide +kernel) rfl rfl rfl (by decide +kernel)
set_option maxRecDepth 65536 in
theorem w_c1 : (Jvm.Cond.code ({ cls := "com/example/portcullis/portcullis/policy/Pop$Network", name := "<init>", desc := "(II)V" } : Jvm.MethodName) prog_90_method_1_code (3 : Nat) (Option.none : Option Jvm.ClassFile.FieldType)).before args0 about1 = true := code_word (m := ⟨3, 0⟩) (meth := k3m0) (c := k3c0) (by decide +kernel) rfl rfl rfl (by decide +kernel)
set_option maxRecDepth 65536 in
theorem w_c2 : (Jvm.Cond.code ({ cls := "java/lang/Record", name := "<init>", desc := "()V" } : Jvm.MethodName) jdk_30_method_1_code (1 : Nat) (Option.none : Option Jvm.ClassFile.FieldType)).before args0 about1 = true := code_word (m := ⟨2, 0⟩) (meth := k2m0) (c := k2c0) (by decide +kernel) rfl rfl rfl (by decide +kernel)
set_option maxRecDepth 65536 in
theorem w_c3 : (Jvm.Cond.code ({ cls := "java/lang/Object", name := "<init>", desc := "()V" } : Jvm.MethodName) object_method_1_code (1 : Nat) (Option.none : Option Jvm.ClassFile.FieldType)).before args0 about1 = true := code_word (m := ⟨0, 0⟩) (meth := k0m0) (c := k0c0) (by decide +kernel) rfl rfl rfl (by decide +kernel)
set_option maxRecDepth 65536 in
theorem w_c4 : (Jvm.Cond.code ({ cls := "com/example/portcullis/portcullis/policy/Pop$Network", name := "holds", desc := "(I)Z" } : Jvm.MethodName) prog_90_method_3_code (2 : Nat) (Option.some Jvm.ClassFile.FieldType.boolean)).before args0 about1 = true := code_word (m := ⟨3, 1⟩) (meth := k3m1) (c := k3c1) (by decide +kernel) rfl rfl rfl (by decide +kernel)
def codes1 : List Jvm.Cond := [Jvm.Cond.code x code maxLocals ret, Jvm.Cond.code ({ cls := "com/example/portcullis/portcullis/policy/Pop$Network", name := "<init>", desc := "(II)V" } : Jvm.MethodName) prog_90_method_1_code (3 : Nat) (Option.none : Option Jvm.ClassFile.FieldType), Jvm.Cond.code ({ cls := "java/lang/Record", name := "<init>", desc := "()V" } : Jvm.MethodName) jdk_30_method_1_code (1 : Nat) (Option.none : Option Jvm.ClassFile.FieldType), Jvm.Cond.code ({ cls := "java/lang/Object", name := "<init>", desc := "()V" } : Jvm.MethodName) object_method_1_code (1 : Nat) (Option.none : Option Jvm.ClassFile.FieldType), Jvm.Cond.code ({ cls := "com/example/portcullis/portcullis/policy/Pop$Network", name := "holds", desc := "(I)Z" } : Jvm.MethodName) prog_90_method_3_code (2 : Nat) (Option.some Jvm.ClassFile.FieldType.boolean)]
set_option maxRecDepth 65536 in
theorem codes_eq : words1.filter isCode = codes1 := rfl
theorem w_codes : ∀ c ∈ words1.filter isCode, c.before args0 about1 = true := by
  rw [codes_eq]
  intro c hc
  simp only [codes1, List.mem_cons, List.not_mem_nil, or_false] at hc
  rcases hc with rfl | rfl | rfl | rfl | rfl
  · exact w_c0
  · exact w_c1
  · exact w_c2
  · exact w_c3
  · exact w_c4
set_option maxRecDepth 65536 in
theorem w_t1 : words1.all (fun c => isCode c || c.before args0 about1) = true := by decide +kernel
theorem w_tables : (allAtoms (Jvm.Cond.code x code maxLocals ret :: tables_1)).before args0 about1 = true := by
  rw [allAtoms_all]
  show words1.all (fun c => c.before args0 about1) = true
  refine all_split ?_ w_codes
  rw [w_t1]
set_option maxRecDepth 65536 in
theorem w_case : (Jvm.Cond.and given_1 narrow_1).before args0 about1 = true := by decide +kernel
theorem w_applies : (headSpec (Jvm.Cond.code x code maxLocals ret :: tables_1) room_1).applies x e0.platform about1 = true :=
  (Spec.applies_iff w_frames).mpr ⟨w_running, w_runnable, w_alone, w_named, w_hears, w_ripe, w_room, w_tables⟩
theorem atStart : AtStart classFile x code maxLocals ret World_1 tables_1 room_1 Calls_1 rest_1 Pre_1 launch0 p0 e0 about1 theMethod args0 below0 :=
  ⟨lists_1, trivial, launch0.admits_env _ _ _, launch0.least_env, fairChoices_fair.cas, fairChoices_fair.clock, w_frames, w_args, w_heap, w_applies, trivial, trivial, w_case⟩
end start1
theorem witness_1 : WitnessClaimed_1 := ⟨start1.p0, start1.e0, start1.about1, start1.theMethod, start1.args0, start1.below0, start1.atStart⟩
end Jvm.Pilot.@@N@@
