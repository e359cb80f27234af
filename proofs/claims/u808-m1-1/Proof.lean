import JvmDerived
import JvmDerived.Pilot.@@N@@Statement
import JvmDerived.Pilot.@@N@@Code
set_option linter.unusedVariables false
set_option linter.unusedSimpArgs false
namespace Jvm.RoadKit
open Sem ClassFile Op Lib Jvm.Stand Jvm.Free Jvm.LawKit
section New
variable {p : Program} {l : Launch} {e : Env} {R : Room} {s : State} {m : MethodId} {args : Array Value} {below : List Frame} {meth : Method} {c : Code} {T : State} {locs : List Loc} {cells slots : Nat}
theorem retI (X : Stand p l e R s m args below meth c T locs cells slots) (hx : p.tables.exec = Jvm.exec) {pc : Nat} {Ls : Array Slot} {z : Int32} {rest : List Value} (hret : meth.sig.returnType = some .int) (hd : decode c.code pc = .ok (.ireturn, 1)) {fs : List Frame}
    (hl : ∀ (f : JFrame) (acts : List Action), f.method = m → f.locked = none → f.entered = [] → (doReturn e (T.setTop f) acts (some (.int z))).1 = T.setFrames fs) : Steps p.tables e below (T.setTop (mkF m pc Ls (.int z :: rest))) (T.setFrames fs) := by
  have hm' : T.vm.method? m = some meth := X.method'
  have hn : narrow .int (.int z) = .int z := rfl
  show Steps p.tables e below (T.setTop { method := m, pc := pc, locals := Ls, stack := _ :: rest, locked := none }) _
  jvm_step X.here [X.here.top, hx, hd, hm', hret, hn]
  first | (intro acts; rw [hl _ acts rfl rfl rfl]) | rw [hl _ _ rfl rfl rfl]
  exact Steps.refl _
end New
end Jvm.RoadKit
namespace Jvm.Pilot.@@N@@
open Jvm Jvm.ClassFile Sem Op Lib Jvm.Free Jvm.Stand Jvm.LawKit Jvm.RoadKit Bundle Jvm.Pilot.@@N@@.Jvm.D
def own_ushrL (x : Int64) (y : Int32) : Int64 := (x.toUInt64 >>> (y &&& 0x3f).toInt64.toUInt64).toInt64
def own_ushr (x y : Int32) : Int32 := (x.toUInt32 >>> (y &&& 31).toUInt32).toInt32
theorem own_sA : ∀ n : Fin 64, ((Int32.ofNat n.val) &&& 0x3f).toInt64.toUInt64.toBitVec % 64#64 = BitVec.ofNat 64 n.val := by decide +kernel
theorem own_sB : ∀ n : Fin 128, ((((Int32.ofNat n.val) &&& 0x3f).toInt64).toBitVec.smod 64#64) = BitVec.ofNat 64 (n.val % 64) := by decide +kernel
theorem own_one (i : Nat) : (1#64).getLsbD i = decide (i = 0) := by
  by_cases h : i = 0
  · subst h; decide
  · simp [h, BitVec.getLsbD_one]
theorem own_bit1 (w : Int64) (s : Nat) (hs : s < 64) : (own_ushrL w (Int32.ofNat s) &&& 1 = 1) ↔ w.toBitVec.getLsbD s = true := by
  have e : (own_ushrL w (Int32.ofNat s)).toBitVec = w.toBitVec >>> s := by
    unfold own_ushrL
    simp only [UInt64.toBitVec_toInt64, UInt64.toBitVec_shiftRight, Int64.toBitVec_toUInt64]
    have q := own_sA ⟨s, hs⟩
    show w.toBitVec >>> (((Int32.ofNat s) &&& 0x3f).toInt64.toUInt64.toBitVec % 64#64) = w.toBitVec >>> s
    rw [q, BitVec.ushiftRight_eq']
    congr 1
    simp; omega
  rw [← Int64.toBitVec_inj, Int64.toBitVec_and, e]
  show _ &&& 1#64 = 1#64 ↔ _
  constructor
  · intro h
    have := congrArg (fun z => BitVec.getLsbD z 0) h
    simp only [BitVec.getLsbD_and, BitVec.getLsbD_ushiftRight, own_one, Nat.add_zero, decide_true, Bool.and_true] at this
    exact this
  · intro h
    apply BitVec.eq_of_getLsbD_eq
    intro i hi
    simp only [BitVec.getLsbD_and, BitVec.getLsbD_ushiftRight, own_one]
    by_cases h0 : i = 0
    · subst h0; simp [h]
    · simp [h0]
theorem own_bit2 (w : Int64) (n : Nat) (hn : n < 128) : (w &&& ((1 : Int64) <<< ((Int32.ofNat n) &&& 0x3f).toInt64) = 0) ↔ w.toBitVec.getLsbD (n % 64) = false := by
  have e : ((1 : Int64) <<< ((Int32.ofNat n) &&& 0x3f).toInt64).toBitVec = 1#64 <<< (n % 64) := by
    show 1#64 <<< ((((Int32.ofNat n) &&& 0x3f).toInt64).toBitVec.smod 64#64) = _
    rw [own_sB ⟨n, hn⟩, BitVec.shiftLeft_eq']
    congr 1
    simp; omega
  rw [← Int64.toBitVec_inj, Int64.toBitVec_and, e]
  show _ &&& _ = 0#64 ↔ _
  constructor
  · intro h
    have := congrArg (fun z => BitVec.getLsbD z (n % 64)) h
    simp only [BitVec.getLsbD_and, BitVec.getLsbD_shiftLeft, own_one, BitVec.getLsbD_zero] at this
    have hlt : n % 64 < 64 := by omega
    simpa [hlt] using this
  · intro h
    apply BitVec.eq_of_getLsbD_eq
    intro i hi
    simp only [BitVec.getLsbD_and, BitVec.getLsbD_shiftLeft, own_one, BitVec.getLsbD_zero]
    by_cases h0 : i = n % 64
    · rw [h0, h]; simp
    · have : ¬ (i < n % 64) → ¬ (i - n % 64 = 0) := by omega
      by_cases h1 : i < n % 64
      · simp [h1]
      · simp [this h1]
def own_w (s0 s1 : Int64) (x : Int32) : Int64 := if x < 64 then s0 else s1
def own_b (x : Int32) : Int32 := if x < 64 then x else x - 64
def own_hold (s0 s1 : Int64) (x : Int32) : Int32 := if (own_ushrL (own_w s0 s1 x) (own_b x)) &&& 1 = 1 then 1 else 0
def own_hb (s0 s1 : Int64) (x : Int32) : Int32 := if (own_w s0 s1 x &&& ((1 : Int64) <<< (x &&& 0x3f).toInt64)) = 0 then 0 else 1
def own_fa (H : Int32) (s0 s1 : Int64) : List Int32 → Int32
  | [] => -1
  | x :: xs => if own_hb s0 s1 x = H then x else own_fa H s0 s1 xs
theorem own_b128 : ∀ n : Fin 128, own_b (Int32.ofNat n.val) = Int32.ofNat (n.val % 64) := by decide +kernel
theorem own_same (s0 s1 : Int64) (n : Nat) (hn : n < 128) : own_hb s0 s1 (Int32.ofNat n) = own_hold s0 s1 (Int32.ofNat n) := by
  unfold own_hb own_hold
  have eb := own_b128 ⟨n, hn⟩
  simp only [] at eb
  rw [eb]
  have k1 := own_bit1 (own_w s0 s1 (Int32.ofNat n)) (n % 64) (by omega)
  have k2 := own_bit2 (own_w s0 s1 (Int32.ofNat n)) n hn
  cases hb : (own_w s0 s1 (Int32.ofNat n)).toBitVec.getLsbD (n % 64) with
  | true => rw [hb] at k1 k2; rw [if_pos (k1.mpr rfl), if_neg (fun q => by simpa using k2.mp q)]
  | false => rw [hb] at k1 k2; rw [if_pos (k2.mpr rfl), if_neg (fun q => by simpa using k1.mp q)]
theorem own_i1 : ∀ i N : Fin 4, (Int32.ofNat i.val < Int32.ofNat N.val) ↔ i.val < N.val := by decide +kernel
theorem own_i2 : ∀ i : Fin 4, ¬ (Int32.ofNat i.val < 0) ∧ (Int32.ofNat i.val).toNatClampNeg = i.val ∧ Int32.ofNat i.val + 1 = Int32.ofNat (i.val + 1) := by decide +kernel
theorem own_i3 : ∀ n : Fin 128, ¬ (Int32.ofNat n.val < 0) ∧ ¬ (own_ushr (Int32.ofNat n.val) 6 < 0) ∧ (own_ushr (Int32.ofNat n.val) 6).toNatClampNeg = n.val / 64 ∧ ((Int32.ofNat n.val < 64) ↔ n.val < 64) := by decide +kernel
theorem own_127 (a : Int32) : ∃ n, n < 128 ∧ a &&& 127 = Int32.ofNat n := by
  refine ⟨(a &&& 127).toBitVec.toNat, ?_, ?_⟩
  · rw [Int32.toBitVec_and, BitVec.toNat_and]
    exact Nat.lt_of_le_of_lt Nat.and_le_right (by decide)
  · apply Int32.toBitVec_inj.mp
    show _ = BitVec.ofNat 32 _
    rw [BitVec.ofNat_toNat, BitVec.setWidth_eq]
theorem own_3 (a : Int32) : a &&& 3 = 0 ∨ a &&& 3 = 1 ∨ a &&& 3 = 2 ∨ a &&& 3 = 3 := by
  have h : (a &&& 3).toBitVec.toNat < 4 := by
    rw [Int32.toBitVec_and, BitVec.toNat_and]
    exact Nat.lt_of_le_of_lt Nat.and_le_right (by decide)
  have e : a &&& 3 = Int32.ofNat (a &&& 3).toBitVec.toNat := by
    apply Int32.toBitVec_inj.mp
    show _ = BitVec.ofNat 32 _
    rw [BitVec.ofNat_toNat, BitVec.setWidth_eq]
  rw [e]
  exact (by decide : ∀ n : Fin 4, Int32.ofNat n.val = 0 ∨ Int32.ofNat n.val = 1 ∨ Int32.ofNat n.val = 2 ∨ Int32.ofNat n.val = 3) ⟨_, h⟩
theorem d2_0 : decode method_3_code 0 = .ok (.iload 4, 2) := by decide +kernel
theorem d2_2 : decode method_3_code 2 = .ok (.bipush 64, 2) := by decide +kernel
theorem d2_4 : decode method_3_code 4 = .ok (.if_icmp .ge 7, 3) := by decide +kernel
theorem d2_7 : decode method_3_code 7 = .ok (.lload_n 0, 1) := by decide +kernel
theorem d2_8 : decode method_3_code 8 = .ok (.goto 4, 3) := by decide +kernel
theorem d2_11 : decode method_3_code 11 = .ok (.lload_n 2, 1) := by decide +kernel
theorem d2_12 : decode method_3_code 12 = .ok (.lstore 5, 2) := by decide +kernel
theorem d2_14 : decode method_3_code 14 = .ok (.iload 4, 2) := by decide +kernel
theorem d2_16 : decode method_3_code 16 = .ok (.bipush 64, 2) := by decide +kernel
theorem d2_18 : decode method_3_code 18 = .ok (.if_icmp .ge 8, 3) := by decide +kernel
theorem d2_21 : decode method_3_code 21 = .ok (.iload 4, 2) := by decide +kernel
theorem d2_23 : decode method_3_code 23 = .ok (.goto 8, 3) := by decide +kernel
theorem d2_26 : decode method_3_code 26 = .ok (.iload 4, 2) := by decide +kernel
theorem d2_28 : decode method_3_code 28 = .ok (.bipush 64, 2) := by decide +kernel
theorem d2_30 : decode method_3_code 30 = .ok (.isub, 1) := by decide +kernel
theorem d2_31 : decode method_3_code 31 = .ok (.istore 7, 2) := by decide +kernel
theorem d2_33 : decode method_3_code 33 = .ok (.lload 5, 2) := by decide +kernel
theorem d2_35 : decode method_3_code 35 = .ok (.iload 7, 2) := by decide +kernel
theorem d2_37 : decode method_3_code 37 = .ok (.lushr, 1) := by decide +kernel
theorem d2_38 : decode method_3_code 38 = .ok (.lconst 1, 1) := by decide +kernel
theorem d2_39 : decode method_3_code 39 = .ok (.land, 1) := by decide +kernel
theorem d2_40 : decode method_3_code 40 = .ok (.lconst 1, 1) := by decide +kernel
theorem d2_41 : decode method_3_code 41 = .ok (.lcmp, 1) := by decide +kernel
theorem d2_42 : decode method_3_code 42 = .ok (.ifCond .ne 7, 3) := by decide +kernel
theorem d2_45 : decode method_3_code 45 = .ok (.iconst 1, 1) := by decide +kernel
theorem d2_46 : decode method_3_code 46 = .ok (.goto 4, 3) := by decide +kernel
theorem d2_49 : decode method_3_code 49 = .ok (.iconst 0, 1) := by decide +kernel
theorem d2_50 : decode method_3_code 50 = .ok (.ireturn, 1) := by decide +kernel
theorem pn_2 : plainName "com/example/ilmarinen/ilmarinen/search/GroundTaskFirstAtomPinLaw" = true := by first | (simp [plainName, overriddenIn]; done) | decide +kernel
theorem ef_2 (m : MethodId) (x0 : Int64) (x1 : Int64) (x2 : Int32) : entryFrame m #[(.long x0), (.long x1), (.int x2)] 8 = mkF m 0 #[.val (.long x0), .second, .val (.long x1), .second, .val (.int x2), .unset, .unset, .unset] [] := by first | (simp [entryFrame, mkF, argsToLocals, Value.category]; done) | rfl
def Q2 (Z : State) (q1 : Int64) (q2 : Int64) (p3 : Int32) (h0 : Heap) (n0 : Nat) (v : Option Value) (h : Heap) (L : List Loc) : Prop := v = some (.int (own_hold q1 q2 p3)) ∧ Fr n0 L ∧ h = h0
set_option maxRecDepth 65536 in
set_option maxHeartbeats 40000000 in
theorem rm2 (l : Launch) (Z : State) (a0 : Array Value) (hw : ∀ d ∈ tables_1, d.before a0 Z = true) (ws : List Jvm.Cond) (q1 : Int64) (q2 : Int64) (p3 : Int32) (h0 : Heap) (n0 : Nat) (Z0 : n0 ≤ h0.size) :
    MetFree l (⟨"com/example/ilmarinen/ilmarinen/search/GroundTaskFirstAtomPinLaw", "holds", "(JJI)Z"⟩ : MethodName) (head1 (Jvm.Cond.code (⟨"com/example/ilmarinen/ilmarinen/search/GroundTaskFirstAtomPinLaw", "holds", "(JJI)Z"⟩ : MethodName) method_3_code 8 (some .boolean) :: ws) ({ frames := 0, cells := 0, slots := 0, locals := 0 } : Room)) (fun a U => a = #[(.long q1), (.long q2), (.int p3)] ∧ Z.Warmed39 U.vm ∧ U.heap = h0) (fun _ _ _ _ _ => True) (fun _ U o U' => ∃ v L, o = .returned v ∧ Q2 Z q1 q2 p3 h0 n0 v U'.heap L ∧ FrameEnd U o U' L (({ frames := 0, cells := 0, slots := 0, locals := 0 } : Room)).cells (({ frames := 0, cells := 0, slots := 0, locals := 0 } : Room)).slots) := by
  refine MetFree.of_bodySF (plainFor_of_name pn_2) hisR ?_
  intro p e s m args below meth c s₁ Bd hml0 hP hK
  obtain ⟨rfl, hZ, hh⟩ := hP
  have hx := Bd.exec
  have hby := Bd.bytes
  have hml : c.maxLocals = 8 := hml0
  have hown : s.vm.findClass "com/example/ilmarinen/ilmarinen/search/GroundTaskFirstAtomPinLaw" = some m.cls := findClass_of_methodNamed Bd.named
  have hnm := (name_of_methodNamed Bd.named Bd.method).1
  have X0 : Stand p l e ({ frames := 0, cells := 0, slots := 0, locals := 0 } : Room) s m #[(.long q1), (.long q2), (.int p3)] below meth c s₁ [] 0 0 := Stand.of_body Bd
  have e0 : s₁.heap = h0 := by rw [← hh, Bd.state]; rfl
  have N0 := Fr.nil n0
  have pre0 : ∀ t, Steps p.tables e below (s₁.setTop (mkF m 0 #[.val (.long q1), .second, .val (.long q2), .second, .val (.int p3), .unset, .unset, .unset] [])) t → Steps p.tables e below (s₁.setTop (entryFrame m #[(.long q1), (.long q2), (.int p3)] 8)) t := fun t k => castTop (ef_2 m q1 q2 p3) k
  obtain ⟨fs, hr, hrun, hended, hW, hsame⟩ := X0.leave (v := some (.int (own_hold q1 q2 p3))) (fun h => by rw [Bd.returns] at h; cases h)
  refine ⟨_, _, pre0 _ ?_, hrun, hended, _, _, rfl, ?_, ⟨_, rfl⟩, hW, hsame.mono (by decide) (by decide)⟩
  · show Steps p.tables e below (s₁.setTop (mkF m 0 #[.val (.long q1), .second, .val (.long q2), .second, .val (.int p3), .unset, .unset, .unset] [])) _
    refine XS.iload X0.here hx rfl (hb hby d2_0) rfl ?_
    show Steps p.tables e below (s₁.setTop (mkF m 2 #[.val (.long q1), .second, .val (.long q2), .second, .val (.int p3), .unset, .unset, .unset] [(.int p3)])) _
    refine XS.bipush X0.here hx rfl (hb hby d2_2) ?_
    show Steps p.tables e below (s₁.setTop (mkF m 4 #[.val (.long q1), .second, .val (.long q2), .second, .val (.int p3), .unset, .unset, .unset] [(.int (64 : Int32)), (.int p3)])) _
    by_cases c4 : p3 < (64 : Int32)
    · refine XS.icmpNo X0.here hx rfl (hb hby d2_4) rfl (tlt c4).2.1 ?_
      show Steps p.tables e below (s₁.setTop (mkF m 7 #[.val (.long q1), .second, .val (.long q2), .second, .val (.int p3), .unset, .unset, .unset] [])) _
      refine XS.lloadN X0.here hx rfl (hb hby d2_7) rfl ?_
      show Steps p.tables e below (s₁.setTop (mkF m 8 #[.val (.long q1), .second, .val (.long q2), .second, .val (.int p3), .unset, .unset, .unset] [(.long q1)])) _
      refine XS.goto X0.here hx rfl (pc0 := 8) (pc' := 12) rfl (hb hby d2_8) (by decide) (by decide) ?_
      show Steps p.tables e below (s₁.setTop (mkF m 12 #[.val (.long q1), .second, .val (.long q2), .second, .val (.int p3), .unset, .unset, .unset] [(.long q1)])) _
      refine XS.lstore X0.here hx rfl (hb hby d2_12) rfl (l' := #[.val (.long q1), .second, .val (.long q2), .second, .val (.int p3), .val (.long q1), .second, .unset]) rfl ?_
      show Steps p.tables e below (s₁.setTop (mkF m 14 #[.val (.long q1), .second, .val (.long q2), .second, .val (.int p3), .val (.long q1), .second, .unset] [])) _
      refine XS.iload X0.here hx rfl (hb hby d2_14) rfl ?_
      show Steps p.tables e below (s₁.setTop (mkF m 16 #[.val (.long q1), .second, .val (.long q2), .second, .val (.int p3), .val (.long q1), .second, .unset] [(.int p3)])) _
      refine XS.bipush X0.here hx rfl (hb hby d2_16) ?_
      show Steps p.tables e below (s₁.setTop (mkF m 18 #[.val (.long q1), .second, .val (.long q2), .second, .val (.int p3), .val (.long q1), .second, .unset] [(.int (64 : Int32)), (.int p3)])) _
      by_cases c18 : p3 < (64 : Int32)
      · refine XS.icmpNo X0.here hx rfl (hb hby d2_18) rfl (tlt c18).2.1 ?_
        show Steps p.tables e below (s₁.setTop (mkF m 21 #[.val (.long q1), .second, .val (.long q2), .second, .val (.int p3), .val (.long q1), .second, .unset] [])) _
        refine XS.iload X0.here hx rfl (hb hby d2_21) rfl ?_
        show Steps p.tables e below (s₁.setTop (mkF m 23 #[.val (.long q1), .second, .val (.long q2), .second, .val (.int p3), .val (.long q1), .second, .unset] [(.int p3)])) _
        refine XS.goto X0.here hx rfl (pc0 := 23) (pc' := 31) rfl (hb hby d2_23) (by decide) (by decide) ?_
        show Steps p.tables e below (s₁.setTop (mkF m 31 #[.val (.long q1), .second, .val (.long q2), .second, .val (.int p3), .val (.long q1), .second, .unset] [(.int p3)])) _
        refine XS.istore X0.here hx rfl (hb hby d2_31) rfl (l' := #[.val (.long q1), .second, .val (.long q2), .second, .val (.int p3), .val (.long q1), .second, .val (.int p3)]) rfl ?_
        show Steps p.tables e below (s₁.setTop (mkF m 33 #[.val (.long q1), .second, .val (.long q2), .second, .val (.int p3), .val (.long q1), .second, .val (.int p3)] [])) _
        refine XS.lload X0.here hx rfl (hb hby d2_33) rfl ?_
        show Steps p.tables e below (s₁.setTop (mkF m 35 #[.val (.long q1), .second, .val (.long q2), .second, .val (.int p3), .val (.long q1), .second, .val (.int p3)] [(.long q1)])) _
        refine XS.iload X0.here hx rfl (hb hby d2_35) rfl ?_
        show Steps p.tables e below (s₁.setTop (mkF m 37 #[.val (.long q1), .second, .val (.long q2), .second, .val (.int p3), .val (.long q1), .second, .val (.int p3)] [(.int p3), (.long q1)])) _
        refine XS.lushr X0.here hx rfl (hb hby d2_37) rfl ?_
        show Steps p.tables e below (s₁.setTop (mkF m 38 #[.val (.long q1), .second, .val (.long q2), .second, .val (.int p3), .val (.long q1), .second, .val (.int p3)] [(.long (own_ushrL q1 p3))])) _
        refine XS.lconst X0.here hx rfl (hb hby d2_38) ?_
        show Steps p.tables e below (s₁.setTop (mkF m 39 #[.val (.long q1), .second, .val (.long q2), .second, .val (.int p3), .val (.long q1), .second, .val (.int p3)] [(.long (1 : Int64)), (.long (own_ushrL q1 p3))])) _
        refine XS.land X0.here hx rfl (hb hby d2_39) rfl ?_
        show Steps p.tables e below (s₁.setTop (mkF m 40 #[.val (.long q1), .second, .val (.long q2), .second, .val (.int p3), .val (.long q1), .second, .val (.int p3)] [(.long ((own_ushrL q1 p3) &&& (1 : Int64)))])) _
        refine XS.lconst X0.here hx rfl (hb hby d2_40) ?_
        show Steps p.tables e below (s₁.setTop (mkF m 41 #[.val (.long q1), .second, .val (.long q2), .second, .val (.int p3), .val (.long q1), .second, .val (.int p3)] [(.long (1 : Int64)), (.long ((own_ushrL q1 p3) &&& (1 : Int64)))])) _
        refine XS.lcmp X0.here hx rfl (hb hby d2_41) rfl ?_
        show Steps p.tables e below (s₁.setTop (mkF m 42 #[.val (.long q1), .second, .val (.long q2), .second, .val (.int p3), .val (.long q1), .second, .val (.int p3)] [(.int (lcmpW ((own_ushrL q1 p3) &&& (1 : Int64)) (1 : Int64)))])) _
        by_cases c42 : ((own_ushrL q1 p3) &&& (1 : Int64)) = (1 : Int64)
        · refine XS.ifNo X0.here hx rfl (hb hby d2_42) rfl ((if0 _ _).trans (teq ((lw_eq _ _).mpr c42)).2) ?_
          show Steps p.tables e below (s₁.setTop (mkF m 45 #[.val (.long q1), .second, .val (.long q2), .second, .val (.int p3), .val (.long q1), .second, .val (.int p3)] [])) _
          refine XS.iconst X0.here hx rfl (hb hby d2_45) ?_
          show Steps p.tables e below (s₁.setTop (mkF m 46 #[.val (.long q1), .second, .val (.long q2), .second, .val (.int p3), .val (.long q1), .second, .val (.int p3)] [(.int (1 : Int32))])) _
          refine XS.goto X0.here hx rfl (pc0 := 46) (pc' := 50) rfl (hb hby d2_46) (by decide) (by decide) ?_
          show Steps p.tables e below (s₁.setTop (mkF m 50 #[.val (.long q1), .second, .val (.long q2), .second, .val (.int p3), .val (.long q1), .second, .val (.int p3)] [(.int (1 : Int32))])) _
          have ev : own_hold q1 q2 p3 = (1 : Int32) := by first | rfl | (rw [own_hold, own_w, own_b, if_pos c4, if_pos c18, if_pos c42]; done) | (simp only [own_hold, own_w, own_b, c4, c18, c42, if_true, if_false]; done) | (simp [own_hold, own_w, own_b, c4, c18, c42]; done) | contradiction | ((unfold own_hold own_w own_b; repeat' split) <;> first | rfl | contradiction | (simp_all; done))
          rw [ev] at hr
          exact retN X0 hx (t := .boolean) Bd.returns (by simp) (hb hby d2_50) hr
        · refine XS.ifYes X0.here hx rfl (pc0 := 42) (pc' := 49) rfl (hb hby d2_42) rfl ((if0 _ _).trans (feq (fun q => c42 ((lw_eq _ _).mp q))).2) (by decide) (by decide) ?_
          show Steps p.tables e below (s₁.setTop (mkF m 49 #[.val (.long q1), .second, .val (.long q2), .second, .val (.int p3), .val (.long q1), .second, .val (.int p3)] [])) _
          refine XS.iconst X0.here hx rfl (hb hby d2_49) ?_
          show Steps p.tables e below (s₁.setTop (mkF m 50 #[.val (.long q1), .second, .val (.long q2), .second, .val (.int p3), .val (.long q1), .second, .val (.int p3)] [(.int (0 : Int32))])) _
          have ev : own_hold q1 q2 p3 = (0 : Int32) := by first | rfl | (rw [own_hold, own_w, own_b, if_pos c4, if_pos c18, if_neg c42]; done) | (simp only [own_hold, own_w, own_b, c4, c18, c42, if_true, if_false]; done) | (simp [own_hold, own_w, own_b, c4, c18, c42]; done) | contradiction | ((unfold own_hold own_w own_b; repeat' split) <;> first | rfl | contradiction | (simp_all; done))
          rw [ev] at hr
          exact retN X0 hx (t := .boolean) Bd.returns (by simp) (hb hby d2_50) hr
      · refine XS.icmpYes X0.here hx rfl (pc0 := 18) (pc' := 26) rfl (hb hby d2_18) rfl (flt c18).2.1 (by decide) (by decide) ?_
        show Steps p.tables e below (s₁.setTop (mkF m 26 #[.val (.long q1), .second, .val (.long q2), .second, .val (.int p3), .val (.long q1), .second, .unset] [])) _
        refine XS.iload X0.here hx rfl (hb hby d2_26) rfl ?_
        show Steps p.tables e below (s₁.setTop (mkF m 28 #[.val (.long q1), .second, .val (.long q2), .second, .val (.int p3), .val (.long q1), .second, .unset] [(.int p3)])) _
        refine XS.bipush X0.here hx rfl (hb hby d2_28) ?_
        show Steps p.tables e below (s₁.setTop (mkF m 30 #[.val (.long q1), .second, .val (.long q2), .second, .val (.int p3), .val (.long q1), .second, .unset] [(.int (64 : Int32)), (.int p3)])) _
        refine XS.isub X0.here hx rfl (hb hby d2_30) rfl ?_
        show Steps p.tables e below (s₁.setTop (mkF m 31 #[.val (.long q1), .second, .val (.long q2), .second, .val (.int p3), .val (.long q1), .second, .unset] [(.int (p3 - (64 : Int32)))])) _
        refine XS.istore X0.here hx rfl (hb hby d2_31) rfl (l' := #[.val (.long q1), .second, .val (.long q2), .second, .val (.int p3), .val (.long q1), .second, .val (.int (p3 - (64 : Int32)))]) rfl ?_
        show Steps p.tables e below (s₁.setTop (mkF m 33 #[.val (.long q1), .second, .val (.long q2), .second, .val (.int p3), .val (.long q1), .second, .val (.int (p3 - (64 : Int32)))] [])) _
        refine XS.lload X0.here hx rfl (hb hby d2_33) rfl ?_
        show Steps p.tables e below (s₁.setTop (mkF m 35 #[.val (.long q1), .second, .val (.long q2), .second, .val (.int p3), .val (.long q1), .second, .val (.int (p3 - (64 : Int32)))] [(.long q1)])) _
        refine XS.iload X0.here hx rfl (hb hby d2_35) rfl ?_
        show Steps p.tables e below (s₁.setTop (mkF m 37 #[.val (.long q1), .second, .val (.long q2), .second, .val (.int p3), .val (.long q1), .second, .val (.int (p3 - (64 : Int32)))] [(.int (p3 - (64 : Int32))), (.long q1)])) _
        refine XS.lushr X0.here hx rfl (hb hby d2_37) rfl ?_
        show Steps p.tables e below (s₁.setTop (mkF m 38 #[.val (.long q1), .second, .val (.long q2), .second, .val (.int p3), .val (.long q1), .second, .val (.int (p3 - (64 : Int32)))] [(.long (own_ushrL q1 (p3 - (64 : Int32))))])) _
        refine XS.lconst X0.here hx rfl (hb hby d2_38) ?_
        show Steps p.tables e below (s₁.setTop (mkF m 39 #[.val (.long q1), .second, .val (.long q2), .second, .val (.int p3), .val (.long q1), .second, .val (.int (p3 - (64 : Int32)))] [(.long (1 : Int64)), (.long (own_ushrL q1 (p3 - (64 : Int32))))])) _
        refine XS.land X0.here hx rfl (hb hby d2_39) rfl ?_
        show Steps p.tables e below (s₁.setTop (mkF m 40 #[.val (.long q1), .second, .val (.long q2), .second, .val (.int p3), .val (.long q1), .second, .val (.int (p3 - (64 : Int32)))] [(.long ((own_ushrL q1 (p3 - (64 : Int32))) &&& (1 : Int64)))])) _
        refine XS.lconst X0.here hx rfl (hb hby d2_40) ?_
        show Steps p.tables e below (s₁.setTop (mkF m 41 #[.val (.long q1), .second, .val (.long q2), .second, .val (.int p3), .val (.long q1), .second, .val (.int (p3 - (64 : Int32)))] [(.long (1 : Int64)), (.long ((own_ushrL q1 (p3 - (64 : Int32))) &&& (1 : Int64)))])) _
        refine XS.lcmp X0.here hx rfl (hb hby d2_41) rfl ?_
        show Steps p.tables e below (s₁.setTop (mkF m 42 #[.val (.long q1), .second, .val (.long q2), .second, .val (.int p3), .val (.long q1), .second, .val (.int (p3 - (64 : Int32)))] [(.int (lcmpW ((own_ushrL q1 (p3 - (64 : Int32))) &&& (1 : Int64)) (1 : Int64)))])) _
        by_cases c42 : ((own_ushrL q1 (p3 - (64 : Int32))) &&& (1 : Int64)) = (1 : Int64)
        · refine XS.ifNo X0.here hx rfl (hb hby d2_42) rfl ((if0 _ _).trans (teq ((lw_eq _ _).mpr c42)).2) ?_
          show Steps p.tables e below (s₁.setTop (mkF m 45 #[.val (.long q1), .second, .val (.long q2), .second, .val (.int p3), .val (.long q1), .second, .val (.int (p3 - (64 : Int32)))] [])) _
          refine XS.iconst X0.here hx rfl (hb hby d2_45) ?_
          show Steps p.tables e below (s₁.setTop (mkF m 46 #[.val (.long q1), .second, .val (.long q2), .second, .val (.int p3), .val (.long q1), .second, .val (.int (p3 - (64 : Int32)))] [(.int (1 : Int32))])) _
          refine XS.goto X0.here hx rfl (pc0 := 46) (pc' := 50) rfl (hb hby d2_46) (by decide) (by decide) ?_
          show Steps p.tables e below (s₁.setTop (mkF m 50 #[.val (.long q1), .second, .val (.long q2), .second, .val (.int p3), .val (.long q1), .second, .val (.int (p3 - (64 : Int32)))] [(.int (1 : Int32))])) _
          have ev : own_hold q1 q2 p3 = (1 : Int32) := by first | rfl | (rw [own_hold, own_w, own_b, if_pos c4, if_neg c18, if_pos c42]; done) | (simp only [own_hold, own_w, own_b, c4, c18, c42, if_true, if_false]; done) | (simp [own_hold, own_w, own_b, c4, c18, c42]; done) | contradiction | ((unfold own_hold own_w own_b; repeat' split) <;> first | rfl | contradiction | (simp_all; done))
          rw [ev] at hr
          exact retN X0 hx (t := .boolean) Bd.returns (by simp) (hb hby d2_50) hr
        · refine XS.ifYes X0.here hx rfl (pc0 := 42) (pc' := 49) rfl (hb hby d2_42) rfl ((if0 _ _).trans (feq (fun q => c42 ((lw_eq _ _).mp q))).2) (by decide) (by decide) ?_
          show Steps p.tables e below (s₁.setTop (mkF m 49 #[.val (.long q1), .second, .val (.long q2), .second, .val (.int p3), .val (.long q1), .second, .val (.int (p3 - (64 : Int32)))] [])) _
          refine XS.iconst X0.here hx rfl (hb hby d2_49) ?_
          show Steps p.tables e below (s₁.setTop (mkF m 50 #[.val (.long q1), .second, .val (.long q2), .second, .val (.int p3), .val (.long q1), .second, .val (.int (p3 - (64 : Int32)))] [(.int (0 : Int32))])) _
          have ev : own_hold q1 q2 p3 = (0 : Int32) := by first | rfl | (rw [own_hold, own_w, own_b, if_pos c4, if_neg c18, if_neg c42]; done) | (simp only [own_hold, own_w, own_b, c4, c18, c42, if_true, if_false]; done) | (simp [own_hold, own_w, own_b, c4, c18, c42]; done) | contradiction | ((unfold own_hold own_w own_b; repeat' split) <;> first | rfl | contradiction | (simp_all; done))
          rw [ev] at hr
          exact retN X0 hx (t := .boolean) Bd.returns (by simp) (hb hby d2_50) hr
    · refine XS.icmpYes X0.here hx rfl (pc0 := 4) (pc' := 11) rfl (hb hby d2_4) rfl (flt c4).2.1 (by decide) (by decide) ?_
      show Steps p.tables e below (s₁.setTop (mkF m 11 #[.val (.long q1), .second, .val (.long q2), .second, .val (.int p3), .unset, .unset, .unset] [])) _
      refine XS.lloadN X0.here hx rfl (hb hby d2_11) rfl ?_
      show Steps p.tables e below (s₁.setTop (mkF m 12 #[.val (.long q1), .second, .val (.long q2), .second, .val (.int p3), .unset, .unset, .unset] [(.long q2)])) _
      refine XS.lstore X0.here hx rfl (hb hby d2_12) rfl (l' := #[.val (.long q1), .second, .val (.long q2), .second, .val (.int p3), .val (.long q2), .second, .unset]) rfl ?_
      show Steps p.tables e below (s₁.setTop (mkF m 14 #[.val (.long q1), .second, .val (.long q2), .second, .val (.int p3), .val (.long q2), .second, .unset] [])) _
      refine XS.iload X0.here hx rfl (hb hby d2_14) rfl ?_
      show Steps p.tables e below (s₁.setTop (mkF m 16 #[.val (.long q1), .second, .val (.long q2), .second, .val (.int p3), .val (.long q2), .second, .unset] [(.int p3)])) _
      refine XS.bipush X0.here hx rfl (hb hby d2_16) ?_
      show Steps p.tables e below (s₁.setTop (mkF m 18 #[.val (.long q1), .second, .val (.long q2), .second, .val (.int p3), .val (.long q2), .second, .unset] [(.int (64 : Int32)), (.int p3)])) _
      by_cases c18 : p3 < (64 : Int32)
      · refine XS.icmpNo X0.here hx rfl (hb hby d2_18) rfl (tlt c18).2.1 ?_
        show Steps p.tables e below (s₁.setTop (mkF m 21 #[.val (.long q1), .second, .val (.long q2), .second, .val (.int p3), .val (.long q2), .second, .unset] [])) _
        refine XS.iload X0.here hx rfl (hb hby d2_21) rfl ?_
        show Steps p.tables e below (s₁.setTop (mkF m 23 #[.val (.long q1), .second, .val (.long q2), .second, .val (.int p3), .val (.long q2), .second, .unset] [(.int p3)])) _
        refine XS.goto X0.here hx rfl (pc0 := 23) (pc' := 31) rfl (hb hby d2_23) (by decide) (by decide) ?_
        show Steps p.tables e below (s₁.setTop (mkF m 31 #[.val (.long q1), .second, .val (.long q2), .second, .val (.int p3), .val (.long q2), .second, .unset] [(.int p3)])) _
        refine XS.istore X0.here hx rfl (hb hby d2_31) rfl (l' := #[.val (.long q1), .second, .val (.long q2), .second, .val (.int p3), .val (.long q2), .second, .val (.int p3)]) rfl ?_
        show Steps p.tables e below (s₁.setTop (mkF m 33 #[.val (.long q1), .second, .val (.long q2), .second, .val (.int p3), .val (.long q2), .second, .val (.int p3)] [])) _
        refine XS.lload X0.here hx rfl (hb hby d2_33) rfl ?_
        show Steps p.tables e below (s₁.setTop (mkF m 35 #[.val (.long q1), .second, .val (.long q2), .second, .val (.int p3), .val (.long q2), .second, .val (.int p3)] [(.long q2)])) _
        refine XS.iload X0.here hx rfl (hb hby d2_35) rfl ?_
        show Steps p.tables e below (s₁.setTop (mkF m 37 #[.val (.long q1), .second, .val (.long q2), .second, .val (.int p3), .val (.long q2), .second, .val (.int p3)] [(.int p3), (.long q2)])) _
        refine XS.lushr X0.here hx rfl (hb hby d2_37) rfl ?_
        show Steps p.tables e below (s₁.setTop (mkF m 38 #[.val (.long q1), .second, .val (.long q2), .second, .val (.int p3), .val (.long q2), .second, .val (.int p3)] [(.long (own_ushrL q2 p3))])) _
        refine XS.lconst X0.here hx rfl (hb hby d2_38) ?_
        show Steps p.tables e below (s₁.setTop (mkF m 39 #[.val (.long q1), .second, .val (.long q2), .second, .val (.int p3), .val (.long q2), .second, .val (.int p3)] [(.long (1 : Int64)), (.long (own_ushrL q2 p3))])) _
        refine XS.land X0.here hx rfl (hb hby d2_39) rfl ?_
        show Steps p.tables e below (s₁.setTop (mkF m 40 #[.val (.long q1), .second, .val (.long q2), .second, .val (.int p3), .val (.long q2), .second, .val (.int p3)] [(.long ((own_ushrL q2 p3) &&& (1 : Int64)))])) _
        refine XS.lconst X0.here hx rfl (hb hby d2_40) ?_
        show Steps p.tables e below (s₁.setTop (mkF m 41 #[.val (.long q1), .second, .val (.long q2), .second, .val (.int p3), .val (.long q2), .second, .val (.int p3)] [(.long (1 : Int64)), (.long ((own_ushrL q2 p3) &&& (1 : Int64)))])) _
        refine XS.lcmp X0.here hx rfl (hb hby d2_41) rfl ?_
        show Steps p.tables e below (s₁.setTop (mkF m 42 #[.val (.long q1), .second, .val (.long q2), .second, .val (.int p3), .val (.long q2), .second, .val (.int p3)] [(.int (lcmpW ((own_ushrL q2 p3) &&& (1 : Int64)) (1 : Int64)))])) _
        by_cases c42 : ((own_ushrL q2 p3) &&& (1 : Int64)) = (1 : Int64)
        · refine XS.ifNo X0.here hx rfl (hb hby d2_42) rfl ((if0 _ _).trans (teq ((lw_eq _ _).mpr c42)).2) ?_
          show Steps p.tables e below (s₁.setTop (mkF m 45 #[.val (.long q1), .second, .val (.long q2), .second, .val (.int p3), .val (.long q2), .second, .val (.int p3)] [])) _
          refine XS.iconst X0.here hx rfl (hb hby d2_45) ?_
          show Steps p.tables e below (s₁.setTop (mkF m 46 #[.val (.long q1), .second, .val (.long q2), .second, .val (.int p3), .val (.long q2), .second, .val (.int p3)] [(.int (1 : Int32))])) _
          refine XS.goto X0.here hx rfl (pc0 := 46) (pc' := 50) rfl (hb hby d2_46) (by decide) (by decide) ?_
          show Steps p.tables e below (s₁.setTop (mkF m 50 #[.val (.long q1), .second, .val (.long q2), .second, .val (.int p3), .val (.long q2), .second, .val (.int p3)] [(.int (1 : Int32))])) _
          have ev : own_hold q1 q2 p3 = (1 : Int32) := by first | rfl | (rw [own_hold, own_w, own_b, if_neg c4, if_pos c18, if_pos c42]; done) | (simp only [own_hold, own_w, own_b, c4, c18, c42, if_true, if_false]; done) | (simp [own_hold, own_w, own_b, c4, c18, c42]; done) | contradiction | ((unfold own_hold own_w own_b; repeat' split) <;> first | rfl | contradiction | (simp_all; done))
          rw [ev] at hr
          exact retN X0 hx (t := .boolean) Bd.returns (by simp) (hb hby d2_50) hr
        · refine XS.ifYes X0.here hx rfl (pc0 := 42) (pc' := 49) rfl (hb hby d2_42) rfl ((if0 _ _).trans (feq (fun q => c42 ((lw_eq _ _).mp q))).2) (by decide) (by decide) ?_
          show Steps p.tables e below (s₁.setTop (mkF m 49 #[.val (.long q1), .second, .val (.long q2), .second, .val (.int p3), .val (.long q2), .second, .val (.int p3)] [])) _
          refine XS.iconst X0.here hx rfl (hb hby d2_49) ?_
          show Steps p.tables e below (s₁.setTop (mkF m 50 #[.val (.long q1), .second, .val (.long q2), .second, .val (.int p3), .val (.long q2), .second, .val (.int p3)] [(.int (0 : Int32))])) _
          have ev : own_hold q1 q2 p3 = (0 : Int32) := by first | rfl | (rw [own_hold, own_w, own_b, if_neg c4, if_pos c18, if_neg c42]; done) | (simp only [own_hold, own_w, own_b, c4, c18, c42, if_true, if_false]; done) | (simp [own_hold, own_w, own_b, c4, c18, c42]; done) | contradiction | ((unfold own_hold own_w own_b; repeat' split) <;> first | rfl | contradiction | (simp_all; done))
          rw [ev] at hr
          exact retN X0 hx (t := .boolean) Bd.returns (by simp) (hb hby d2_50) hr
      · refine XS.icmpYes X0.here hx rfl (pc0 := 18) (pc' := 26) rfl (hb hby d2_18) rfl (flt c18).2.1 (by decide) (by decide) ?_
        show Steps p.tables e below (s₁.setTop (mkF m 26 #[.val (.long q1), .second, .val (.long q2), .second, .val (.int p3), .val (.long q2), .second, .unset] [])) _
        refine XS.iload X0.here hx rfl (hb hby d2_26) rfl ?_
        show Steps p.tables e below (s₁.setTop (mkF m 28 #[.val (.long q1), .second, .val (.long q2), .second, .val (.int p3), .val (.long q2), .second, .unset] [(.int p3)])) _
        refine XS.bipush X0.here hx rfl (hb hby d2_28) ?_
        show Steps p.tables e below (s₁.setTop (mkF m 30 #[.val (.long q1), .second, .val (.long q2), .second, .val (.int p3), .val (.long q2), .second, .unset] [(.int (64 : Int32)), (.int p3)])) _
        refine XS.isub X0.here hx rfl (hb hby d2_30) rfl ?_
        show Steps p.tables e below (s₁.setTop (mkF m 31 #[.val (.long q1), .second, .val (.long q2), .second, .val (.int p3), .val (.long q2), .second, .unset] [(.int (p3 - (64 : Int32)))])) _
        refine XS.istore X0.here hx rfl (hb hby d2_31) rfl (l' := #[.val (.long q1), .second, .val (.long q2), .second, .val (.int p3), .val (.long q2), .second, .val (.int (p3 - (64 : Int32)))]) rfl ?_
        show Steps p.tables e below (s₁.setTop (mkF m 33 #[.val (.long q1), .second, .val (.long q2), .second, .val (.int p3), .val (.long q2), .second, .val (.int (p3 - (64 : Int32)))] [])) _
        refine XS.lload X0.here hx rfl (hb hby d2_33) rfl ?_
        show Steps p.tables e below (s₁.setTop (mkF m 35 #[.val (.long q1), .second, .val (.long q2), .second, .val (.int p3), .val (.long q2), .second, .val (.int (p3 - (64 : Int32)))] [(.long q2)])) _
        refine XS.iload X0.here hx rfl (hb hby d2_35) rfl ?_
        show Steps p.tables e below (s₁.setTop (mkF m 37 #[.val (.long q1), .second, .val (.long q2), .second, .val (.int p3), .val (.long q2), .second, .val (.int (p3 - (64 : Int32)))] [(.int (p3 - (64 : Int32))), (.long q2)])) _
        refine XS.lushr X0.here hx rfl (hb hby d2_37) rfl ?_
        show Steps p.tables e below (s₁.setTop (mkF m 38 #[.val (.long q1), .second, .val (.long q2), .second, .val (.int p3), .val (.long q2), .second, .val (.int (p3 - (64 : Int32)))] [(.long (own_ushrL q2 (p3 - (64 : Int32))))])) _
        refine XS.lconst X0.here hx rfl (hb hby d2_38) ?_
        show Steps p.tables e below (s₁.setTop (mkF m 39 #[.val (.long q1), .second, .val (.long q2), .second, .val (.int p3), .val (.long q2), .second, .val (.int (p3 - (64 : Int32)))] [(.long (1 : Int64)), (.long (own_ushrL q2 (p3 - (64 : Int32))))])) _
        refine XS.land X0.here hx rfl (hb hby d2_39) rfl ?_
        show Steps p.tables e below (s₁.setTop (mkF m 40 #[.val (.long q1), .second, .val (.long q2), .second, .val (.int p3), .val (.long q2), .second, .val (.int (p3 - (64 : Int32)))] [(.long ((own_ushrL q2 (p3 - (64 : Int32))) &&& (1 : Int64)))])) _
        refine XS.lconst X0.here hx rfl (hb hby d2_40) ?_
        show Steps p.tables e below (s₁.setTop (mkF m 41 #[.val (.long q1), .second, .val (.long q2), .second, .val (.int p3), .val (.long q2), .second, .val (.int (p3 - (64 : Int32)))] [(.long (1 : Int64)), (.long ((own_ushrL q2 (p3 - (64 : Int32))) &&& (1 : Int64)))])) _
        refine XS.lcmp X0.here hx rfl (hb hby d2_41) rfl ?_
        show Steps p.tables e below (s₁.setTop (mkF m 42 #[.val (.long q1), .second, .val (.long q2), .second, .val (.int p3), .val (.long q2), .second, .val (.int (p3 - (64 : Int32)))] [(.int (lcmpW ((own_ushrL q2 (p3 - (64 : Int32))) &&& (1 : Int64)) (1 : Int64)))])) _
        by_cases c42 : ((own_ushrL q2 (p3 - (64 : Int32))) &&& (1 : Int64)) = (1 : Int64)
        · refine XS.ifNo X0.here hx rfl (hb hby d2_42) rfl ((if0 _ _).trans (teq ((lw_eq _ _).mpr c42)).2) ?_
          show Steps p.tables e below (s₁.setTop (mkF m 45 #[.val (.long q1), .second, .val (.long q2), .second, .val (.int p3), .val (.long q2), .second, .val (.int (p3 - (64 : Int32)))] [])) _
          refine XS.iconst X0.here hx rfl (hb hby d2_45) ?_
          show Steps p.tables e below (s₁.setTop (mkF m 46 #[.val (.long q1), .second, .val (.long q2), .second, .val (.int p3), .val (.long q2), .second, .val (.int (p3 - (64 : Int32)))] [(.int (1 : Int32))])) _
          refine XS.goto X0.here hx rfl (pc0 := 46) (pc' := 50) rfl (hb hby d2_46) (by decide) (by decide) ?_
          show Steps p.tables e below (s₁.setTop (mkF m 50 #[.val (.long q1), .second, .val (.long q2), .second, .val (.int p3), .val (.long q2), .second, .val (.int (p3 - (64 : Int32)))] [(.int (1 : Int32))])) _
          have ev : own_hold q1 q2 p3 = (1 : Int32) := by first | rfl | (rw [own_hold, own_w, own_b, if_neg c4, if_neg c18, if_pos c42]; done) | (simp only [own_hold, own_w, own_b, c4, c18, c42, if_true, if_false]; done) | (simp [own_hold, own_w, own_b, c4, c18, c42]; done) | contradiction | ((unfold own_hold own_w own_b; repeat' split) <;> first | rfl | contradiction | (simp_all; done))
          rw [ev] at hr
          exact retN X0 hx (t := .boolean) Bd.returns (by simp) (hb hby d2_50) hr
        · refine XS.ifYes X0.here hx rfl (pc0 := 42) (pc' := 49) rfl (hb hby d2_42) rfl ((if0 _ _).trans (feq (fun q => c42 ((lw_eq _ _).mp q))).2) (by decide) (by decide) ?_
          show Steps p.tables e below (s₁.setTop (mkF m 49 #[.val (.long q1), .second, .val (.long q2), .second, .val (.int p3), .val (.long q2), .second, .val (.int (p3 - (64 : Int32)))] [])) _
          refine XS.iconst X0.here hx rfl (hb hby d2_49) ?_
          show Steps p.tables e below (s₁.setTop (mkF m 50 #[.val (.long q1), .second, .val (.long q2), .second, .val (.int p3), .val (.long q2), .second, .val (.int (p3 - (64 : Int32)))] [(.int (0 : Int32))])) _
          have ev : own_hold q1 q2 p3 = (0 : Int32) := by first | rfl | (rw [own_hold, own_w, own_b, if_neg c4, if_neg c18, if_neg c42]; done) | (simp only [own_hold, own_w, own_b, c4, c18, c42, if_true, if_false]; done) | (simp [own_hold, own_w, own_b, c4, c18, c42]; done) | contradiction | ((unfold own_hold own_w own_b; repeat' split) <;> first | rfl | contradiction | (simp_all; done))
          rw [ev] at hr
          exact retN X0 hx (t := .boolean) Bd.returns (by simp) (hb hby d2_50) hr
  · show Q2 Z q1 q2 p3 h0 n0 _ s₁.heap _
    rw [e0]
    exact ⟨rfl, N0, rfl⟩
theorem d1_0 : decode prog_41_method_4_code 0 = .ok (.iconst (-1), 1) := by decide +kernel
theorem d1_1 : decode prog_41_method_4_code 1 = .ok (.istore_n 3, 1) := by decide +kernel
theorem d1_2 : decode prog_41_method_4_code 2 = .ok (.iconst 0, 1) := by decide +kernel
theorem d1_3 : decode prog_41_method_4_code 3 = .ok (.istore 4, 2) := by decide +kernel
theorem d1_5 : decode prog_41_method_4_code 5 = .ok (.iload 4, 2) := by decide +kernel
theorem d1_7 : decode prog_41_method_4_code 7 = .ok (.aload_n 0, 1) := by decide +kernel
theorem d1_8 : decode prog_41_method_4_code 8 = .ok (.arraylength, 1) := by decide +kernel
theorem d1_9 : decode prog_41_method_4_code 9 = .ok (.if_icmp .ge 48, 3) := by decide +kernel
theorem d1_12 : decode prog_41_method_4_code 12 = .ok (.iload_n 3, 1) := by decide +kernel
theorem d1_13 : decode prog_41_method_4_code 13 = .ok (.ifCond .ge 44, 3) := by decide +kernel
theorem d1_16 : decode prog_41_method_4_code 16 = .ok (.aload_n 0, 1) := by decide +kernel
theorem d1_17 : decode prog_41_method_4_code 17 = .ok (.iload 4, 2) := by decide +kernel
theorem d1_19 : decode prog_41_method_4_code 19 = .ok (.iaload, 1) := by decide +kernel
theorem d1_20 : decode prog_41_method_4_code 20 = .ok (.istore 5, 2) := by decide +kernel
theorem d1_22 : decode prog_41_method_4_code 22 = .ok (.aload_n 1, 1) := by decide +kernel
theorem d1_23 : decode prog_41_method_4_code 23 = .ok (.iload 5, 2) := by decide +kernel
theorem d1_25 : decode prog_41_method_4_code 25 = .ok (.bipush 6, 2) := by decide +kernel
theorem d1_27 : decode prog_41_method_4_code 27 = .ok (.iushr, 1) := by decide +kernel
theorem d1_28 : decode prog_41_method_4_code 28 = .ok (.laload, 1) := by decide +kernel
theorem d1_29 : decode prog_41_method_4_code 29 = .ok (.lconst 1, 1) := by decide +kernel
theorem d1_30 : decode prog_41_method_4_code 30 = .ok (.iload 5, 2) := by decide +kernel
theorem d1_32 : decode prog_41_method_4_code 32 = .ok (.lshl, 1) := by decide +kernel
theorem d1_33 : decode prog_41_method_4_code 33 = .ok (.land, 1) := by decide +kernel
theorem d1_34 : decode prog_41_method_4_code 34 = .ok (.lconst 0, 1) := by decide +kernel
theorem d1_35 : decode prog_41_method_4_code 35 = .ok (.lcmp, 1) := by decide +kernel
theorem d1_36 : decode prog_41_method_4_code 36 = .ok (.ifCond .eq 7, 3) := by decide +kernel
theorem d1_39 : decode prog_41_method_4_code 39 = .ok (.iconst 1, 1) := by decide +kernel
theorem d1_40 : decode prog_41_method_4_code 40 = .ok (.goto 4, 3) := by decide +kernel
theorem d1_43 : decode prog_41_method_4_code 43 = .ok (.iconst 0, 1) := by decide +kernel
theorem d1_44 : decode prog_41_method_4_code 44 = .ok (.iload_n 2, 1) := by decide +kernel
theorem d1_45 : decode prog_41_method_4_code 45 = .ok (.if_icmp .ne 6, 3) := by decide +kernel
theorem d1_48 : decode prog_41_method_4_code 48 = .ok (.iload 5, 2) := by decide +kernel
theorem d1_50 : decode prog_41_method_4_code 50 = .ok (.istore_n 3, 1) := by decide +kernel
theorem d1_51 : decode prog_41_method_4_code 51 = .ok (.iinc 4 1, 3) := by decide +kernel
theorem d1_54 : decode prog_41_method_4_code 54 = .ok (.goto (-49), 3) := by decide +kernel
theorem d1_57 : decode prog_41_method_4_code 57 = .ok (.iload_n 3, 1) := by decide +kernel
theorem d1_58 : decode prog_41_method_4_code 58 = .ok (.ireturn, 1) := by decide +kernel
theorem pn_1 : plainName "com/example/ilmarinen/ilmarinen/search/GroundTask" = true := by first | (simp [plainName, overriddenIn]; done) | decide +kernel
theorem ef_1 (m : MethodId) (x0 : Addr) (x1 : Addr) (x2 : Int32) : entryFrame m #[(.ref x0), (.ref x1), (.int x2)] 6 = mkF m 0 #[.val (.ref x0), .val (.ref x1), .val (.int x2), .unset, .unset, .unset] [] := by first | (simp [entryFrame, mkF, argsToLocals, Value.category]; done) | rfl
theorem os1_20 {z0 z1 z2 z3 z4 : Value} {s5 : Slot} {v : Int32} (h : One s5) : storeLocals #[.val z0, .val z1, .val z2, .val z3, .val z4, s5] 5 (.int v) = some #[.val z0, .val z1, .val z2, .val z3, .val z4, .val (.int v)] := by
  rcases h with rfl | ⟨w, rfl, hw⟩
  · rfl
  · cases w <;> first | rfl | (simp [Value.category] at hw)
set_option maxRecDepth 65536 in
set_option maxHeartbeats 40000000 in
theorem loop1 {p : Program} {l : Launch} {e : Env} {R : Room} {s : State} {m : MethodId} {args : Array Value} {below : List Frame} {meth : Method} {c : Code} {T0 : State} {locs : List Loc} {cells slots : Nat} {Z : State} {h0 : Heap} (o0 o1 : Addr) (H : Int32) (s0 s1 : Int64) (cl0 cl1 : Cell) (N : Nat) (hN : N < 4)
    (X0 : Stand p l e R s m args below meth c T0 locs cells slots) (hx : p.tables.exec = Jvm.exec) (hZ : Z.Warmed39 s.vm) (hby : c.code = prog_41_method_4_code) (e0 : T0.heap = h0) (Ar0 : Arr Z h0 o0 cl0 .int) (S0 : cl0.slots.size = N) (Ar1 : Arr Z h0 o1 cl1 .long) (S1 : cl1.slots.size = 2) (H10 : cl1.slots[0]? = some (.long s0)) (H11 : cl1.slots[1]? = some (.long s1)) (t : State) :
    ∀ (xs : List Int32) (i : Nat) (s5 : Slot), i + xs.length = N → (∀ (j : Nat) (x : Int32), xs[j]? = some x → cl0.slots[i + j]? = some (.int x)) → (∀ x ∈ xs, ∃ a, a < 128 ∧ x = Int32.ofNat a) → One s5 →
      (∀ s4' s5', Steps p.tables e below (T0.setTop (mkF m 57 #[.val (.ref o0), .val (.ref o1), .val (.int H), .val (.int (own_fa H s0 s1 xs)), s4', s5'] [])) t) → Steps p.tables e below (T0.setTop (mkF m 5 #[.val (.ref o0), .val (.ref o1), .val (.int H), .val (.int (-1 : Int32)), .val (.int (Int32.ofNat i)), s5] [])) t := by
  intro xs
  induction xs with
  | nil =>
    intro i s5 hi H0 hxs hs5 kt
    have hi' : i = N := by simpa using hi
    subst hi'
    have hlt : ¬ (Int32.ofNat i < Int32.ofNat i) := fun q => by have := (own_i1 ⟨i, hN⟩ ⟨i, hN⟩).mp q; simp at this
    show Steps p.tables e below (T0.setTop (mkF m 5 #[.val (.ref o0), .val (.ref o1), .val (.int H), .val (.int (-1 : Int32)), .val (.int (Int32.ofNat i)), s5] [])) _
    refine XS.iload X0.here hx rfl (hb hby d1_5) rfl ?_
    show Steps p.tables e below (T0.setTop (mkF m 7 #[.val (.ref o0), .val (.ref o1), .val (.int H), .val (.int (-1 : Int32)), .val (.int (Int32.ofNat i)), s5] [(.int (Int32.ofNat i))])) _
    refine XS.aloadN X0.here hx rfl (hb hby d1_7) rfl rfl ?_
    show Steps p.tables e below (T0.setTop (mkF m 8 #[.val (.ref o0), .val (.ref o1), .val (.int H), .val (.int (-1 : Int32)), .val (.int (Int32.ofNat i)), s5] [(.ref o0), (.int (Int32.ofNat i))])) _
    refine X0.arraylength hx (by rw [e0]; exact Ar0.1) (State.isArrayOf_alike hZ.alike Ar0.2.1) (g := (mkF m 8 #[.val (.ref o0), .val (.ref o1), .val (.int H), .val (.int (-1 : Int32)), .val (.int (Int32.ofNat i)), s5] [(.ref o0), (.int (Int32.ofNat i))])) rfl rfl (hb hby d1_8) _ ?_
    rw [S0]
    show Steps p.tables e below (T0.setTop (mkF m 9 #[.val (.ref o0), .val (.ref o1), .val (.int H), .val (.int (-1 : Int32)), .val (.int (Int32.ofNat i)), s5] [(.int (Int32.ofNat i)), (.int (Int32.ofNat i))])) _
    refine XS.icmpYes X0.here hx rfl (pc0 := 9) (pc' := 57) rfl (hb hby d1_9) rfl (flt hlt).2.1 (by decide) (by decide) ?_
    show Steps p.tables e below (T0.setTop (mkF m 57 #[.val (.ref o0), .val (.ref o1), .val (.int H), .val (.int (-1 : Int32)), .val (.int (Int32.ofNat i)), s5] [])) _
    exact kt _ _
  | cons x xs ih =>
    intro i s5 hi H0 hxs hs5 kt
    have hlen : i + (xs.length + 1) = N := by simpa using hi
    have hiN : i < N := by omega
    have hi4 : i < 4 := by omega
    obtain ⟨n1, n2, n3⟩ := own_i2 ⟨i, hi4⟩
    simp only [] at n1 n2 n3
    have hlt : Int32.ofNat i < Int32.ofNat N := (own_i1 ⟨i, hi4⟩ ⟨N, hN⟩).mpr hiN
    obtain ⟨a, ha, ea⟩ := hxs x List.mem_cons_self
    obtain ⟨m1, m2, m3, m4⟩ := own_i3 ⟨a, ha⟩
    simp only [] at m1 m2 m3 m4
    rw [← ea] at m1 m2 m3 m4
    have hin19 : ¬ (Int32.ofNat i < 0 ∨ cl0.slots.size ≤ (Int32.ofNat i).toNatClampNeg) := by
      rw [n2, S0]; exact fun q => q.elim n1 (fun q => by omega)
    have hat19 : cl0.slots[(Int32.ofNat i).toNatClampNeg]? = some (.int x) := by
      rw [n2]; exact H0 0 x rfl
    have hin28 : ¬ (own_ushr x 6 < 0 ∨ cl1.slots.size ≤ (own_ushr x 6).toNatClampNeg) := by
      rw [m3, S1]; exact fun q => q.elim m2 (fun q => by omega)
    have hat28 : cl1.slots[(own_ushr x 6).toNatClampNeg]? = some (.long (own_w s0 s1 x)) := by
      rw [m3]
      by_cases h64 : a < 64
      · have q : a / 64 = 0 := by omega
        rw [q, H10, own_w, if_pos (m4.mpr h64)]
      · have q : a / 64 = 1 := by omega
        rw [q, H11, own_w, if_neg (fun r => h64 (m4.mp r))]
    have hneg : (-1 : Int32) < 0 := by decide
    show Steps p.tables e below (T0.setTop (mkF m 5 #[.val (.ref o0), .val (.ref o1), .val (.int H), .val (.int (-1 : Int32)), .val (.int (Int32.ofNat i)), s5] [])) _
    refine XS.iload X0.here hx rfl (hb hby d1_5) rfl ?_
    show Steps p.tables e below (T0.setTop (mkF m 7 #[.val (.ref o0), .val (.ref o1), .val (.int H), .val (.int (-1 : Int32)), .val (.int (Int32.ofNat i)), s5] [(.int (Int32.ofNat i))])) _
    refine XS.aloadN X0.here hx rfl (hb hby d1_7) rfl rfl ?_
    show Steps p.tables e below (T0.setTop (mkF m 8 #[.val (.ref o0), .val (.ref o1), .val (.int H), .val (.int (-1 : Int32)), .val (.int (Int32.ofNat i)), s5] [(.ref o0), (.int (Int32.ofNat i))])) _
    refine X0.arraylength hx (by rw [e0]; exact Ar0.1) (State.isArrayOf_alike hZ.alike Ar0.2.1) (g := (mkF m 8 #[.val (.ref o0), .val (.ref o1), .val (.int H), .val (.int (-1 : Int32)), .val (.int (Int32.ofNat i)), s5] [(.ref o0), (.int (Int32.ofNat i))])) rfl rfl (hb hby d1_8) _ ?_
    rw [S0]
    show Steps p.tables e below (T0.setTop (mkF m 9 #[.val (.ref o0), .val (.ref o1), .val (.int H), .val (.int (-1 : Int32)), .val (.int (Int32.ofNat i)), s5] [(.int (Int32.ofNat N)), (.int (Int32.ofNat i))])) _
    refine XS.icmpNo X0.here hx rfl (hb hby d1_9) rfl (tlt hlt).2.1 ?_
    show Steps p.tables e below (T0.setTop (mkF m 12 #[.val (.ref o0), .val (.ref o1), .val (.int H), .val (.int (-1 : Int32)), .val (.int (Int32.ofNat i)), s5] [])) _
    refine XS.iloadN X0.here hx rfl (hb hby d1_12) rfl ?_
    show Steps p.tables e below (T0.setTop (mkF m 13 #[.val (.ref o0), .val (.ref o1), .val (.int H), .val (.int (-1 : Int32)), .val (.int (Int32.ofNat i)), s5] [(.int (-1 : Int32))])) _
    refine XS.ifNo X0.here hx rfl (hb hby d1_13) rfl ((if0 _ _).trans (tlt hneg).2.1) ?_
    show Steps p.tables e below (T0.setTop (mkF m 16 #[.val (.ref o0), .val (.ref o1), .val (.int H), .val (.int (-1 : Int32)), .val (.int (Int32.ofNat i)), s5] [])) _
    refine XS.aloadN X0.here hx rfl (hb hby d1_16) rfl rfl ?_
    show Steps p.tables e below (T0.setTop (mkF m 17 #[.val (.ref o0), .val (.ref o1), .val (.int H), .val (.int (-1 : Int32)), .val (.int (Int32.ofNat i)), s5] [(.ref o0)])) _
    refine XS.iload X0.here hx rfl (hb hby d1_17) rfl ?_
    show Steps p.tables e below (T0.setTop (mkF m 19 #[.val (.ref o0), .val (.ref o1), .val (.int H), .val (.int (-1 : Int32)), .val (.int (Int32.ofNat i)), s5] [(.int (Int32.ofNat i)), (.ref o0)])) _
    refine X0.iaload hx (j := (Int32.ofNat i)) (v := (.int x)) (by rw [e0]; exact Ar0.1) (State.isArrayOf_alike hZ.alike Ar0.2.1) Ar0.2.2 hin19 hat19 (g := (mkF m 19 #[.val (.ref o0), .val (.ref o1), .val (.int H), .val (.int (-1 : Int32)), .val (.int (Int32.ofNat i)), s5] [(.int (Int32.ofNat i)), (.ref o0)])) rfl rfl (hb hby d1_19) _ ?_
    show Steps p.tables e below (T0.setTop (mkF m 20 #[.val (.ref o0), .val (.ref o1), .val (.int H), .val (.int (-1 : Int32)), .val (.int (Int32.ofNat i)), s5] [(.int x)])) _
    refine XS.istore X0.here hx rfl (hb hby d1_20) rfl (l' := #[.val (.ref o0), .val (.ref o1), .val (.int H), .val (.int (-1 : Int32)), .val (.int (Int32.ofNat i)), .val (.int x)]) (os1_20 hs5) ?_
    show Steps p.tables e below (T0.setTop (mkF m 22 #[.val (.ref o0), .val (.ref o1), .val (.int H), .val (.int (-1 : Int32)), .val (.int (Int32.ofNat i)), .val (.int x)] [])) _
    refine XS.aloadN X0.here hx rfl (hb hby d1_22) rfl rfl ?_
    show Steps p.tables e below (T0.setTop (mkF m 23 #[.val (.ref o0), .val (.ref o1), .val (.int H), .val (.int (-1 : Int32)), .val (.int (Int32.ofNat i)), .val (.int x)] [(.ref o1)])) _
    refine XS.iload X0.here hx rfl (hb hby d1_23) rfl ?_
    show Steps p.tables e below (T0.setTop (mkF m 25 #[.val (.ref o0), .val (.ref o1), .val (.int H), .val (.int (-1 : Int32)), .val (.int (Int32.ofNat i)), .val (.int x)] [(.int x), (.ref o1)])) _
    refine XS.bipush X0.here hx rfl (hb hby d1_25) ?_
    show Steps p.tables e below (T0.setTop (mkF m 27 #[.val (.ref o0), .val (.ref o1), .val (.int H), .val (.int (-1 : Int32)), .val (.int (Int32.ofNat i)), .val (.int x)] [(.int (6 : Int32)), (.int x), (.ref o1)])) _
    refine XS.iushr X0.here hx rfl (hb hby d1_27) rfl ?_
    show Steps p.tables e below (T0.setTop (mkF m 28 #[.val (.ref o0), .val (.ref o1), .val (.int H), .val (.int (-1 : Int32)), .val (.int (Int32.ofNat i)), .val (.int x)] [(.int (own_ushr x (6 : Int32))), (.ref o1)])) _
    refine X0.laload hx (j := (own_ushr x (6 : Int32))) (v := (.long (own_w s0 s1 x))) (by rw [e0]; exact Ar1.1) (State.isArrayOf_alike hZ.alike Ar1.2.1) Ar1.2.2 hin28 hat28 (g := (mkF m 28 #[.val (.ref o0), .val (.ref o1), .val (.int H), .val (.int (-1 : Int32)), .val (.int (Int32.ofNat i)), .val (.int x)] [(.int (own_ushr x (6 : Int32))), (.ref o1)])) rfl rfl (hb hby d1_28) _ ?_
    show Steps p.tables e below (T0.setTop (mkF m 29 #[.val (.ref o0), .val (.ref o1), .val (.int H), .val (.int (-1 : Int32)), .val (.int (Int32.ofNat i)), .val (.int x)] [(.long (own_w s0 s1 x))])) _
    refine XS.lconst X0.here hx rfl (hb hby d1_29) ?_
    show Steps p.tables e below (T0.setTop (mkF m 30 #[.val (.ref o0), .val (.ref o1), .val (.int H), .val (.int (-1 : Int32)), .val (.int (Int32.ofNat i)), .val (.int x)] [(.long (1 : Int64)), (.long (own_w s0 s1 x))])) _
    refine XS.iload X0.here hx rfl (hb hby d1_30) rfl ?_
    show Steps p.tables e below (T0.setTop (mkF m 32 #[.val (.ref o0), .val (.ref o1), .val (.int H), .val (.int (-1 : Int32)), .val (.int (Int32.ofNat i)), .val (.int x)] [(.int x), (.long (1 : Int64)), (.long (own_w s0 s1 x))])) _
    refine XS.lshl X0.here hx rfl (hb hby d1_32) rfl ?_
    show Steps p.tables e below (T0.setTop (mkF m 33 #[.val (.ref o0), .val (.ref o1), .val (.int H), .val (.int (-1 : Int32)), .val (.int (Int32.ofNat i)), .val (.int x)] [(.long ((1 : Int64) <<< (x &&& 0x3f).toInt64)), (.long (own_w s0 s1 x))])) _
    refine XS.land X0.here hx rfl (hb hby d1_33) rfl ?_
    show Steps p.tables e below (T0.setTop (mkF m 34 #[.val (.ref o0), .val (.ref o1), .val (.int H), .val (.int (-1 : Int32)), .val (.int (Int32.ofNat i)), .val (.int x)] [(.long ((own_w s0 s1 x) &&& ((1 : Int64) <<< (x &&& 0x3f).toInt64)))])) _
    refine XS.lconst X0.here hx rfl (hb hby d1_34) ?_
    show Steps p.tables e below (T0.setTop (mkF m 35 #[.val (.ref o0), .val (.ref o1), .val (.int H), .val (.int (-1 : Int32)), .val (.int (Int32.ofNat i)), .val (.int x)] [(.long (0 : Int64)), (.long ((own_w s0 s1 x) &&& ((1 : Int64) <<< (x &&& 0x3f).toInt64)))])) _
    refine XS.lcmp X0.here hx rfl (hb hby d1_35) rfl ?_
    show Steps p.tables e below (T0.setTop (mkF m 36 #[.val (.ref o0), .val (.ref o1), .val (.int H), .val (.int (-1 : Int32)), .val (.int (Int32.ofNat i)), .val (.int x)] [(.int (lcmpW ((own_w s0 s1 x) &&& ((1 : Int64) <<< (x &&& 0x3f).toInt64)) (0 : Int64)))])) _
    have jb : ∀ t', Steps p.tables e below (T0.setTop (mkF m 44 #[.val (.ref o0), .val (.ref o1), .val (.int H), .val (.int (-1 : Int32)), .val (.int (Int32.ofNat i)), .val (.int x)] [(.int (own_hb s0 s1 x))])) t' → Steps p.tables e below (T0.setTop (mkF m 36 #[.val (.ref o0), .val (.ref o1), .val (.int H), .val (.int (-1 : Int32)), .val (.int (Int32.ofNat i)), .val (.int x)] [(.int (lcmpW ((own_w s0 s1 x) &&& ((1 : Int64) <<< (x &&& 0x3f).toInt64)) (0 : Int64)))])) t' := by
      intro t' kb
      show Steps p.tables e below (T0.setTop (mkF m 36 #[.val (.ref o0), .val (.ref o1), .val (.int H), .val (.int (-1 : Int32)), .val (.int (Int32.ofNat i)), .val (.int x)] [(.int (lcmpW ((own_w s0 s1 x) &&& ((1 : Int64) <<< (x &&& 0x3f).toInt64)) (0 : Int64)))])) _
      by_cases c36 : (own_w s0 s1 x &&& ((1 : Int64) <<< (x &&& 0x3f).toInt64)) = 0
      · refine XS.ifYes X0.here hx rfl (pc0 := 36) (pc' := 43) rfl (hb hby d1_36) rfl ((if0 _ _).trans (teq ((lw_eq _ _).mpr c36)).1) (by decide) (by decide) ?_
        show Steps p.tables e below (T0.setTop (mkF m 43 #[.val (.ref o0), .val (.ref o1), .val (.int H), .val (.int (-1 : Int32)), .val (.int (Int32.ofNat i)), .val (.int x)] [])) _
        refine XS.iconst X0.here hx rfl (hb hby d1_43) ?_
        show Steps p.tables e below (T0.setTop (mkF m 44 #[.val (.ref o0), .val (.ref o1), .val (.int H), .val (.int (-1 : Int32)), .val (.int (Int32.ofNat i)), .val (.int x)] [(.int (0 : Int32))])) _
        have em : own_hb s0 s1 x = 0 := by rw [own_hb, if_pos c36]
        rw [em] at kb
        exact kb
      · refine XS.ifNo X0.here hx rfl (hb hby d1_36) rfl ((if0 _ _).trans (feq (fun q => c36 ((lw_eq _ _).mp q))).1) ?_
        show Steps p.tables e below (T0.setTop (mkF m 39 #[.val (.ref o0), .val (.ref o1), .val (.int H), .val (.int (-1 : Int32)), .val (.int (Int32.ofNat i)), .val (.int x)] [])) _
        refine XS.iconst X0.here hx rfl (hb hby d1_39) ?_
        show Steps p.tables e below (T0.setTop (mkF m 40 #[.val (.ref o0), .val (.ref o1), .val (.int H), .val (.int (-1 : Int32)), .val (.int (Int32.ofNat i)), .val (.int x)] [(.int (1 : Int32))])) _
        refine XS.goto X0.here hx rfl (pc0 := 40) (pc' := 44) rfl (hb hby d1_40) (by decide) (by decide) ?_
        show Steps p.tables e below (T0.setTop (mkF m 44 #[.val (.ref o0), .val (.ref o1), .val (.int H), .val (.int (-1 : Int32)), .val (.int (Int32.ofNat i)), .val (.int x)] [(.int (1 : Int32))])) _
        have em : own_hb s0 s1 x = 1 := by rw [own_hb, if_neg c36]
        rw [em] at kb
        exact kb
    refine jb _ ?_
    show Steps p.tables e below (T0.setTop (mkF m 44 #[.val (.ref o0), .val (.ref o1), .val (.int H), .val (.int (-1 : Int32)), .val (.int (Int32.ofNat i)), .val (.int x)] [(.int (own_hb s0 s1 x))])) _
    refine XS.iloadN X0.here hx rfl (hb hby d1_44) rfl ?_
    show Steps p.tables e below (T0.setTop (mkF m 45 #[.val (.ref o0), .val (.ref o1), .val (.int H), .val (.int (-1 : Int32)), .val (.int (Int32.ofNat i)), .val (.int x)] [(.int H), (.int (own_hb s0 s1 x))])) _
    by_cases c45 : own_hb s0 s1 x = H
    · refine XS.icmpNo X0.here hx rfl (hb hby d1_45) rfl (teq c45).2 ?_
      show Steps p.tables e below (T0.setTop (mkF m 48 #[.val (.ref o0), .val (.ref o1), .val (.int H), .val (.int (-1 : Int32)), .val (.int (Int32.ofNat i)), .val (.int x)] [])) _
      refine XS.iload X0.here hx rfl (hb hby d1_48) rfl ?_
      show Steps p.tables e below (T0.setTop (mkF m 50 #[.val (.ref o0), .val (.ref o1), .val (.int H), .val (.int (-1 : Int32)), .val (.int (Int32.ofNat i)), .val (.int x)] [(.int x)])) _
      refine XS.istoreN X0.here hx rfl (hb hby d1_50) rfl (l' := #[.val (.ref o0), .val (.ref o1), .val (.int H), .val (.int x), .val (.int (Int32.ofNat i)), .val (.int x)]) rfl ?_
      show Steps p.tables e below (T0.setTop (mkF m 51 #[.val (.ref o0), .val (.ref o1), .val (.int H), .val (.int x), .val (.int (Int32.ofNat i)), .val (.int x)] [])) _
      refine XS.iinc X0.here hx rfl (hb hby d1_51) rfl (l' := #[.val (.ref o0), .val (.ref o1), .val (.int H), .val (.int x), .val (.int ((Int32.ofNat i) + (1 : Int32))), .val (.int x)]) rfl ?_
      show Steps p.tables e below (T0.setTop (mkF m 54 #[.val (.ref o0), .val (.ref o1), .val (.int H), .val (.int x), .val (.int ((Int32.ofNat i) + (1 : Int32))), .val (.int x)] [])) _
      refine XS.goto X0.here hx rfl (pc0 := 54) (pc' := 5) rfl (hb hby d1_54) (by decide) (by decide) ?_
      show Steps p.tables e below (T0.setTop (mkF m 5 #[.val (.ref o0), .val (.ref o1), .val (.int H), .val (.int x), .val (.int ((Int32.ofNat i) + (1 : Int32))), .val (.int x)] [])) _
      have ef : own_fa H s0 s1 (x :: xs) = x := by rw [own_fa, if_pos c45]
      rw [ef] at kt
      refine XS.iload X0.here hx rfl (hb hby d1_5) rfl ?_
      show Steps p.tables e below (T0.setTop (mkF m 7 #[.val (.ref o0), .val (.ref o1), .val (.int H), .val (.int x), .val (.int ((Int32.ofNat i) + (1 : Int32))), .val (.int x)] [(.int ((Int32.ofNat i) + (1 : Int32)))])) _
      refine XS.aloadN X0.here hx rfl (hb hby d1_7) rfl rfl ?_
      show Steps p.tables e below (T0.setTop (mkF m 8 #[.val (.ref o0), .val (.ref o1), .val (.int H), .val (.int x), .val (.int ((Int32.ofNat i) + (1 : Int32))), .val (.int x)] [(.ref o0), (.int ((Int32.ofNat i) + (1 : Int32)))])) _
      refine X0.arraylength hx (by rw [e0]; exact Ar0.1) (State.isArrayOf_alike hZ.alike Ar0.2.1) (g := (mkF m 8 #[.val (.ref o0), .val (.ref o1), .val (.int H), .val (.int x), .val (.int ((Int32.ofNat i) + (1 : Int32))), .val (.int x)] [(.ref o0), (.int ((Int32.ofNat i) + (1 : Int32)))])) rfl rfl (hb hby d1_8) _ ?_
      rw [S0]
      show Steps p.tables e below (T0.setTop (mkF m 9 #[.val (.ref o0), .val (.ref o1), .val (.int H), .val (.int x), .val (.int ((Int32.ofNat i) + (1 : Int32))), .val (.int x)] [(.int (Int32.ofNat N)), (.int ((Int32.ofNat i) + (1 : Int32)))])) _
      by_cases c9 : Int32.ofNat i + 1 < Int32.ofNat N
      · refine XS.icmpNo X0.here hx rfl (hb hby d1_9) rfl (tlt c9).2.1 ?_
        show Steps p.tables e below (T0.setTop (mkF m 12 #[.val (.ref o0), .val (.ref o1), .val (.int H), .val (.int x), .val (.int ((Int32.ofNat i) + (1 : Int32))), .val (.int x)] [])) _
        refine XS.iloadN X0.here hx rfl (hb hby d1_12) rfl ?_
        show Steps p.tables e below (T0.setTop (mkF m 13 #[.val (.ref o0), .val (.ref o1), .val (.int H), .val (.int x), .val (.int ((Int32.ofNat i) + (1 : Int32))), .val (.int x)] [(.int x)])) _
        refine XS.ifYes X0.here hx rfl (pc0 := 13) (pc' := 57) rfl (hb hby d1_13) rfl ((if0 _ _).trans (flt m1).2.1) (by decide) (by decide) ?_
        show Steps p.tables e below (T0.setTop (mkF m 57 #[.val (.ref o0), .val (.ref o1), .val (.int H), .val (.int x), .val (.int ((Int32.ofNat i) + (1 : Int32))), .val (.int x)] [])) _
        exact kt _ _
      · refine XS.icmpYes X0.here hx rfl (pc0 := 9) (pc' := 57) rfl (hb hby d1_9) rfl (flt c9).2.1 (by decide) (by decide) ?_
        show Steps p.tables e below (T0.setTop (mkF m 57 #[.val (.ref o0), .val (.ref o1), .val (.int H), .val (.int x), .val (.int ((Int32.ofNat i) + (1 : Int32))), .val (.int x)] [])) _
        exact kt _ _
    · refine XS.icmpYes X0.here hx rfl (pc0 := 45) (pc' := 51) rfl (hb hby d1_45) rfl (feq c45).2 (by decide) (by decide) ?_
      show Steps p.tables e below (T0.setTop (mkF m 51 #[.val (.ref o0), .val (.ref o1), .val (.int H), .val (.int (-1 : Int32)), .val (.int (Int32.ofNat i)), .val (.int x)] [])) _
      refine XS.iinc X0.here hx rfl (hb hby d1_51) rfl (l' := #[.val (.ref o0), .val (.ref o1), .val (.int H), .val (.int (-1 : Int32)), .val (.int ((Int32.ofNat i) + (1 : Int32))), .val (.int x)]) rfl ?_
      show Steps p.tables e below (T0.setTop (mkF m 54 #[.val (.ref o0), .val (.ref o1), .val (.int H), .val (.int (-1 : Int32)), .val (.int ((Int32.ofNat i) + (1 : Int32))), .val (.int x)] [])) _
      refine XS.goto X0.here hx rfl (pc0 := 54) (pc' := 5) rfl (hb hby d1_54) (by decide) (by decide) ?_
      show Steps p.tables e below (T0.setTop (mkF m 5 #[.val (.ref o0), .val (.ref o1), .val (.int H), .val (.int (-1 : Int32)), .val (.int ((Int32.ofNat i) + (1 : Int32))), .val (.int x)] [])) _
      have ef : own_fa H s0 s1 (x :: xs) = own_fa H s0 s1 xs := by rw [own_fa, if_neg c45]
      rw [ef] at kt
      rw [show Int32.ofNat i + (1 : Int32) = Int32.ofNat (i + 1) from n3]
      exact ih (i + 1) _ (by omega) (fun j y q => by have := H0 (j + 1) y (by simpa using q); rw [← this]; congr 1; omega) (fun y hy => hxs y (List.mem_cons_of_mem _ hy)) (One.val rfl) kt
def Q1 (Z : State) (o0 : Addr) (o1 : Addr) (H : Int32) (s0 : Int64) (s1 : Int64) (xs : List Int32) (cl0 : Cell) (cl1 : Cell) (h0 : Heap) (n0 : Nat) (v : Option Value) (h : Heap) (L : List Loc) : Prop := v = some (.int (own_fa H s0 s1 xs)) ∧ Fr n0 L ∧ h = h0
set_option maxRecDepth 65536 in
set_option maxHeartbeats 40000000 in
theorem rm1 (l : Launch) (Z : State) (a0 : Array Value) (hw : ∀ d ∈ tables_1, d.before a0 Z = true) (ws : List Jvm.Cond) (o0 : Addr) (o1 : Addr) (H : Int32) (s0 : Int64) (s1 : Int64) (xs : List Int32) (cl0 : Cell) (cl1 : Cell) (h0 : Heap) (n0 : Nat) (Z0 : n0 ≤ h0.size) (hN : xs.length < 4) (Ar0 : Arr Z h0 o0 cl0 .int) (S0 : cl0.slots.size = xs.length) (H0 : ∀ (j : Nat) (x : Int32), xs[j]? = some x → cl0.slots[j]? = some (.int x)) (hxs : ∀ x ∈ xs, ∃ a, a < 128 ∧ x = Int32.ofNat a) (Ar1 : Arr Z h0 o1 cl1 .long) (S1 : cl1.slots.size = 2) (H10 : cl1.slots[0]? = some (.long s0)) (H11 : cl1.slots[1]? = some (.long s1)) :
    MetFree l (⟨"com/example/ilmarinen/ilmarinen/search/GroundTask", "firstAtom", "([I[JZ)I"⟩ : MethodName) (head1 (Jvm.Cond.code (⟨"com/example/ilmarinen/ilmarinen/search/GroundTask", "firstAtom", "([I[JZ)I"⟩ : MethodName) prog_41_method_4_code 6 (some .int) :: ws) ({ frames := 0, cells := 0, slots := 0, locals := 0 } : Room)) (fun a U => a = #[(.ref o0), (.ref o1), (.int H)] ∧ Z.Warmed39 U.vm ∧ U.heap = h0) (fun _ _ _ _ _ => True) (fun _ U o U' => ∃ v L, o = .returned v ∧ Q1 Z o0 o1 H s0 s1 xs cl0 cl1 h0 n0 v U'.heap L ∧ FrameEnd U o U' L (({ frames := 0, cells := 0, slots := 0, locals := 0 } : Room)).cells (({ frames := 0, cells := 0, slots := 0, locals := 0 } : Room)).slots) := by
  refine MetFree.of_bodySF (plainFor_of_name pn_1) hisR ?_
  intro p e s m args below meth c s₁ Bd hml0 hP hK
  obtain ⟨rfl, hZ, hh⟩ := hP
  have hx := Bd.exec
  have hby := Bd.bytes
  have hml : c.maxLocals = 6 := hml0
  have hown : s.vm.findClass "com/example/ilmarinen/ilmarinen/search/GroundTask" = some m.cls := findClass_of_methodNamed Bd.named
  have hnm := (name_of_methodNamed Bd.named Bd.method).1
  have X0 : Stand p l e ({ frames := 0, cells := 0, slots := 0, locals := 0 } : Room) s m #[(.ref o0), (.ref o1), (.int H)] below meth c s₁ [] 0 0 := Stand.of_body Bd
  have e0 : s₁.heap = h0 := by rw [← hh, Bd.state]; rfl
  have N0 := Fr.nil n0
  have pre0 : ∀ t, Steps p.tables e below (s₁.setTop (mkF m 0 #[.val (.ref o0), .val (.ref o1), .val (.int H), .unset, .unset, .unset] [])) t → Steps p.tables e below (s₁.setTop (entryFrame m #[(.ref o0), (.ref o1), (.int H)] 6)) t := fun t k => castTop (ef_1 m o0 o1 H) k
  obtain ⟨fs, hr, hrun, hended, hW, hsame⟩ := X0.leave (v := some (.int (own_fa H s0 s1 xs))) (fun h => by rw [Bd.returns] at h; cases h)
  refine ⟨_, _, pre0 _ ?_, hrun, hended, _, _, rfl, ?_, ⟨_, rfl⟩, hW, hsame.mono (by decide) (by decide)⟩
  · show Steps p.tables e below (s₁.setTop (mkF m 0 #[.val (.ref o0), .val (.ref o1), .val (.int H), .unset, .unset, .unset] [])) _
    refine XS.iconst X0.here hx rfl (hb hby d1_0) ?_
    show Steps p.tables e below (s₁.setTop (mkF m 1 #[.val (.ref o0), .val (.ref o1), .val (.int H), .unset, .unset, .unset] [(.int (-1 : Int32))])) _
    refine XS.istoreN X0.here hx rfl (hb hby d1_1) rfl (l' := #[.val (.ref o0), .val (.ref o1), .val (.int H), .val (.int (-1 : Int32)), .unset, .unset]) rfl ?_
    show Steps p.tables e below (s₁.setTop (mkF m 2 #[.val (.ref o0), .val (.ref o1), .val (.int H), .val (.int (-1 : Int32)), .unset, .unset] [])) _
    refine XS.iconst X0.here hx rfl (hb hby d1_2) ?_
    show Steps p.tables e below (s₁.setTop (mkF m 3 #[.val (.ref o0), .val (.ref o1), .val (.int H), .val (.int (-1 : Int32)), .unset, .unset] [(.int (0 : Int32))])) _
    refine XS.istore X0.here hx rfl (hb hby d1_3) rfl (l' := #[.val (.ref o0), .val (.ref o1), .val (.int H), .val (.int (-1 : Int32)), .val (.int (0 : Int32)), .unset]) rfl ?_
    show Steps p.tables e below (s₁.setTop (mkF m 5 #[.val (.ref o0), .val (.ref o1), .val (.int H), .val (.int (-1 : Int32)), .val (.int (0 : Int32)), .unset] [])) _
    refine loop1 o0 o1 H s0 s1 cl0 cl1 xs.length hN X0 hx hZ hby e0 Ar0 S0 Ar1 S1 H10 H11 _ xs 0 _ (Nat.zero_add _) (fun j x q => by rw [Nat.zero_add]; exact H0 j x q) hxs One.u ?_
    intro s4' s5'
    show Steps p.tables e below (s₁.setTop (mkF m 57 #[.val (.ref o0), .val (.ref o1), .val (.int H), .val (.int (own_fa H s0 s1 xs)), s4', s5'] [])) _
    refine XS.iloadN X0.here hx rfl (hb hby d1_57) rfl ?_
    show Steps p.tables e below (s₁.setTop (mkF m 58 #[.val (.ref o0), .val (.ref o1), .val (.int H), .val (.int (own_fa H s0 s1 xs)), s4', s5'] [(.int (own_fa H s0 s1 xs))])) _
    exact retI X0 hx Bd.returns (hb hby d1_58) hr
  · show Q1 Z o0 o1 H s0 s1 xs cl0 cl1 h0 n0 _ s₁.heap _
    rw [e0]
    exact ⟨rfl, N0, rfl⟩
theorem pd_fa : parseMethodDescriptor "([I[JZ)I" = some ⟨[(.array .int), (.array .long), .boolean], some .int⟩ := by decide +kernel
theorem pd_ho : parseMethodDescriptor "(JJI)Z" = some ⟨[.long, .long, .int], some .boolean⟩ := by decide +kernel
theorem own_in {c : Cell} {j : Int32} {n k : Nat} (h1 : ¬ j < 0) (h2 : c.slots.size = n) (h3 : j.toNatClampNeg = k) (h4 : k < n) : ¬ (j < 0 ∨ c.slots.size ≤ j.toNatClampNeg) := by
  rw [h2, h3]; exact fun q => q.elim h1 (fun q => by omega)
def own_H (f : Int32) : Int32 := if f &&& 1 = 0 then 0 else 1
def own_ix (H : Int32) (s0 s1 : Int64) (x d : Int32) : Int32 := if own_hold s0 s1 x = H then x else d
theorem own_fin (H : Int32) (s0 s1 : Int64) (xs : List Int32) (h : ∀ x ∈ xs, ∃ a, a < 128 ∧ x = Int32.ofNat a) : own_fa H s0 s1 xs = xs.foldr (own_ix H s0 s1) (-1) := by
  induction xs with
  | nil => rfl
  | cons x xs ih =>
    obtain ⟨a, ha, ea⟩ := h x List.mem_cons_self
    have e := own_same s0 s1 a ha
    rw [← ea] at e
    rw [own_fa, List.foldr_cons, own_ix, e, ih (fun y hy => h y (List.mem_cons_of_mem _ hy))]
theorem pn_0 : plainName "com/example/ilmarinen/ilmarinen/search/GroundTaskFirstAtomPinLaw" = true := by first | (simp [plainName, overriddenIn]; done) | decide +kernel
theorem ef_0 (m : MethodId) (x0 : Int64) (x1 : Int64) (x2 : Int32) (x3 : Int32) (x4 : Int32) (x5 : Int32) : entryFrame m #[(.long x0), (.long x1), (.int x2), (.int x3), (.int x4), (.int x5)] maxLocals = mkF m 0 #[.val (.long x0), .second, .val (.long x1), .second, .val (.int x2), .val (.int x3), .val (.int x4), .val (.int x5), .unset, .unset, .unset, .unset, .unset, .unset, .unset, .unset, .unset] [] := by first | (simp [entryFrame, mkF, argsToLocals, Value.category, maxLocals]; done) | rfl
def Q0 (Z : State) (q1 : Int64) (q2 : Int64) (p3 : Int32) (p4 : Int32) (p5 : Int32) (p6 : Int32) (h0 : Heap) (n0 : Nat) (v : Option Value) (h : Heap) (L : List Loc) : Prop := v = some (.int 1) ∧ Fr n0 L
set_option maxRecDepth 65536 in
set_option maxHeartbeats 40000000 in
theorem rm0_0 (l : Launch) (Z : State) (a0 : Array Value) (hw : ∀ d ∈ tables_1, d.before a0 Z = true) (ws : List Jvm.Cond) (q1 : Int64) (q2 : Int64) (p3 : Int32) (p4 : Int32) (p5 : Int32) (p6 : Int32) (h0 : Heap) (n0 : Nat) (Z0 : n0 ≤ h0.size) (hn : own_ushr p6 1 &&& 3 = (0 : Int32)) :
    MetFree l x (head1 (Jvm.Cond.code x code maxLocals ret :: ws) room_1) (fun a U => a = #[(.long q1), (.long q2), (.int p3), (.int p4), (.int p5), (.int p6)] ∧ Z.Warmed39 U.vm ∧ U.heap = h0) (fun _ _ _ _ _ => True) (fun _ U o U' => ∃ v L, o = .returned v ∧ Q0 Z q1 q2 p3 p4 p5 p6 h0 n0 v U'.heap L ∧ FrameEnd U o U' L (room_1).cells (room_1).slots) := by
  refine MetFree.of_bodySF (plainFor_of_name pn_0) hisR ?_
  intro p e s m args below meth c s₁ Bd hml0 hP hK
  obtain ⟨rfl, hZ, hh⟩ := hP
  have hx := Bd.exec
  have hby := Bd.bytes
  have hml : c.maxLocals = 17 := hml0
  have hown : s.vm.findClass "com/example/ilmarinen/ilmarinen/search/GroundTaskFirstAtomPinLaw" = some m.cls := findClass_of_methodNamed Bd.named
  have hnm := (name_of_methodNamed Bd.named Bd.method).1
  have X0 : Stand p l e room_1 s m #[(.long q1), (.long q2), (.int p3), (.int p4), (.int p5), (.int p6)] below meth c s₁ [] 0 0 := Stand.of_body Bd
  have e0 : s₁.heap = h0 := by rw [← hh, Bd.state]; rfl
  have N0 := Fr.nil n0
  have pre0 : ∀ t, Steps p.tables e below (s₁.setTop (mkF m 0 #[.val (.long q1), .second, .val (.long q2), .second, .val (.int p3), .val (.int p4), .val (.int p5), .val (.int p6), .unset, .unset, .unset, .unset, .unset, .unset, .unset, .unset, .unset] [])) t → Steps p.tables e below (s₁.setTop (entryFrame m #[(.long q1), (.long q2), (.int p3), (.int p4), (.int p5), (.int p6)] maxLocals)) t := fun t k => castTop (ef_0 m q1 q2 p3 p4 p5 p6) k
  have jA : ∀ t, Steps p.tables e below (s₁.setTop (mkF m 12 #[.val (.long q1), .second, .val (.long q2), .second, .val (.int p3), .val (.int p4), .val (.int p5), .val (.int p6), .unset, .unset, .unset, .unset, .unset, .unset, .unset, .unset, .unset] [(.int (own_H p6))])) t → Steps p.tables e below (s₁.setTop (mkF m 0 #[.val (.long q1), .second, .val (.long q2), .second, .val (.int p3), .val (.int p4), .val (.int p5), .val (.int p6), .unset, .unset, .unset, .unset, .unset, .unset, .unset, .unset, .unset] [])) t := by
    intro t kt
    show Steps p.tables e below (s₁.setTop (mkF m 0 #[.val (.long q1), .second, .val (.long q2), .second, .val (.int p3), .val (.int p4), .val (.int p5), .val (.int p6), .unset, .unset, .unset, .unset, .unset, .unset, .unset, .unset, .unset] [])) _
    refine XS.iload X0.here hx rfl (hb hby at_0) rfl ?_
    show Steps p.tables e below (s₁.setTop (mkF m 2 #[.val (.long q1), .second, .val (.long q2), .second, .val (.int p3), .val (.int p4), .val (.int p5), .val (.int p6), .unset, .unset, .unset, .unset, .unset, .unset, .unset, .unset, .unset] [(.int p6)])) _
    refine XS.iconst X0.here hx rfl (hb hby at_2) ?_
    show Steps p.tables e below (s₁.setTop (mkF m 3 #[.val (.long q1), .second, .val (.long q2), .second, .val (.int p3), .val (.int p4), .val (.int p5), .val (.int p6), .unset, .unset, .unset, .unset, .unset, .unset, .unset, .unset, .unset] [(.int (1 : Int32)), (.int p6)])) _
    refine XS.iand X0.here hx rfl (hb hby at_3) rfl ?_
    show Steps p.tables e below (s₁.setTop (mkF m 4 #[.val (.long q1), .second, .val (.long q2), .second, .val (.int p3), .val (.int p4), .val (.int p5), .val (.int p6), .unset, .unset, .unset, .unset, .unset, .unset, .unset, .unset, .unset] [(.int (p6 &&& (1 : Int32)))])) _
    by_cases c4 : (p6 &&& (1 : Int32)) = (0 : Int32)
    · refine XS.ifYes X0.here hx rfl (pc0 := 4) (pc' := 11) rfl (hb hby at_4) rfl ((if0 _ _).trans (teq c4).1) (by decide) (by decide) ?_
      show Steps p.tables e below (s₁.setTop (mkF m 11 #[.val (.long q1), .second, .val (.long q2), .second, .val (.int p3), .val (.int p4), .val (.int p5), .val (.int p6), .unset, .unset, .unset, .unset, .unset, .unset, .unset, .unset, .unset] [])) _
      refine XS.iconst X0.here hx rfl (hb hby at_11) ?_
      show Steps p.tables e below (s₁.setTop (mkF m 12 #[.val (.long q1), .second, .val (.long q2), .second, .val (.int p3), .val (.int p4), .val (.int p5), .val (.int p6), .unset, .unset, .unset, .unset, .unset, .unset, .unset, .unset, .unset] [(.int (0 : Int32))])) _
      have em : (own_H p6) = (0 : Int32) := by first | rfl | (rw [own_H, if_pos c4]; done) | (simp only [own_H, c4, if_true, if_false]; done) | (simp [own_H, c4]; done) | contradiction | ((unfold own_H; repeat' split) <;> first | rfl | contradiction | (simp_all; done))
      rw [em] at kt
      exact kt
    · refine XS.ifNo X0.here hx rfl (hb hby at_4) rfl ((if0 _ _).trans (feq c4).1) ?_
      show Steps p.tables e below (s₁.setTop (mkF m 7 #[.val (.long q1), .second, .val (.long q2), .second, .val (.int p3), .val (.int p4), .val (.int p5), .val (.int p6), .unset, .unset, .unset, .unset, .unset, .unset, .unset, .unset, .unset] [])) _
      refine XS.iconst X0.here hx rfl (hb hby at_7) ?_
      show Steps p.tables e below (s₁.setTop (mkF m 8 #[.val (.long q1), .second, .val (.long q2), .second, .val (.int p3), .val (.int p4), .val (.int p5), .val (.int p6), .unset, .unset, .unset, .unset, .unset, .unset, .unset, .unset, .unset] [(.int (1 : Int32))])) _
      refine XS.goto X0.here hx rfl (pc0 := 8) (pc' := 12) rfl (hb hby at_8) (by decide) (by decide) ?_
      show Steps p.tables e below (s₁.setTop (mkF m 12 #[.val (.long q1), .second, .val (.long q2), .second, .val (.int p3), .val (.int p4), .val (.int p5), .val (.int p6), .unset, .unset, .unset, .unset, .unset, .unset, .unset, .unset, .unset] [(.int (1 : Int32))])) _
      have em : (own_H p6) = (1 : Int32) := by first | rfl | (rw [own_H, if_neg c4]; done) | (simp only [own_H, c4, if_true, if_false]; done) | (simp [own_H, c4]; done) | contradiction | ((unfold own_H; repeat' split) <;> first | rfl | contradiction | (simp_all; done))
      rw [em] at kt
      exact kt
  have hneg : ¬ ((0 : Int32) < 0) := by decide
  obtain ⟨T1, h1, k1, X1, e1, E1, A1, st1⟩ := newP X0 hx hZ (hw _ (List.mem_of_getElem? (i := 0) rfl)) e0 (g := (mkF m 45 #[.val (.long q1), .second, .val (.long q2), .second, .val (.int p3), .val (.int p4), .val (.int p5), .val (.int p6), .val (.int (own_H p6)), .val (.int (0 : Int32)), .val (.int (p3 &&& (127 : Int32))), .val (.int (p4 &&& (127 : Int32))), .val (.int (p5 &&& (127 : Int32))), .unset, .unset, .unset, .unset] [(.int (0 : Int32))])) rfl (hb hby at_45) rfl hneg (cap := 0) (by decide) (by decide) (by decide) (by decide)
  obtain ⟨b1, g1⟩ : ∃ z, z = h0.size := ⟨_, rfl⟩
  rw [← g1] at A1 st1
  have gb1 : n0 ≤ b1 := Nat.le_trans Z0 (Nat.le_of_eq g1.symm)
  obtain ⟨T2, h2, k2, X2, e2, E2, A2, st2⟩ := newP X1 hx hZ (hw _ (List.mem_of_getElem? (i := 1) rfl)) e1 (g := (mkF m 86 #[.val (.long q1), .second, .val (.long q2), .second, .val (.int p3), .val (.int p4), .val (.int p5), .val (.int p6), .val (.int (own_H p6)), .val (.int (0 : Int32)), .val (.int (p3 &&& (127 : Int32))), .val (.int (p4 &&& (127 : Int32))), .val (.int (p5 &&& (127 : Int32))), .val (.ref b1), .unset, .unset, .unset] [(.int (2 : Int32))])) rfl (hb hby at_86) rfl (by decide) (cap := 2) (by decide) (by decide) (by decide) (by decide)
  obtain ⟨b2, g2⟩ : ∃ z, z = h1.size := ⟨_, rfl⟩
  rw [← g2] at A2 st2
  have Zs1 : n0 ≤ h1.size := Nat.le_trans Z0 E1.1
  have gb2 : n0 ≤ b2 := Nat.le_trans Zs1 (Nat.le_of_eq g2.symm)
  have ne : b1 ≠ b2 := Nat.ne_of_lt (Nat.lt_of_lt_of_le A1.lt (Nat.le_of_eq g2.symm))
  have Zs2 : n0 ≤ h2.size := Nat.le_trans Zs1 E2.1
  have AI2 := A1.ext E2
  have hin3 : ¬ ((0 : Int32) < 0 ∨ (newA k2 .long (2 : Int32)).slots.size ≤ ((0 : Int32)).toNatClampNeg) := own_in (n := 2) (k := 0) (by decide) rfl rfl (by decide)
  obtain ⟨T3, h3, X3, e3, W3, st3⟩ := stJ X2 hx hZ e2 A2 (j := (0 : Int32)) hin3 (g := (mkF m 91 #[.val (.long q1), .second, .val (.long q2), .second, .val (.int p3), .val (.int p4), .val (.int p5), .val (.int p6), .val (.int (own_H p6)), .val (.int (0 : Int32)), .val (.int (p3 &&& (127 : Int32))), .val (.int (p4 &&& (127 : Int32))), .val (.int (p5 &&& (127 : Int32))), .val (.ref b1), .unset, .unset, .unset] [(.long q1), (.int (0 : Int32)), (.ref b2), (.ref b2)])) rfl rfl (hb hby at_91)
  have N3 := Fr.snoc X3 N0 gb2
  have A3 := Arr.same W3 A2
  have AI3 := AI2.other W3 ne
  have Zs3 : n0 ≤ h3.size := Nat.le_trans Zs2 (Keep.of_wr W3).1
  have hin4 : ¬ ((1 : Int32) < 0 ∨ ((newA k2 .long (2 : Int32)).setSlot ((0 : Int32)).toNatClampNeg (.long q1)).slots.size ≤ ((1 : Int32)).toNatClampNeg) := own_in (n := 2) (k := 1) (by decide) rfl rfl (by decide)
  obtain ⟨T4, h4, X4, e4, W4, st4⟩ := stJ X3 hx hZ e3 A3 (j := (1 : Int32)) hin4 (g := (mkF m 95 #[.val (.long q1), .second, .val (.long q2), .second, .val (.int p3), .val (.int p4), .val (.int p5), .val (.int p6), .val (.int (own_H p6)), .val (.int (0 : Int32)), .val (.int (p3 &&& (127 : Int32))), .val (.int (p4 &&& (127 : Int32))), .val (.int (p5 &&& (127 : Int32))), .val (.ref b1), .unset, .unset, .unset] [(.long q2), (.int (1 : Int32)), (.ref b2), (.ref b2)])) rfl rfl (hb hby at_95)
  have N4 := Fr.snoc X4 N3 gb2
  have A4 := Arr.same W4 A3
  have AI4 := AI3.other W4 ne
  have Zs4 : n0 ≤ h4.size := Nat.le_trans Zs3 (Keep.of_wr W4).1
  have hxs : ∀ x ∈ ([] : List Int32), ∃ a, a < 128 ∧ x = Int32.ofNat a := by
    intro x hx'
    simp at hx'
  have HI : ∀ (j : Nat) (x : Int32), ([] : List Int32)[j]? = some x → (newA k1 .int (0 : Int32)).slots[j]? = some (.int x) := by
    intro j x q
    match j, q with
    | j + 0, q => simp at q
  obtain ⟨_, _, ⟨T5, L5, k5, n5⟩, -, X5, ⟨Lc5, hQ5, l5, y5, z5⟩, st5⟩ := Jvm.LawKit.callS X4 hx (y := (⟨"com/example/ilmarinen/ilmarinen/search/GroundTask", "firstAtom", "([I[JZ)I"⟩ : MethodName)) hown (mvT hZ (hw _ (List.mem_of_getElem? (i := 2) rfl))) (mvT hZ (hw _ (List.mem_of_getElem? (i := 3) rfl))) (mvT hZ (hw _ (List.mem_of_getElem? (i := 4) rfl))) (mvT hZ (hw _ (List.mem_of_getElem? (i := 5) rfl))) (by decide) (backOf (W := 0) (rm1 l Z a0 hw [] b1 b2 (own_H p6) q1 q2 [] (newA k1 .int (0 : Int32)) (((newA k2 .long (2 : Int32)).setSlot ((0 : Int32)).toNatClampNeg (.long q1)).setSlot ((1 : Int32)).toNatClampNeg (.long q2)) h4 n0 Zs4 (by show 0 < 4; decide) AI4 rfl HI hxs A4 rfl rfl rfl) hZ (hw _ (List.mem_of_getElem? (i := 5) rfl)) (hw _ (List.mem_of_getElem? (i := 4) rfl)) (by decide) (by decide)) (g := (mkF m 104 #[.val (.long q1), .second, .val (.long q2), .second, .val (.int p3), .val (.int p4), .val (.int p5), .val (.int p6), .val (.int (own_H p6)), .val (.int (0 : Int32)), .val (.int (p3 &&& (127 : Int32))), .val (.int (p4 &&& (127 : Int32))), .val (.int (p5 &&& (127 : Int32))), .val (.ref b1), .val (.ref b2), .unset, .unset] [(.int (own_H p6)), (.ref b2), (.ref b1)])) rfl (by rw [hml]; rfl) (argsL := [(.ref b1), (.ref b2), (.int (own_H p6))]) (rest := []) (lenOf pd_fa rfl) rfl (by show 2 * 0 + _ ≤ _; exact Nat.le_of_eq rfl) (hb hby at_104) (fun _ _ => ⟨rfl, e4, (by decide : 2 + 0 ≤ _), (by decide : 2 + 0 ≤ _)⟩)
  dsimp only [Pt.U, Pt.locs, Pt.cells, Pt.slots] at X5 l5 y5 z5 st5 hQ5
  subst l5 y5 z5
  obtain ⟨rfl, N5q, e5⟩ := hQ5
  have N5 := Fr.app N4 N5q
  have fin : (own_fa (own_H p6) q1 q2 []) = (-1 : Int32) := own_fin _ _ _ _ hxs
  have hJ0 : ¬ ((0 : Int32) < 0 ∨ (((newA k2 .long (2 : Int32)).setSlot ((0 : Int32)).toNatClampNeg (.long q1)).setSlot ((1 : Int32)).toNatClampNeg (.long q2)).slots.size ≤ (0 : Int32).toNatClampNeg) := own_in (n := 2) (k := 0) (by decide) rfl rfl (by decide)
  have hJ1 : ¬ ((1 : Int32) < 0 ∨ (((newA k2 .long (2 : Int32)).setSlot ((0 : Int32)).toNatClampNeg (.long q1)).setSlot ((1 : Int32)).toNatClampNeg (.long q2)).slots.size ≤ (1 : Int32).toNatClampNeg) := own_in (n := 2) (k := 1) (by decide) rfl rfl (by decide)
  obtain ⟨fs, hr, hrun, hended, hW, hsame⟩ := X5.leave (v := some (.int (1 : Int32))) (fun h => by rw [Bd.returns] at h; cases h)
  refine ⟨_, _, pre0 _ ?_, hrun, hended, _, _, rfl, ?_, ⟨_, rfl⟩, hW, hsame.mono (by decide) (by decide)⟩
  · show Steps p.tables e below (s₁.setTop (mkF m 0 #[.val (.long q1), .second, .val (.long q2), .second, .val (.int p3), .val (.int p4), .val (.int p5), .val (.int p6), .unset, .unset, .unset, .unset, .unset, .unset, .unset, .unset, .unset] [])) _
    refine jA _ ?_
    show Steps p.tables e below (s₁.setTop (mkF m 12 #[.val (.long q1), .second, .val (.long q2), .second, .val (.int p3), .val (.int p4), .val (.int p5), .val (.int p6), .unset, .unset, .unset, .unset, .unset, .unset, .unset, .unset, .unset] [(.int (own_H p6))])) _
    refine XS.istore X0.here hx rfl (hb hby at_12) rfl (l' := #[.val (.long q1), .second, .val (.long q2), .second, .val (.int p3), .val (.int p4), .val (.int p5), .val (.int p6), .val (.int (own_H p6)), .unset, .unset, .unset, .unset, .unset, .unset, .unset, .unset]) rfl ?_
    show Steps p.tables e below (s₁.setTop (mkF m 14 #[.val (.long q1), .second, .val (.long q2), .second, .val (.int p3), .val (.int p4), .val (.int p5), .val (.int p6), .val (.int (own_H p6)), .unset, .unset, .unset, .unset, .unset, .unset, .unset, .unset] [])) _
    refine XS.iload X0.here hx rfl (hb hby at_14) rfl ?_
    show Steps p.tables e below (s₁.setTop (mkF m 16 #[.val (.long q1), .second, .val (.long q2), .second, .val (.int p3), .val (.int p4), .val (.int p5), .val (.int p6), .val (.int (own_H p6)), .unset, .unset, .unset, .unset, .unset, .unset, .unset, .unset] [(.int p6)])) _
    refine XS.iconst X0.here hx rfl (hb hby at_16) ?_
    show Steps p.tables e below (s₁.setTop (mkF m 17 #[.val (.long q1), .second, .val (.long q2), .second, .val (.int p3), .val (.int p4), .val (.int p5), .val (.int p6), .val (.int (own_H p6)), .unset, .unset, .unset, .unset, .unset, .unset, .unset, .unset] [(.int (1 : Int32)), (.int p6)])) _
    refine XS.iushr X0.here hx rfl (hb hby at_17) rfl ?_
    show Steps p.tables e below (s₁.setTop (mkF m 18 #[.val (.long q1), .second, .val (.long q2), .second, .val (.int p3), .val (.int p4), .val (.int p5), .val (.int p6), .val (.int (own_H p6)), .unset, .unset, .unset, .unset, .unset, .unset, .unset, .unset] [(.int (own_ushr p6 (1 : Int32)))])) _
    refine XS.iconst X0.here hx rfl (hb hby at_18) ?_
    show Steps p.tables e below (s₁.setTop (mkF m 19 #[.val (.long q1), .second, .val (.long q2), .second, .val (.int p3), .val (.int p4), .val (.int p5), .val (.int p6), .val (.int (own_H p6)), .unset, .unset, .unset, .unset, .unset, .unset, .unset, .unset] [(.int (3 : Int32)), (.int (own_ushr p6 (1 : Int32)))])) _
    refine XS.iand X0.here hx rfl (hb hby at_19) rfl ?_
    show Steps p.tables e below (s₁.setTop (mkF m 20 #[.val (.long q1), .second, .val (.long q2), .second, .val (.int p3), .val (.int p4), .val (.int p5), .val (.int p6), .val (.int (own_H p6)), .unset, .unset, .unset, .unset, .unset, .unset, .unset, .unset] [(.int ((own_ushr p6 (1 : Int32)) &&& (3 : Int32)))])) _
    rw [hn]
    show Steps p.tables e below (s₁.setTop (mkF m 20 #[.val (.long q1), .second, .val (.long q2), .second, .val (.int p3), .val (.int p4), .val (.int p5), .val (.int p6), .val (.int (own_H p6)), .unset, .unset, .unset, .unset, .unset, .unset, .unset, .unset] [(.int (0 : Int32))])) _
    refine XS.istore X0.here hx rfl (hb hby at_20) rfl (l' := #[.val (.long q1), .second, .val (.long q2), .second, .val (.int p3), .val (.int p4), .val (.int p5), .val (.int p6), .val (.int (own_H p6)), .val (.int (0 : Int32)), .unset, .unset, .unset, .unset, .unset, .unset, .unset]) rfl ?_
    show Steps p.tables e below (s₁.setTop (mkF m 22 #[.val (.long q1), .second, .val (.long q2), .second, .val (.int p3), .val (.int p4), .val (.int p5), .val (.int p6), .val (.int (own_H p6)), .val (.int (0 : Int32)), .unset, .unset, .unset, .unset, .unset, .unset, .unset] [])) _
    refine XS.iload X0.here hx rfl (hb hby at_22) rfl ?_
    show Steps p.tables e below (s₁.setTop (mkF m 24 #[.val (.long q1), .second, .val (.long q2), .second, .val (.int p3), .val (.int p4), .val (.int p5), .val (.int p6), .val (.int (own_H p6)), .val (.int (0 : Int32)), .unset, .unset, .unset, .unset, .unset, .unset, .unset] [(.int p3)])) _
    refine XS.bipush X0.here hx rfl (hb hby at_24) ?_
    show Steps p.tables e below (s₁.setTop (mkF m 26 #[.val (.long q1), .second, .val (.long q2), .second, .val (.int p3), .val (.int p4), .val (.int p5), .val (.int p6), .val (.int (own_H p6)), .val (.int (0 : Int32)), .unset, .unset, .unset, .unset, .unset, .unset, .unset] [(.int (127 : Int32)), (.int p3)])) _
    refine XS.iand X0.here hx rfl (hb hby at_26) rfl ?_
    show Steps p.tables e below (s₁.setTop (mkF m 27 #[.val (.long q1), .second, .val (.long q2), .second, .val (.int p3), .val (.int p4), .val (.int p5), .val (.int p6), .val (.int (own_H p6)), .val (.int (0 : Int32)), .unset, .unset, .unset, .unset, .unset, .unset, .unset] [(.int (p3 &&& (127 : Int32)))])) _
    refine XS.istore X0.here hx rfl (hb hby at_27) rfl (l' := #[.val (.long q1), .second, .val (.long q2), .second, .val (.int p3), .val (.int p4), .val (.int p5), .val (.int p6), .val (.int (own_H p6)), .val (.int (0 : Int32)), .val (.int (p3 &&& (127 : Int32))), .unset, .unset, .unset, .unset, .unset, .unset]) rfl ?_
    show Steps p.tables e below (s₁.setTop (mkF m 29 #[.val (.long q1), .second, .val (.long q2), .second, .val (.int p3), .val (.int p4), .val (.int p5), .val (.int p6), .val (.int (own_H p6)), .val (.int (0 : Int32)), .val (.int (p3 &&& (127 : Int32))), .unset, .unset, .unset, .unset, .unset, .unset] [])) _
    refine XS.iload X0.here hx rfl (hb hby at_29) rfl ?_
    show Steps p.tables e below (s₁.setTop (mkF m 31 #[.val (.long q1), .second, .val (.long q2), .second, .val (.int p3), .val (.int p4), .val (.int p5), .val (.int p6), .val (.int (own_H p6)), .val (.int (0 : Int32)), .val (.int (p3 &&& (127 : Int32))), .unset, .unset, .unset, .unset, .unset, .unset] [(.int p4)])) _
    refine XS.bipush X0.here hx rfl (hb hby at_31) ?_
    show Steps p.tables e below (s₁.setTop (mkF m 33 #[.val (.long q1), .second, .val (.long q2), .second, .val (.int p3), .val (.int p4), .val (.int p5), .val (.int p6), .val (.int (own_H p6)), .val (.int (0 : Int32)), .val (.int (p3 &&& (127 : Int32))), .unset, .unset, .unset, .unset, .unset, .unset] [(.int (127 : Int32)), (.int p4)])) _
    refine XS.iand X0.here hx rfl (hb hby at_33) rfl ?_
    show Steps p.tables e below (s₁.setTop (mkF m 34 #[.val (.long q1), .second, .val (.long q2), .second, .val (.int p3), .val (.int p4), .val (.int p5), .val (.int p6), .val (.int (own_H p6)), .val (.int (0 : Int32)), .val (.int (p3 &&& (127 : Int32))), .unset, .unset, .unset, .unset, .unset, .unset] [(.int (p4 &&& (127 : Int32)))])) _
    refine XS.istore X0.here hx rfl (hb hby at_34) rfl (l' := #[.val (.long q1), .second, .val (.long q2), .second, .val (.int p3), .val (.int p4), .val (.int p5), .val (.int p6), .val (.int (own_H p6)), .val (.int (0 : Int32)), .val (.int (p3 &&& (127 : Int32))), .val (.int (p4 &&& (127 : Int32))), .unset, .unset, .unset, .unset, .unset]) rfl ?_
    show Steps p.tables e below (s₁.setTop (mkF m 36 #[.val (.long q1), .second, .val (.long q2), .second, .val (.int p3), .val (.int p4), .val (.int p5), .val (.int p6), .val (.int (own_H p6)), .val (.int (0 : Int32)), .val (.int (p3 &&& (127 : Int32))), .val (.int (p4 &&& (127 : Int32))), .unset, .unset, .unset, .unset, .unset] [])) _
    refine XS.iload X0.here hx rfl (hb hby at_36) rfl ?_
    show Steps p.tables e below (s₁.setTop (mkF m 38 #[.val (.long q1), .second, .val (.long q2), .second, .val (.int p3), .val (.int p4), .val (.int p5), .val (.int p6), .val (.int (own_H p6)), .val (.int (0 : Int32)), .val (.int (p3 &&& (127 : Int32))), .val (.int (p4 &&& (127 : Int32))), .unset, .unset, .unset, .unset, .unset] [(.int p5)])) _
    refine XS.bipush X0.here hx rfl (hb hby at_38) ?_
    show Steps p.tables e below (s₁.setTop (mkF m 40 #[.val (.long q1), .second, .val (.long q2), .second, .val (.int p3), .val (.int p4), .val (.int p5), .val (.int p6), .val (.int (own_H p6)), .val (.int (0 : Int32)), .val (.int (p3 &&& (127 : Int32))), .val (.int (p4 &&& (127 : Int32))), .unset, .unset, .unset, .unset, .unset] [(.int (127 : Int32)), (.int p5)])) _
    refine XS.iand X0.here hx rfl (hb hby at_40) rfl ?_
    show Steps p.tables e below (s₁.setTop (mkF m 41 #[.val (.long q1), .second, .val (.long q2), .second, .val (.int p3), .val (.int p4), .val (.int p5), .val (.int p6), .val (.int (own_H p6)), .val (.int (0 : Int32)), .val (.int (p3 &&& (127 : Int32))), .val (.int (p4 &&& (127 : Int32))), .unset, .unset, .unset, .unset, .unset] [(.int (p5 &&& (127 : Int32)))])) _
    refine XS.istore X0.here hx rfl (hb hby at_41) rfl (l' := #[.val (.long q1), .second, .val (.long q2), .second, .val (.int p3), .val (.int p4), .val (.int p5), .val (.int p6), .val (.int (own_H p6)), .val (.int (0 : Int32)), .val (.int (p3 &&& (127 : Int32))), .val (.int (p4 &&& (127 : Int32))), .val (.int (p5 &&& (127 : Int32))), .unset, .unset, .unset, .unset]) rfl ?_
    show Steps p.tables e below (s₁.setTop (mkF m 43 #[.val (.long q1), .second, .val (.long q2), .second, .val (.int p3), .val (.int p4), .val (.int p5), .val (.int p6), .val (.int (own_H p6)), .val (.int (0 : Int32)), .val (.int (p3 &&& (127 : Int32))), .val (.int (p4 &&& (127 : Int32))), .val (.int (p5 &&& (127 : Int32))), .unset, .unset, .unset, .unset] [])) _
    refine XS.iload X0.here hx rfl (hb hby at_43) rfl ?_
    show Steps p.tables e below (s₁.setTop (mkF m 45 #[.val (.long q1), .second, .val (.long q2), .second, .val (.int p3), .val (.int p4), .val (.int p5), .val (.int p6), .val (.int (own_H p6)), .val (.int (0 : Int32)), .val (.int (p3 &&& (127 : Int32))), .val (.int (p4 &&& (127 : Int32))), .val (.int (p5 &&& (127 : Int32))), .unset, .unset, .unset, .unset] [(.int (0 : Int32))])) _
    refine st1 _ ?_
    show Steps p.tables e below (T1.setTop (mkF m 47 #[.val (.long q1), .second, .val (.long q2), .second, .val (.int p3), .val (.int p4), .val (.int p5), .val (.int p6), .val (.int (own_H p6)), .val (.int (0 : Int32)), .val (.int (p3 &&& (127 : Int32))), .val (.int (p4 &&& (127 : Int32))), .val (.int (p5 &&& (127 : Int32))), .unset, .unset, .unset, .unset] [(.ref b1)])) _
    refine XS.astore X1.here hx rfl (hb hby at_47) rfl rfl (l' := #[.val (.long q1), .second, .val (.long q2), .second, .val (.int p3), .val (.int p4), .val (.int p5), .val (.int p6), .val (.int (own_H p6)), .val (.int (0 : Int32)), .val (.int (p3 &&& (127 : Int32))), .val (.int (p4 &&& (127 : Int32))), .val (.int (p5 &&& (127 : Int32))), .val (.ref b1), .unset, .unset, .unset]) rfl ?_
    show Steps p.tables e below (T1.setTop (mkF m 49 #[.val (.long q1), .second, .val (.long q2), .second, .val (.int p3), .val (.int p4), .val (.int p5), .val (.int p6), .val (.int (own_H p6)), .val (.int (0 : Int32)), .val (.int (p3 &&& (127 : Int32))), .val (.int (p4 &&& (127 : Int32))), .val (.int (p5 &&& (127 : Int32))), .val (.ref b1), .unset, .unset, .unset] [])) _
    refine XS.iload X1.here hx rfl (hb hby at_49) rfl ?_
    show Steps p.tables e below (T1.setTop (mkF m 51 #[.val (.long q1), .second, .val (.long q2), .second, .val (.int p3), .val (.int p4), .val (.int p5), .val (.int p6), .val (.int (own_H p6)), .val (.int (0 : Int32)), .val (.int (p3 &&& (127 : Int32))), .val (.int (p4 &&& (127 : Int32))), .val (.int (p5 &&& (127 : Int32))), .val (.ref b1), .unset, .unset, .unset] [(.int (0 : Int32))])) _
    refine XS.iconst X1.here hx rfl (hb hby at_51) ?_
    show Steps p.tables e below (T1.setTop (mkF m 52 #[.val (.long q1), .second, .val (.long q2), .second, .val (.int p3), .val (.int p4), .val (.int p5), .val (.int p6), .val (.int (own_H p6)), .val (.int (0 : Int32)), .val (.int (p3 &&& (127 : Int32))), .val (.int (p4 &&& (127 : Int32))), .val (.int (p5 &&& (127 : Int32))), .val (.ref b1), .unset, .unset, .unset] [(.int (1 : Int32)), (.int (0 : Int32))])) _
    refine XS.icmpYes X1.here hx rfl (pc0 := 52) (pc' := 61) rfl (hb hby at_52) rfl (tlt (by decide)).1 (by decide) (by decide) ?_
    show Steps p.tables e below (T1.setTop (mkF m 61 #[.val (.long q1), .second, .val (.long q2), .second, .val (.int p3), .val (.int p4), .val (.int p5), .val (.int p6), .val (.int (own_H p6)), .val (.int (0 : Int32)), .val (.int (p3 &&& (127 : Int32))), .val (.int (p4 &&& (127 : Int32))), .val (.int (p5 &&& (127 : Int32))), .val (.ref b1), .unset, .unset, .unset] [])) _
    refine XS.iload X1.here hx rfl (hb hby at_61) rfl ?_
    show Steps p.tables e below (T1.setTop (mkF m 63 #[.val (.long q1), .second, .val (.long q2), .second, .val (.int p3), .val (.int p4), .val (.int p5), .val (.int p6), .val (.int (own_H p6)), .val (.int (0 : Int32)), .val (.int (p3 &&& (127 : Int32))), .val (.int (p4 &&& (127 : Int32))), .val (.int (p5 &&& (127 : Int32))), .val (.ref b1), .unset, .unset, .unset] [(.int (0 : Int32))])) _
    refine XS.iconst X1.here hx rfl (hb hby at_63) ?_
    show Steps p.tables e below (T1.setTop (mkF m 64 #[.val (.long q1), .second, .val (.long q2), .second, .val (.int p3), .val (.int p4), .val (.int p5), .val (.int p6), .val (.int (own_H p6)), .val (.int (0 : Int32)), .val (.int (p3 &&& (127 : Int32))), .val (.int (p4 &&& (127 : Int32))), .val (.int (p5 &&& (127 : Int32))), .val (.ref b1), .unset, .unset, .unset] [(.int (2 : Int32)), (.int (0 : Int32))])) _
    refine XS.icmpYes X1.here hx rfl (pc0 := 64) (pc' := 73) rfl (hb hby at_64) rfl (tlt (by decide)).1 (by decide) (by decide) ?_
    show Steps p.tables e below (T1.setTop (mkF m 73 #[.val (.long q1), .second, .val (.long q2), .second, .val (.int p3), .val (.int p4), .val (.int p5), .val (.int p6), .val (.int (own_H p6)), .val (.int (0 : Int32)), .val (.int (p3 &&& (127 : Int32))), .val (.int (p4 &&& (127 : Int32))), .val (.int (p5 &&& (127 : Int32))), .val (.ref b1), .unset, .unset, .unset] [])) _
    refine XS.iload X1.here hx rfl (hb hby at_73) rfl ?_
    show Steps p.tables e below (T1.setTop (mkF m 75 #[.val (.long q1), .second, .val (.long q2), .second, .val (.int p3), .val (.int p4), .val (.int p5), .val (.int p6), .val (.int (own_H p6)), .val (.int (0 : Int32)), .val (.int (p3 &&& (127 : Int32))), .val (.int (p4 &&& (127 : Int32))), .val (.int (p5 &&& (127 : Int32))), .val (.ref b1), .unset, .unset, .unset] [(.int (0 : Int32))])) _
    refine XS.iconst X1.here hx rfl (hb hby at_75) ?_
    show Steps p.tables e below (T1.setTop (mkF m 76 #[.val (.long q1), .second, .val (.long q2), .second, .val (.int p3), .val (.int p4), .val (.int p5), .val (.int p6), .val (.int (own_H p6)), .val (.int (0 : Int32)), .val (.int (p3 &&& (127 : Int32))), .val (.int (p4 &&& (127 : Int32))), .val (.int (p5 &&& (127 : Int32))), .val (.ref b1), .unset, .unset, .unset] [(.int (3 : Int32)), (.int (0 : Int32))])) _
    refine XS.icmpYes X1.here hx rfl (pc0 := 76) (pc' := 85) rfl (hb hby at_76) rfl (tlt (by decide)).1 (by decide) (by decide) ?_
    show Steps p.tables e below (T1.setTop (mkF m 85 #[.val (.long q1), .second, .val (.long q2), .second, .val (.int p3), .val (.int p4), .val (.int p5), .val (.int p6), .val (.int (own_H p6)), .val (.int (0 : Int32)), .val (.int (p3 &&& (127 : Int32))), .val (.int (p4 &&& (127 : Int32))), .val (.int (p5 &&& (127 : Int32))), .val (.ref b1), .unset, .unset, .unset] [])) _
    refine XS.iconst X1.here hx rfl (hb hby at_85) ?_
    show Steps p.tables e below (T1.setTop (mkF m 86 #[.val (.long q1), .second, .val (.long q2), .second, .val (.int p3), .val (.int p4), .val (.int p5), .val (.int p6), .val (.int (own_H p6)), .val (.int (0 : Int32)), .val (.int (p3 &&& (127 : Int32))), .val (.int (p4 &&& (127 : Int32))), .val (.int (p5 &&& (127 : Int32))), .val (.ref b1), .unset, .unset, .unset] [(.int (2 : Int32))])) _
    refine st2 _ ?_
    show Steps p.tables e below (T2.setTop (mkF m 88 #[.val (.long q1), .second, .val (.long q2), .second, .val (.int p3), .val (.int p4), .val (.int p5), .val (.int p6), .val (.int (own_H p6)), .val (.int (0 : Int32)), .val (.int (p3 &&& (127 : Int32))), .val (.int (p4 &&& (127 : Int32))), .val (.int (p5 &&& (127 : Int32))), .val (.ref b1), .unset, .unset, .unset] [(.ref b2)])) _
    refine XS.dup X2.here hx rfl (hb hby at_88) rfl rfl ?_
    show Steps p.tables e below (T2.setTop (mkF m 89 #[.val (.long q1), .second, .val (.long q2), .second, .val (.int p3), .val (.int p4), .val (.int p5), .val (.int p6), .val (.int (own_H p6)), .val (.int (0 : Int32)), .val (.int (p3 &&& (127 : Int32))), .val (.int (p4 &&& (127 : Int32))), .val (.int (p5 &&& (127 : Int32))), .val (.ref b1), .unset, .unset, .unset] [(.ref b2), (.ref b2)])) _
    refine XS.iconst X2.here hx rfl (hb hby at_89) ?_
    show Steps p.tables e below (T2.setTop (mkF m 90 #[.val (.long q1), .second, .val (.long q2), .second, .val (.int p3), .val (.int p4), .val (.int p5), .val (.int p6), .val (.int (own_H p6)), .val (.int (0 : Int32)), .val (.int (p3 &&& (127 : Int32))), .val (.int (p4 &&& (127 : Int32))), .val (.int (p5 &&& (127 : Int32))), .val (.ref b1), .unset, .unset, .unset] [(.int (0 : Int32)), (.ref b2), (.ref b2)])) _
    refine XS.lloadN X2.here hx rfl (hb hby at_90) rfl ?_
    show Steps p.tables e below (T2.setTop (mkF m 91 #[.val (.long q1), .second, .val (.long q2), .second, .val (.int p3), .val (.int p4), .val (.int p5), .val (.int p6), .val (.int (own_H p6)), .val (.int (0 : Int32)), .val (.int (p3 &&& (127 : Int32))), .val (.int (p4 &&& (127 : Int32))), .val (.int (p5 &&& (127 : Int32))), .val (.ref b1), .unset, .unset, .unset] [(.long q1), (.int (0 : Int32)), (.ref b2), (.ref b2)])) _
    refine st3 _ ?_
    show Steps p.tables e below (T3.setTop (mkF m 92 #[.val (.long q1), .second, .val (.long q2), .second, .val (.int p3), .val (.int p4), .val (.int p5), .val (.int p6), .val (.int (own_H p6)), .val (.int (0 : Int32)), .val (.int (p3 &&& (127 : Int32))), .val (.int (p4 &&& (127 : Int32))), .val (.int (p5 &&& (127 : Int32))), .val (.ref b1), .unset, .unset, .unset] [(.ref b2)])) _
    refine XS.dup X3.here hx rfl (hb hby at_92) rfl rfl ?_
    show Steps p.tables e below (T3.setTop (mkF m 93 #[.val (.long q1), .second, .val (.long q2), .second, .val (.int p3), .val (.int p4), .val (.int p5), .val (.int p6), .val (.int (own_H p6)), .val (.int (0 : Int32)), .val (.int (p3 &&& (127 : Int32))), .val (.int (p4 &&& (127 : Int32))), .val (.int (p5 &&& (127 : Int32))), .val (.ref b1), .unset, .unset, .unset] [(.ref b2), (.ref b2)])) _
    refine XS.iconst X3.here hx rfl (hb hby at_93) ?_
    show Steps p.tables e below (T3.setTop (mkF m 94 #[.val (.long q1), .second, .val (.long q2), .second, .val (.int p3), .val (.int p4), .val (.int p5), .val (.int p6), .val (.int (own_H p6)), .val (.int (0 : Int32)), .val (.int (p3 &&& (127 : Int32))), .val (.int (p4 &&& (127 : Int32))), .val (.int (p5 &&& (127 : Int32))), .val (.ref b1), .unset, .unset, .unset] [(.int (1 : Int32)), (.ref b2), (.ref b2)])) _
    refine XS.lloadN X3.here hx rfl (hb hby at_94) rfl ?_
    show Steps p.tables e below (T3.setTop (mkF m 95 #[.val (.long q1), .second, .val (.long q2), .second, .val (.int p3), .val (.int p4), .val (.int p5), .val (.int p6), .val (.int (own_H p6)), .val (.int (0 : Int32)), .val (.int (p3 &&& (127 : Int32))), .val (.int (p4 &&& (127 : Int32))), .val (.int (p5 &&& (127 : Int32))), .val (.ref b1), .unset, .unset, .unset] [(.long q2), (.int (1 : Int32)), (.ref b2), (.ref b2)])) _
    refine st4 _ ?_
    show Steps p.tables e below (T4.setTop (mkF m 96 #[.val (.long q1), .second, .val (.long q2), .second, .val (.int p3), .val (.int p4), .val (.int p5), .val (.int p6), .val (.int (own_H p6)), .val (.int (0 : Int32)), .val (.int (p3 &&& (127 : Int32))), .val (.int (p4 &&& (127 : Int32))), .val (.int (p5 &&& (127 : Int32))), .val (.ref b1), .unset, .unset, .unset] [(.ref b2)])) _
    refine XS.astore X4.here hx rfl (hb hby at_96) rfl rfl (l' := #[.val (.long q1), .second, .val (.long q2), .second, .val (.int p3), .val (.int p4), .val (.int p5), .val (.int p6), .val (.int (own_H p6)), .val (.int (0 : Int32)), .val (.int (p3 &&& (127 : Int32))), .val (.int (p4 &&& (127 : Int32))), .val (.int (p5 &&& (127 : Int32))), .val (.ref b1), .val (.ref b2), .unset, .unset]) rfl ?_
    show Steps p.tables e below (T4.setTop (mkF m 98 #[.val (.long q1), .second, .val (.long q2), .second, .val (.int p3), .val (.int p4), .val (.int p5), .val (.int p6), .val (.int (own_H p6)), .val (.int (0 : Int32)), .val (.int (p3 &&& (127 : Int32))), .val (.int (p4 &&& (127 : Int32))), .val (.int (p5 &&& (127 : Int32))), .val (.ref b1), .val (.ref b2), .unset, .unset] [])) _
    refine XS.aload X4.here hx rfl (hb hby at_98) rfl rfl ?_
    show Steps p.tables e below (T4.setTop (mkF m 100 #[.val (.long q1), .second, .val (.long q2), .second, .val (.int p3), .val (.int p4), .val (.int p5), .val (.int p6), .val (.int (own_H p6)), .val (.int (0 : Int32)), .val (.int (p3 &&& (127 : Int32))), .val (.int (p4 &&& (127 : Int32))), .val (.int (p5 &&& (127 : Int32))), .val (.ref b1), .val (.ref b2), .unset, .unset] [(.ref b1)])) _
    refine XS.aload X4.here hx rfl (hb hby at_100) rfl rfl ?_
    show Steps p.tables e below (T4.setTop (mkF m 102 #[.val (.long q1), .second, .val (.long q2), .second, .val (.int p3), .val (.int p4), .val (.int p5), .val (.int p6), .val (.int (own_H p6)), .val (.int (0 : Int32)), .val (.int (p3 &&& (127 : Int32))), .val (.int (p4 &&& (127 : Int32))), .val (.int (p5 &&& (127 : Int32))), .val (.ref b1), .val (.ref b2), .unset, .unset] [(.ref b2), (.ref b1)])) _
    refine XS.iload X4.here hx rfl (hb hby at_102) rfl ?_
    show Steps p.tables e below (T4.setTop (mkF m 104 #[.val (.long q1), .second, .val (.long q2), .second, .val (.int p3), .val (.int p4), .val (.int p5), .val (.int p6), .val (.int (own_H p6)), .val (.int (0 : Int32)), .val (.int (p3 &&& (127 : Int32))), .val (.int (p4 &&& (127 : Int32))), .val (.int (p5 &&& (127 : Int32))), .val (.ref b1), .val (.ref b2), .unset, .unset] [(.int (own_H p6)), (.ref b2), (.ref b1)])) _
    refine st5 _ ?_
    show Steps p.tables e below (T5.setTop (mkF m 107 #[.val (.long q1), .second, .val (.long q2), .second, .val (.int p3), .val (.int p4), .val (.int p5), .val (.int p6), .val (.int (own_H p6)), .val (.int (0 : Int32)), .val (.int (p3 &&& (127 : Int32))), .val (.int (p4 &&& (127 : Int32))), .val (.int (p5 &&& (127 : Int32))), .val (.ref b1), .val (.ref b2), .unset, .unset] [(.int (own_fa (own_H p6) q1 q2 []))])) _
    refine XS.istore X5.here hx rfl (hb hby at_107) rfl (l' := #[.val (.long q1), .second, .val (.long q2), .second, .val (.int p3), .val (.int p4), .val (.int p5), .val (.int p6), .val (.int (own_H p6)), .val (.int (0 : Int32)), .val (.int (p3 &&& (127 : Int32))), .val (.int (p4 &&& (127 : Int32))), .val (.int (p5 &&& (127 : Int32))), .val (.ref b1), .val (.ref b2), .val (.int (own_fa (own_H p6) q1 q2 [])), .unset]) rfl ?_
    show Steps p.tables e below (T5.setTop (mkF m 109 #[.val (.long q1), .second, .val (.long q2), .second, .val (.int p3), .val (.int p4), .val (.int p5), .val (.int p6), .val (.int (own_H p6)), .val (.int (0 : Int32)), .val (.int (p3 &&& (127 : Int32))), .val (.int (p4 &&& (127 : Int32))), .val (.int (p5 &&& (127 : Int32))), .val (.ref b1), .val (.ref b2), .val (.int (own_fa (own_H p6) q1 q2 [])), .unset] [])) _
    refine XS.iconst X5.here hx rfl (hb hby at_109) ?_
    show Steps p.tables e below (T5.setTop (mkF m 110 #[.val (.long q1), .second, .val (.long q2), .second, .val (.int p3), .val (.int p4), .val (.int p5), .val (.int p6), .val (.int (own_H p6)), .val (.int (0 : Int32)), .val (.int (p3 &&& (127 : Int32))), .val (.int (p4 &&& (127 : Int32))), .val (.int (p5 &&& (127 : Int32))), .val (.ref b1), .val (.ref b2), .val (.int (own_fa (own_H p6) q1 q2 [])), .unset] [(.int (-1 : Int32))])) _
    refine XS.istore X5.here hx rfl (hb hby at_110) rfl (l' := #[.val (.long q1), .second, .val (.long q2), .second, .val (.int p3), .val (.int p4), .val (.int p5), .val (.int p6), .val (.int (own_H p6)), .val (.int (0 : Int32)), .val (.int (p3 &&& (127 : Int32))), .val (.int (p4 &&& (127 : Int32))), .val (.int (p5 &&& (127 : Int32))), .val (.ref b1), .val (.ref b2), .val (.int (own_fa (own_H p6) q1 q2 [])), .val (.int (-1 : Int32))]) rfl ?_
    show Steps p.tables e below (T5.setTop (mkF m 112 #[.val (.long q1), .second, .val (.long q2), .second, .val (.int p3), .val (.int p4), .val (.int p5), .val (.int p6), .val (.int (own_H p6)), .val (.int (0 : Int32)), .val (.int (p3 &&& (127 : Int32))), .val (.int (p4 &&& (127 : Int32))), .val (.int (p5 &&& (127 : Int32))), .val (.ref b1), .val (.ref b2), .val (.int (own_fa (own_H p6) q1 q2 [])), .val (.int (-1 : Int32))] [])) _
    refine XS.iload X5.here hx rfl (hb hby at_112) rfl ?_
    show Steps p.tables e below (T5.setTop (mkF m 114 #[.val (.long q1), .second, .val (.long q2), .second, .val (.int p3), .val (.int p4), .val (.int p5), .val (.int p6), .val (.int (own_H p6)), .val (.int (0 : Int32)), .val (.int (p3 &&& (127 : Int32))), .val (.int (p4 &&& (127 : Int32))), .val (.int (p5 &&& (127 : Int32))), .val (.ref b1), .val (.ref b2), .val (.int (own_fa (own_H p6) q1 q2 [])), .val (.int (-1 : Int32))] [(.int (0 : Int32))])) _
    refine XS.iconst X5.here hx rfl (hb hby at_114) ?_
    show Steps p.tables e below (T5.setTop (mkF m 115 #[.val (.long q1), .second, .val (.long q2), .second, .val (.int p3), .val (.int p4), .val (.int p5), .val (.int p6), .val (.int (own_H p6)), .val (.int (0 : Int32)), .val (.int (p3 &&& (127 : Int32))), .val (.int (p4 &&& (127 : Int32))), .val (.int (p5 &&& (127 : Int32))), .val (.ref b1), .val (.ref b2), .val (.int (own_fa (own_H p6) q1 q2 [])), .val (.int (-1 : Int32))] [(.int (3 : Int32)), (.int (0 : Int32))])) _
    refine XS.icmpYes X5.here hx rfl (pc0 := 115) (pc' := 134) rfl (hb hby at_115) rfl (tlt (by decide)).1 (by decide) (by decide) ?_
    show Steps p.tables e below (T5.setTop (mkF m 134 #[.val (.long q1), .second, .val (.long q2), .second, .val (.int p3), .val (.int p4), .val (.int p5), .val (.int p6), .val (.int (own_H p6)), .val (.int (0 : Int32)), .val (.int (p3 &&& (127 : Int32))), .val (.int (p4 &&& (127 : Int32))), .val (.int (p5 &&& (127 : Int32))), .val (.ref b1), .val (.ref b2), .val (.int (own_fa (own_H p6) q1 q2 [])), .val (.int (-1 : Int32))] [])) _
    refine XS.iload X5.here hx rfl (hb hby at_134) rfl ?_
    show Steps p.tables e below (T5.setTop (mkF m 136 #[.val (.long q1), .second, .val (.long q2), .second, .val (.int p3), .val (.int p4), .val (.int p5), .val (.int p6), .val (.int (own_H p6)), .val (.int (0 : Int32)), .val (.int (p3 &&& (127 : Int32))), .val (.int (p4 &&& (127 : Int32))), .val (.int (p5 &&& (127 : Int32))), .val (.ref b1), .val (.ref b2), .val (.int (own_fa (own_H p6) q1 q2 [])), .val (.int (-1 : Int32))] [(.int (0 : Int32))])) _
    refine XS.iconst X5.here hx rfl (hb hby at_136) ?_
    show Steps p.tables e below (T5.setTop (mkF m 137 #[.val (.long q1), .second, .val (.long q2), .second, .val (.int p3), .val (.int p4), .val (.int p5), .val (.int p6), .val (.int (own_H p6)), .val (.int (0 : Int32)), .val (.int (p3 &&& (127 : Int32))), .val (.int (p4 &&& (127 : Int32))), .val (.int (p5 &&& (127 : Int32))), .val (.ref b1), .val (.ref b2), .val (.int (own_fa (own_H p6) q1 q2 [])), .val (.int (-1 : Int32))] [(.int (2 : Int32)), (.int (0 : Int32))])) _
    refine XS.icmpYes X5.here hx rfl (pc0 := 137) (pc' := 156) rfl (hb hby at_137) rfl (tlt (by decide)).1 (by decide) (by decide) ?_
    show Steps p.tables e below (T5.setTop (mkF m 156 #[.val (.long q1), .second, .val (.long q2), .second, .val (.int p3), .val (.int p4), .val (.int p5), .val (.int p6), .val (.int (own_H p6)), .val (.int (0 : Int32)), .val (.int (p3 &&& (127 : Int32))), .val (.int (p4 &&& (127 : Int32))), .val (.int (p5 &&& (127 : Int32))), .val (.ref b1), .val (.ref b2), .val (.int (own_fa (own_H p6) q1 q2 [])), .val (.int (-1 : Int32))] [])) _
    refine XS.iload X5.here hx rfl (hb hby at_156) rfl ?_
    show Steps p.tables e below (T5.setTop (mkF m 158 #[.val (.long q1), .second, .val (.long q2), .second, .val (.int p3), .val (.int p4), .val (.int p5), .val (.int p6), .val (.int (own_H p6)), .val (.int (0 : Int32)), .val (.int (p3 &&& (127 : Int32))), .val (.int (p4 &&& (127 : Int32))), .val (.int (p5 &&& (127 : Int32))), .val (.ref b1), .val (.ref b2), .val (.int (own_fa (own_H p6) q1 q2 [])), .val (.int (-1 : Int32))] [(.int (0 : Int32))])) _
    refine XS.iconst X5.here hx rfl (hb hby at_158) ?_
    show Steps p.tables e below (T5.setTop (mkF m 159 #[.val (.long q1), .second, .val (.long q2), .second, .val (.int p3), .val (.int p4), .val (.int p5), .val (.int p6), .val (.int (own_H p6)), .val (.int (0 : Int32)), .val (.int (p3 &&& (127 : Int32))), .val (.int (p4 &&& (127 : Int32))), .val (.int (p5 &&& (127 : Int32))), .val (.ref b1), .val (.ref b2), .val (.int (own_fa (own_H p6) q1 q2 [])), .val (.int (-1 : Int32))] [(.int (1 : Int32)), (.int (0 : Int32))])) _
    refine XS.icmpYes X5.here hx rfl (pc0 := 159) (pc' := 178) rfl (hb hby at_159) rfl (tlt (by decide)).1 (by decide) (by decide) ?_
    show Steps p.tables e below (T5.setTop (mkF m 178 #[.val (.long q1), .second, .val (.long q2), .second, .val (.int p3), .val (.int p4), .val (.int p5), .val (.int p6), .val (.int (own_H p6)), .val (.int (0 : Int32)), .val (.int (p3 &&& (127 : Int32))), .val (.int (p4 &&& (127 : Int32))), .val (.int (p5 &&& (127 : Int32))), .val (.ref b1), .val (.ref b2), .val (.int (own_fa (own_H p6) q1 q2 [])), .val (.int (-1 : Int32))] [])) _
    refine XS.iload X5.here hx rfl (hb hby at_178) rfl ?_
    show Steps p.tables e below (T5.setTop (mkF m 180 #[.val (.long q1), .second, .val (.long q2), .second, .val (.int p3), .val (.int p4), .val (.int p5), .val (.int p6), .val (.int (own_H p6)), .val (.int (0 : Int32)), .val (.int (p3 &&& (127 : Int32))), .val (.int (p4 &&& (127 : Int32))), .val (.int (p5 &&& (127 : Int32))), .val (.ref b1), .val (.ref b2), .val (.int (own_fa (own_H p6) q1 q2 [])), .val (.int (-1 : Int32))] [(.int (own_fa (own_H p6) q1 q2 []))])) _
    refine XS.iload X5.here hx rfl (hb hby at_180) rfl ?_
    show Steps p.tables e below (T5.setTop (mkF m 182 #[.val (.long q1), .second, .val (.long q2), .second, .val (.int p3), .val (.int p4), .val (.int p5), .val (.int p6), .val (.int (own_H p6)), .val (.int (0 : Int32)), .val (.int (p3 &&& (127 : Int32))), .val (.int (p4 &&& (127 : Int32))), .val (.int (p5 &&& (127 : Int32))), .val (.ref b1), .val (.ref b2), .val (.int (own_fa (own_H p6) q1 q2 [])), .val (.int (-1 : Int32))] [(.int (-1 : Int32)), (.int (own_fa (own_H p6) q1 q2 []))])) _
    refine XS.icmpNo X5.here hx rfl (hb hby at_182) rfl (teq fin).2 ?_
    show Steps p.tables e below (T5.setTop (mkF m 185 #[.val (.long q1), .second, .val (.long q2), .second, .val (.int p3), .val (.int p4), .val (.int p5), .val (.int p6), .val (.int (own_H p6)), .val (.int (0 : Int32)), .val (.int (p3 &&& (127 : Int32))), .val (.int (p4 &&& (127 : Int32))), .val (.int (p5 &&& (127 : Int32))), .val (.ref b1), .val (.ref b2), .val (.int (own_fa (own_H p6) q1 q2 [])), .val (.int (-1 : Int32))] [])) _
    refine XS.aload X5.here hx rfl (hb hby at_185) rfl rfl ?_
    show Steps p.tables e below (T5.setTop (mkF m 187 #[.val (.long q1), .second, .val (.long q2), .second, .val (.int p3), .val (.int p4), .val (.int p5), .val (.int p6), .val (.int (own_H p6)), .val (.int (0 : Int32)), .val (.int (p3 &&& (127 : Int32))), .val (.int (p4 &&& (127 : Int32))), .val (.int (p5 &&& (127 : Int32))), .val (.ref b1), .val (.ref b2), .val (.int (own_fa (own_H p6) q1 q2 [])), .val (.int (-1 : Int32))] [(.ref b2)])) _
    refine XS.iconst X5.here hx rfl (hb hby at_187) ?_
    show Steps p.tables e below (T5.setTop (mkF m 188 #[.val (.long q1), .second, .val (.long q2), .second, .val (.int p3), .val (.int p4), .val (.int p5), .val (.int p6), .val (.int (own_H p6)), .val (.int (0 : Int32)), .val (.int (p3 &&& (127 : Int32))), .val (.int (p4 &&& (127 : Int32))), .val (.int (p5 &&& (127 : Int32))), .val (.ref b1), .val (.ref b2), .val (.int (own_fa (own_H p6) q1 q2 [])), .val (.int (-1 : Int32))] [(.int (0 : Int32)), (.ref b2)])) _
    refine X5.laload hx (j := (0 : Int32)) (v := (.long q1)) (by rw [e5]; exact A4.1) (State.isArrayOf_alike hZ.alike A4.2.1) A4.2.2 hJ0 rfl (g := (mkF m 188 #[.val (.long q1), .second, .val (.long q2), .second, .val (.int p3), .val (.int p4), .val (.int p5), .val (.int p6), .val (.int (own_H p6)), .val (.int (0 : Int32)), .val (.int (p3 &&& (127 : Int32))), .val (.int (p4 &&& (127 : Int32))), .val (.int (p5 &&& (127 : Int32))), .val (.ref b1), .val (.ref b2), .val (.int (own_fa (own_H p6) q1 q2 [])), .val (.int (-1 : Int32))] [(.int (0 : Int32)), (.ref b2)])) rfl rfl (hb hby at_188) _ ?_
    show Steps p.tables e below (T5.setTop (mkF m 189 #[.val (.long q1), .second, .val (.long q2), .second, .val (.int p3), .val (.int p4), .val (.int p5), .val (.int p6), .val (.int (own_H p6)), .val (.int (0 : Int32)), .val (.int (p3 &&& (127 : Int32))), .val (.int (p4 &&& (127 : Int32))), .val (.int (p5 &&& (127 : Int32))), .val (.ref b1), .val (.ref b2), .val (.int (own_fa (own_H p6) q1 q2 [])), .val (.int (-1 : Int32))] [(.long q1)])) _
    refine XS.lloadN X5.here hx rfl (hb hby at_189) rfl ?_
    show Steps p.tables e below (T5.setTop (mkF m 190 #[.val (.long q1), .second, .val (.long q2), .second, .val (.int p3), .val (.int p4), .val (.int p5), .val (.int p6), .val (.int (own_H p6)), .val (.int (0 : Int32)), .val (.int (p3 &&& (127 : Int32))), .val (.int (p4 &&& (127 : Int32))), .val (.int (p5 &&& (127 : Int32))), .val (.ref b1), .val (.ref b2), .val (.int (own_fa (own_H p6) q1 q2 [])), .val (.int (-1 : Int32))] [(.long q1), (.long q1)])) _
    refine XS.lcmp X5.here hx rfl (hb hby at_190) rfl ?_
    show Steps p.tables e below (T5.setTop (mkF m 191 #[.val (.long q1), .second, .val (.long q2), .second, .val (.int p3), .val (.int p4), .val (.int p5), .val (.int p6), .val (.int (own_H p6)), .val (.int (0 : Int32)), .val (.int (p3 &&& (127 : Int32))), .val (.int (p4 &&& (127 : Int32))), .val (.int (p5 &&& (127 : Int32))), .val (.ref b1), .val (.ref b2), .val (.int (own_fa (own_H p6) q1 q2 [])), .val (.int (-1 : Int32))] [(.int (lcmpW q1 q1))])) _
    refine XS.ifNo X5.here hx rfl (hb hby at_191) rfl ((if0 _ _).trans (teq ((lw_eq _ _).mpr rfl)).2) ?_
    show Steps p.tables e below (T5.setTop (mkF m 194 #[.val (.long q1), .second, .val (.long q2), .second, .val (.int p3), .val (.int p4), .val (.int p5), .val (.int p6), .val (.int (own_H p6)), .val (.int (0 : Int32)), .val (.int (p3 &&& (127 : Int32))), .val (.int (p4 &&& (127 : Int32))), .val (.int (p5 &&& (127 : Int32))), .val (.ref b1), .val (.ref b2), .val (.int (own_fa (own_H p6) q1 q2 [])), .val (.int (-1 : Int32))] [])) _
    refine XS.aload X5.here hx rfl (hb hby at_194) rfl rfl ?_
    show Steps p.tables e below (T5.setTop (mkF m 196 #[.val (.long q1), .second, .val (.long q2), .second, .val (.int p3), .val (.int p4), .val (.int p5), .val (.int p6), .val (.int (own_H p6)), .val (.int (0 : Int32)), .val (.int (p3 &&& (127 : Int32))), .val (.int (p4 &&& (127 : Int32))), .val (.int (p5 &&& (127 : Int32))), .val (.ref b1), .val (.ref b2), .val (.int (own_fa (own_H p6) q1 q2 [])), .val (.int (-1 : Int32))] [(.ref b2)])) _
    refine XS.iconst X5.here hx rfl (hb hby at_196) ?_
    show Steps p.tables e below (T5.setTop (mkF m 197 #[.val (.long q1), .second, .val (.long q2), .second, .val (.int p3), .val (.int p4), .val (.int p5), .val (.int p6), .val (.int (own_H p6)), .val (.int (0 : Int32)), .val (.int (p3 &&& (127 : Int32))), .val (.int (p4 &&& (127 : Int32))), .val (.int (p5 &&& (127 : Int32))), .val (.ref b1), .val (.ref b2), .val (.int (own_fa (own_H p6) q1 q2 [])), .val (.int (-1 : Int32))] [(.int (1 : Int32)), (.ref b2)])) _
    refine X5.laload hx (j := (1 : Int32)) (v := (.long q2)) (by rw [e5]; exact A4.1) (State.isArrayOf_alike hZ.alike A4.2.1) A4.2.2 hJ1 rfl (g := (mkF m 197 #[.val (.long q1), .second, .val (.long q2), .second, .val (.int p3), .val (.int p4), .val (.int p5), .val (.int p6), .val (.int (own_H p6)), .val (.int (0 : Int32)), .val (.int (p3 &&& (127 : Int32))), .val (.int (p4 &&& (127 : Int32))), .val (.int (p5 &&& (127 : Int32))), .val (.ref b1), .val (.ref b2), .val (.int (own_fa (own_H p6) q1 q2 [])), .val (.int (-1 : Int32))] [(.int (1 : Int32)), (.ref b2)])) rfl rfl (hb hby at_197) _ ?_
    show Steps p.tables e below (T5.setTop (mkF m 198 #[.val (.long q1), .second, .val (.long q2), .second, .val (.int p3), .val (.int p4), .val (.int p5), .val (.int p6), .val (.int (own_H p6)), .val (.int (0 : Int32)), .val (.int (p3 &&& (127 : Int32))), .val (.int (p4 &&& (127 : Int32))), .val (.int (p5 &&& (127 : Int32))), .val (.ref b1), .val (.ref b2), .val (.int (own_fa (own_H p6) q1 q2 [])), .val (.int (-1 : Int32))] [(.long q2)])) _
    refine XS.lloadN X5.here hx rfl (hb hby at_198) rfl ?_
    show Steps p.tables e below (T5.setTop (mkF m 199 #[.val (.long q1), .second, .val (.long q2), .second, .val (.int p3), .val (.int p4), .val (.int p5), .val (.int p6), .val (.int (own_H p6)), .val (.int (0 : Int32)), .val (.int (p3 &&& (127 : Int32))), .val (.int (p4 &&& (127 : Int32))), .val (.int (p5 &&& (127 : Int32))), .val (.ref b1), .val (.ref b2), .val (.int (own_fa (own_H p6) q1 q2 [])), .val (.int (-1 : Int32))] [(.long q2), (.long q2)])) _
    refine XS.lcmp X5.here hx rfl (hb hby at_199) rfl ?_
    show Steps p.tables e below (T5.setTop (mkF m 200 #[.val (.long q1), .second, .val (.long q2), .second, .val (.int p3), .val (.int p4), .val (.int p5), .val (.int p6), .val (.int (own_H p6)), .val (.int (0 : Int32)), .val (.int (p3 &&& (127 : Int32))), .val (.int (p4 &&& (127 : Int32))), .val (.int (p5 &&& (127 : Int32))), .val (.ref b1), .val (.ref b2), .val (.int (own_fa (own_H p6) q1 q2 [])), .val (.int (-1 : Int32))] [(.int (lcmpW q2 q2))])) _
    refine XS.ifNo X5.here hx rfl (hb hby at_200) rfl ((if0 _ _).trans (teq ((lw_eq _ _).mpr rfl)).2) ?_
    show Steps p.tables e below (T5.setTop (mkF m 203 #[.val (.long q1), .second, .val (.long q2), .second, .val (.int p3), .val (.int p4), .val (.int p5), .val (.int p6), .val (.int (own_H p6)), .val (.int (0 : Int32)), .val (.int (p3 &&& (127 : Int32))), .val (.int (p4 &&& (127 : Int32))), .val (.int (p5 &&& (127 : Int32))), .val (.ref b1), .val (.ref b2), .val (.int (own_fa (own_H p6) q1 q2 [])), .val (.int (-1 : Int32))] [])) _
    refine XS.iconst X5.here hx rfl (hb hby at_203) ?_
    show Steps p.tables e below (T5.setTop (mkF m 204 #[.val (.long q1), .second, .val (.long q2), .second, .val (.int p3), .val (.int p4), .val (.int p5), .val (.int p6), .val (.int (own_H p6)), .val (.int (0 : Int32)), .val (.int (p3 &&& (127 : Int32))), .val (.int (p4 &&& (127 : Int32))), .val (.int (p5 &&& (127 : Int32))), .val (.ref b1), .val (.ref b2), .val (.int (own_fa (own_H p6) q1 q2 [])), .val (.int (-1 : Int32))] [(.int (1 : Int32))])) _
    refine XS.goto X5.here hx rfl (pc0 := 204) (pc' := 208) rfl (hb hby at_204) (by decide) (by decide) ?_
    show Steps p.tables e below (T5.setTop (mkF m 208 #[.val (.long q1), .second, .val (.long q2), .second, .val (.int p3), .val (.int p4), .val (.int p5), .val (.int p6), .val (.int (own_H p6)), .val (.int (0 : Int32)), .val (.int (p3 &&& (127 : Int32))), .val (.int (p4 &&& (127 : Int32))), .val (.int (p5 &&& (127 : Int32))), .val (.ref b1), .val (.ref b2), .val (.int (own_fa (own_H p6) q1 q2 [])), .val (.int (-1 : Int32))] [(.int (1 : Int32))])) _
    exact retN X5 hx (t := .boolean) Bd.returns (by simp) (hb hby at_208) hr
  · show Q0 Z q1 q2 p3 p4 p5 p6 h0 n0 _ T5.heap _
    exact ⟨rfl, N5⟩
set_option maxRecDepth 65536 in
set_option maxHeartbeats 40000000 in
theorem rm0_1 (l : Launch) (Z : State) (a0 : Array Value) (hw : ∀ d ∈ tables_1, d.before a0 Z = true) (ws : List Jvm.Cond) (q1 : Int64) (q2 : Int64) (p3 : Int32) (p4 : Int32) (p5 : Int32) (p6 : Int32) (h0 : Heap) (n0 : Nat) (Z0 : n0 ≤ h0.size) (hn : own_ushr p6 1 &&& 3 = (1 : Int32)) :
    MetFree l x (head1 (Jvm.Cond.code x code maxLocals ret :: ws) room_1) (fun a U => a = #[(.long q1), (.long q2), (.int p3), (.int p4), (.int p5), (.int p6)] ∧ Z.Warmed39 U.vm ∧ U.heap = h0) (fun _ _ _ _ _ => True) (fun _ U o U' => ∃ v L, o = .returned v ∧ Q0 Z q1 q2 p3 p4 p5 p6 h0 n0 v U'.heap L ∧ FrameEnd U o U' L (room_1).cells (room_1).slots) := by
  refine MetFree.of_bodySF (plainFor_of_name pn_0) hisR ?_
  intro p e s m args below meth c s₁ Bd hml0 hP hK
  obtain ⟨rfl, hZ, hh⟩ := hP
  have hx := Bd.exec
  have hby := Bd.bytes
  have hml : c.maxLocals = 17 := hml0
  have hown : s.vm.findClass "com/example/ilmarinen/ilmarinen/search/GroundTaskFirstAtomPinLaw" = some m.cls := findClass_of_methodNamed Bd.named
  have hnm := (name_of_methodNamed Bd.named Bd.method).1
  have X0 : Stand p l e room_1 s m #[(.long q1), (.long q2), (.int p3), (.int p4), (.int p5), (.int p6)] below meth c s₁ [] 0 0 := Stand.of_body Bd
  have e0 : s₁.heap = h0 := by rw [← hh, Bd.state]; rfl
  have N0 := Fr.nil n0
  have pre0 : ∀ t, Steps p.tables e below (s₁.setTop (mkF m 0 #[.val (.long q1), .second, .val (.long q2), .second, .val (.int p3), .val (.int p4), .val (.int p5), .val (.int p6), .unset, .unset, .unset, .unset, .unset, .unset, .unset, .unset, .unset] [])) t → Steps p.tables e below (s₁.setTop (entryFrame m #[(.long q1), (.long q2), (.int p3), (.int p4), (.int p5), (.int p6)] maxLocals)) t := fun t k => castTop (ef_0 m q1 q2 p3 p4 p5 p6) k
  have jA : ∀ t, Steps p.tables e below (s₁.setTop (mkF m 12 #[.val (.long q1), .second, .val (.long q2), .second, .val (.int p3), .val (.int p4), .val (.int p5), .val (.int p6), .unset, .unset, .unset, .unset, .unset, .unset, .unset, .unset, .unset] [(.int (own_H p6))])) t → Steps p.tables e below (s₁.setTop (mkF m 0 #[.val (.long q1), .second, .val (.long q2), .second, .val (.int p3), .val (.int p4), .val (.int p5), .val (.int p6), .unset, .unset, .unset, .unset, .unset, .unset, .unset, .unset, .unset] [])) t := by
    intro t kt
    show Steps p.tables e below (s₁.setTop (mkF m 0 #[.val (.long q1), .second, .val (.long q2), .second, .val (.int p3), .val (.int p4), .val (.int p5), .val (.int p6), .unset, .unset, .unset, .unset, .unset, .unset, .unset, .unset, .unset] [])) _
    refine XS.iload X0.here hx rfl (hb hby at_0) rfl ?_
    show Steps p.tables e below (s₁.setTop (mkF m 2 #[.val (.long q1), .second, .val (.long q2), .second, .val (.int p3), .val (.int p4), .val (.int p5), .val (.int p6), .unset, .unset, .unset, .unset, .unset, .unset, .unset, .unset, .unset] [(.int p6)])) _
    refine XS.iconst X0.here hx rfl (hb hby at_2) ?_
    show Steps p.tables e below (s₁.setTop (mkF m 3 #[.val (.long q1), .second, .val (.long q2), .second, .val (.int p3), .val (.int p4), .val (.int p5), .val (.int p6), .unset, .unset, .unset, .unset, .unset, .unset, .unset, .unset, .unset] [(.int (1 : Int32)), (.int p6)])) _
    refine XS.iand X0.here hx rfl (hb hby at_3) rfl ?_
    show Steps p.tables e below (s₁.setTop (mkF m 4 #[.val (.long q1), .second, .val (.long q2), .second, .val (.int p3), .val (.int p4), .val (.int p5), .val (.int p6), .unset, .unset, .unset, .unset, .unset, .unset, .unset, .unset, .unset] [(.int (p6 &&& (1 : Int32)))])) _
    by_cases c4 : (p6 &&& (1 : Int32)) = (0 : Int32)
    · refine XS.ifYes X0.here hx rfl (pc0 := 4) (pc' := 11) rfl (hb hby at_4) rfl ((if0 _ _).trans (teq c4).1) (by decide) (by decide) ?_
      show Steps p.tables e below (s₁.setTop (mkF m 11 #[.val (.long q1), .second, .val (.long q2), .second, .val (.int p3), .val (.int p4), .val (.int p5), .val (.int p6), .unset, .unset, .unset, .unset, .unset, .unset, .unset, .unset, .unset] [])) _
      refine XS.iconst X0.here hx rfl (hb hby at_11) ?_
      show Steps p.tables e below (s₁.setTop (mkF m 12 #[.val (.long q1), .second, .val (.long q2), .second, .val (.int p3), .val (.int p4), .val (.int p5), .val (.int p6), .unset, .unset, .unset, .unset, .unset, .unset, .unset, .unset, .unset] [(.int (0 : Int32))])) _
      have em : (own_H p6) = (0 : Int32) := by first | rfl | (rw [own_H, if_pos c4]; done) | (simp only [own_H, c4, if_true, if_false]; done) | (simp [own_H, c4]; done) | contradiction | ((unfold own_H; repeat' split) <;> first | rfl | contradiction | (simp_all; done))
      rw [em] at kt
      exact kt
    · refine XS.ifNo X0.here hx rfl (hb hby at_4) rfl ((if0 _ _).trans (feq c4).1) ?_
      show Steps p.tables e below (s₁.setTop (mkF m 7 #[.val (.long q1), .second, .val (.long q2), .second, .val (.int p3), .val (.int p4), .val (.int p5), .val (.int p6), .unset, .unset, .unset, .unset, .unset, .unset, .unset, .unset, .unset] [])) _
      refine XS.iconst X0.here hx rfl (hb hby at_7) ?_
      show Steps p.tables e below (s₁.setTop (mkF m 8 #[.val (.long q1), .second, .val (.long q2), .second, .val (.int p3), .val (.int p4), .val (.int p5), .val (.int p6), .unset, .unset, .unset, .unset, .unset, .unset, .unset, .unset, .unset] [(.int (1 : Int32))])) _
      refine XS.goto X0.here hx rfl (pc0 := 8) (pc' := 12) rfl (hb hby at_8) (by decide) (by decide) ?_
      show Steps p.tables e below (s₁.setTop (mkF m 12 #[.val (.long q1), .second, .val (.long q2), .second, .val (.int p3), .val (.int p4), .val (.int p5), .val (.int p6), .unset, .unset, .unset, .unset, .unset, .unset, .unset, .unset, .unset] [(.int (1 : Int32))])) _
      have em : (own_H p6) = (1 : Int32) := by first | rfl | (rw [own_H, if_neg c4]; done) | (simp only [own_H, c4, if_true, if_false]; done) | (simp [own_H, c4]; done) | contradiction | ((unfold own_H; repeat' split) <;> first | rfl | contradiction | (simp_all; done))
      rw [em] at kt
      exact kt
  have hneg : ¬ ((1 : Int32) < 0) := by decide
  obtain ⟨T1, h1, k1, X1, e1, E1, A1, st1⟩ := newP X0 hx hZ (hw _ (List.mem_of_getElem? (i := 0) rfl)) e0 (g := (mkF m 45 #[.val (.long q1), .second, .val (.long q2), .second, .val (.int p3), .val (.int p4), .val (.int p5), .val (.int p6), .val (.int (own_H p6)), .val (.int (1 : Int32)), .val (.int (p3 &&& (127 : Int32))), .val (.int (p4 &&& (127 : Int32))), .val (.int (p5 &&& (127 : Int32))), .unset, .unset, .unset, .unset] [(.int (1 : Int32))])) rfl (hb hby at_45) rfl hneg (cap := 1) (by decide) (by decide) (by decide) (by decide)
  obtain ⟨b1, g1⟩ : ∃ z, z = h0.size := ⟨_, rfl⟩
  rw [← g1] at A1 st1
  have gb1 : n0 ≤ b1 := Nat.le_trans Z0 (Nat.le_of_eq g1.symm)
  have hin2 : ¬ ((0 : Int32) < 0 ∨ (newA k1 .int (1 : Int32)).slots.size ≤ ((0 : Int32)).toNatClampNeg) := own_in (n := 1) (k := 0) (by decide) rfl rfl (by decide)
  obtain ⟨T2, h2, X2, e2, W2, st2⟩ := stI X1 hx hZ e1 A1 (j := (0 : Int32)) hin2 (g := (mkF m 60 #[.val (.long q1), .second, .val (.long q2), .second, .val (.int p3), .val (.int p4), .val (.int p5), .val (.int p6), .val (.int (own_H p6)), .val (.int (1 : Int32)), .val (.int (p3 &&& (127 : Int32))), .val (.int (p4 &&& (127 : Int32))), .val (.int (p5 &&& (127 : Int32))), .val (.ref b1), .unset, .unset, .unset] [(.int (p3 &&& (127 : Int32))), (.int (0 : Int32)), (.ref b1)])) rfl rfl (hb hby at_60)
  have N2 := Fr.snoc X2 N0 gb1
  have A2 := Arr.same W2 A1
  obtain ⟨T3, h3, k3, X3, e3, E3, A3, st3⟩ := newP X2 hx hZ (hw _ (List.mem_of_getElem? (i := 1) rfl)) e2 (g := (mkF m 86 #[.val (.long q1), .second, .val (.long q2), .second, .val (.int p3), .val (.int p4), .val (.int p5), .val (.int p6), .val (.int (own_H p6)), .val (.int (1 : Int32)), .val (.int (p3 &&& (127 : Int32))), .val (.int (p4 &&& (127 : Int32))), .val (.int (p5 &&& (127 : Int32))), .val (.ref b1), .unset, .unset, .unset] [(.int (2 : Int32))])) rfl (hb hby at_86) rfl (by decide) (cap := 2) (by decide) (by decide) (by decide) (by decide)
  obtain ⟨b3, g3⟩ : ∃ z, z = h2.size := ⟨_, rfl⟩
  rw [← g3] at A3 st3
  have Zs1 : n0 ≤ h1.size := Nat.le_trans Z0 E1.1
  have Zs2 : n0 ≤ h2.size := Nat.le_trans Zs1 (Keep.of_wr W2).1
  have gb3 : n0 ≤ b3 := Nat.le_trans Zs2 (Nat.le_of_eq g3.symm)
  have ne : b1 ≠ b3 := Nat.ne_of_lt (Nat.lt_of_lt_of_le A2.lt (Nat.le_of_eq g3.symm))
  have Zs3 : n0 ≤ h3.size := Nat.le_trans Zs2 E3.1
  have AI3 := A2.ext E3
  have hin4 : ¬ ((0 : Int32) < 0 ∨ (newA k3 .long (2 : Int32)).slots.size ≤ ((0 : Int32)).toNatClampNeg) := own_in (n := 2) (k := 0) (by decide) rfl rfl (by decide)
  obtain ⟨T4, h4, X4, e4, W4, st4⟩ := stJ X3 hx hZ e3 A3 (j := (0 : Int32)) hin4 (g := (mkF m 91 #[.val (.long q1), .second, .val (.long q2), .second, .val (.int p3), .val (.int p4), .val (.int p5), .val (.int p6), .val (.int (own_H p6)), .val (.int (1 : Int32)), .val (.int (p3 &&& (127 : Int32))), .val (.int (p4 &&& (127 : Int32))), .val (.int (p5 &&& (127 : Int32))), .val (.ref b1), .unset, .unset, .unset] [(.long q1), (.int (0 : Int32)), (.ref b3), (.ref b3)])) rfl rfl (hb hby at_91)
  have N4 := Fr.snoc X4 N2 gb3
  have A4 := Arr.same W4 A3
  have AI4 := AI3.other W4 ne
  have Zs4 : n0 ≤ h4.size := Nat.le_trans Zs3 (Keep.of_wr W4).1
  have hin5 : ¬ ((1 : Int32) < 0 ∨ ((newA k3 .long (2 : Int32)).setSlot ((0 : Int32)).toNatClampNeg (.long q1)).slots.size ≤ ((1 : Int32)).toNatClampNeg) := own_in (n := 2) (k := 1) (by decide) rfl rfl (by decide)
  obtain ⟨T5, h5, X5, e5, W5, st5⟩ := stJ X4 hx hZ e4 A4 (j := (1 : Int32)) hin5 (g := (mkF m 95 #[.val (.long q1), .second, .val (.long q2), .second, .val (.int p3), .val (.int p4), .val (.int p5), .val (.int p6), .val (.int (own_H p6)), .val (.int (1 : Int32)), .val (.int (p3 &&& (127 : Int32))), .val (.int (p4 &&& (127 : Int32))), .val (.int (p5 &&& (127 : Int32))), .val (.ref b1), .unset, .unset, .unset] [(.long q2), (.int (1 : Int32)), (.ref b3), (.ref b3)])) rfl rfl (hb hby at_95)
  have N5 := Fr.snoc X5 N4 gb3
  have A5 := Arr.same W5 A4
  have AI5 := AI4.other W5 ne
  have Zs5 : n0 ≤ h5.size := Nat.le_trans Zs4 (Keep.of_wr W5).1
  have hxs : ∀ x ∈ ([(p3 &&& (127 : Int32))] : List Int32), ∃ a, a < 128 ∧ x = Int32.ofNat a := by
    intro x hx'
    simp only [List.mem_cons, List.not_mem_nil, or_false] at hx'
    rcases hx' with rfl <;> exact own_127 _
  have HI : ∀ (j : Nat) (x : Int32), ([(p3 &&& (127 : Int32))] : List Int32)[j]? = some x → ((newA k1 .int (1 : Int32)).setSlot ((0 : Int32)).toNatClampNeg (.int (p3 &&& (127 : Int32)))).slots[j]? = some (.int x) := by
    intro j x q
    match j, q with
    | 0, q => cases q; rfl
    | j + 1, q => simp at q
  obtain ⟨_, _, ⟨T6, L6, k6, n6⟩, -, X6, ⟨Lc6, hQ6, l6, y6, z6⟩, st6⟩ := Jvm.LawKit.callS X5 hx (y := (⟨"com/example/ilmarinen/ilmarinen/search/GroundTask", "firstAtom", "([I[JZ)I"⟩ : MethodName)) hown (mvT hZ (hw _ (List.mem_of_getElem? (i := 2) rfl))) (mvT hZ (hw _ (List.mem_of_getElem? (i := 3) rfl))) (mvT hZ (hw _ (List.mem_of_getElem? (i := 4) rfl))) (mvT hZ (hw _ (List.mem_of_getElem? (i := 5) rfl))) (by decide) (backOf (W := 0) (rm1 l Z a0 hw [] b1 b3 (own_H p6) q1 q2 [(p3 &&& (127 : Int32))] ((newA k1 .int (1 : Int32)).setSlot ((0 : Int32)).toNatClampNeg (.int (p3 &&& (127 : Int32)))) (((newA k3 .long (2 : Int32)).setSlot ((0 : Int32)).toNatClampNeg (.long q1)).setSlot ((1 : Int32)).toNatClampNeg (.long q2)) h5 n0 Zs5 (by show 1 < 4; decide) AI5 rfl HI hxs A5 rfl rfl rfl) hZ (hw _ (List.mem_of_getElem? (i := 5) rfl)) (hw _ (List.mem_of_getElem? (i := 4) rfl)) (by decide) (by decide)) (g := (mkF m 104 #[.val (.long q1), .second, .val (.long q2), .second, .val (.int p3), .val (.int p4), .val (.int p5), .val (.int p6), .val (.int (own_H p6)), .val (.int (1 : Int32)), .val (.int (p3 &&& (127 : Int32))), .val (.int (p4 &&& (127 : Int32))), .val (.int (p5 &&& (127 : Int32))), .val (.ref b1), .val (.ref b3), .unset, .unset] [(.int (own_H p6)), (.ref b3), (.ref b1)])) rfl (by rw [hml]; rfl) (argsL := [(.ref b1), (.ref b3), (.int (own_H p6))]) (rest := []) (lenOf pd_fa rfl) rfl (by show 2 * 0 + _ ≤ _; exact Nat.le_of_eq rfl) (hb hby at_104) (fun _ _ => ⟨rfl, e5, (by decide : 2 + 0 ≤ _), (by decide : 3 + 0 ≤ _)⟩)
  dsimp only [Pt.U, Pt.locs, Pt.cells, Pt.slots] at X6 l6 y6 z6 st6 hQ6
  subst l6 y6 z6
  obtain ⟨rfl, N6q, e6⟩ := hQ6
  have N6 := Fr.app N5 N6q
  obtain ⟨_, _, ⟨T7, L7, k7, n7⟩, -, X7, ⟨Lc7, hQ7, l7, y7, z7⟩, st7⟩ := Jvm.LawKit.callS X6 hx (y := (⟨"com/example/ilmarinen/ilmarinen/search/GroundTaskFirstAtomPinLaw", "holds", "(JJI)Z"⟩ : MethodName)) hown (mvT hZ (hw _ (List.mem_of_getElem? (i := 6) rfl))) (mvT hZ (hw _ (List.mem_of_getElem? (i := 7) rfl))) (mvT hZ (hw _ (List.mem_of_getElem? (i := 8) rfl))) (mvT hZ (hw _ (List.mem_of_getElem? (i := 9) rfl))) (by decide) (backOf (W := 0) (rm2 l Z a0 hw [] q1 q2 (p3 &&& (127 : Int32)) h5 n0 Zs5) hZ (hw _ (List.mem_of_getElem? (i := 9) rfl)) (hw _ (List.mem_of_getElem? (i := 8) rfl)) (by decide) (by decide)) (g := (mkF m 166 #[.val (.long q1), .second, .val (.long q2), .second, .val (.int p3), .val (.int p4), .val (.int p5), .val (.int p6), .val (.int (own_H p6)), .val (.int (1 : Int32)), .val (.int (p3 &&& (127 : Int32))), .val (.int (p4 &&& (127 : Int32))), .val (.int (p5 &&& (127 : Int32))), .val (.ref b1), .val (.ref b3), .val (.int (own_fa (own_H p6) q1 q2 [(p3 &&& (127 : Int32))])), .val (.int (-1 : Int32))] [(.int (p3 &&& (127 : Int32))), (.long q2), (.long q1)])) rfl (by rw [hml]; rfl) (argsL := [(.long q1), (.long q2), (.int (p3 &&& (127 : Int32)))]) (rest := []) (lenOf pd_ho rfl) rfl (by show 2 * 0 + _ ≤ _; exact Nat.le_of_eq rfl) (hb hby at_166) (fun _ _ => ⟨rfl, e6, (by decide : 2 + 0 ≤ _), (by decide : 3 + 0 ≤ _)⟩)
  dsimp only [Pt.U, Pt.locs, Pt.cells, Pt.slots] at X7 l7 y7 z7 st7 hQ7
  subst l7 y7 z7
  obtain ⟨rfl, N7q, e7⟩ := hQ7
  have N7 := Fr.app N6 N7q
  have j0 : ∀ t, Steps p.tables e below (T7.setTop (mkF m 178 #[.val (.long q1), .second, .val (.long q2), .second, .val (.int p3), .val (.int p4), .val (.int p5), .val (.int p6), .val (.int (own_H p6)), .val (.int (1 : Int32)), .val (.int (p3 &&& (127 : Int32))), .val (.int (p4 &&& (127 : Int32))), .val (.int (p5 &&& (127 : Int32))), .val (.ref b1), .val (.ref b3), .val (.int (own_fa (own_H p6) q1 q2 [(p3 &&& (127 : Int32))])), .val (.int (own_ix (own_H p6) q1 q2 (p3 &&& (127 : Int32)) (-1 : Int32)))] [])) t → Steps p.tables e below (T7.setTop (mkF m 169 #[.val (.long q1), .second, .val (.long q2), .second, .val (.int p3), .val (.int p4), .val (.int p5), .val (.int p6), .val (.int (own_H p6)), .val (.int (1 : Int32)), .val (.int (p3 &&& (127 : Int32))), .val (.int (p4 &&& (127 : Int32))), .val (.int (p5 &&& (127 : Int32))), .val (.ref b1), .val (.ref b3), .val (.int (own_fa (own_H p6) q1 q2 [(p3 &&& (127 : Int32))])), .val (.int (-1 : Int32))] [(.int (own_hold q1 q2 (p3 &&& (127 : Int32))))])) t := by
    intro t kt
    show Steps p.tables e below (T7.setTop (mkF m 169 #[.val (.long q1), .second, .val (.long q2), .second, .val (.int p3), .val (.int p4), .val (.int p5), .val (.int p6), .val (.int (own_H p6)), .val (.int (1 : Int32)), .val (.int (p3 &&& (127 : Int32))), .val (.int (p4 &&& (127 : Int32))), .val (.int (p5 &&& (127 : Int32))), .val (.ref b1), .val (.ref b3), .val (.int (own_fa (own_H p6) q1 q2 [(p3 &&& (127 : Int32))])), .val (.int (-1 : Int32))] [(.int (own_hold q1 q2 (p3 &&& (127 : Int32))))])) _
    refine XS.iload X7.here hx rfl (hb hby at_169) rfl ?_
    show Steps p.tables e below (T7.setTop (mkF m 171 #[.val (.long q1), .second, .val (.long q2), .second, .val (.int p3), .val (.int p4), .val (.int p5), .val (.int p6), .val (.int (own_H p6)), .val (.int (1 : Int32)), .val (.int (p3 &&& (127 : Int32))), .val (.int (p4 &&& (127 : Int32))), .val (.int (p5 &&& (127 : Int32))), .val (.ref b1), .val (.ref b3), .val (.int (own_fa (own_H p6) q1 q2 [(p3 &&& (127 : Int32))])), .val (.int (-1 : Int32))] [(.int (own_H p6)), (.int (own_hold q1 q2 (p3 &&& (127 : Int32))))])) _
    by_cases ck : own_hold q1 q2 (p3 &&& (127 : Int32)) = (own_H p6)
    · refine XS.icmpNo X7.here hx rfl (hb hby at_171) rfl (teq ck).2 ?_
      show Steps p.tables e below (T7.setTop (mkF m 174 #[.val (.long q1), .second, .val (.long q2), .second, .val (.int p3), .val (.int p4), .val (.int p5), .val (.int p6), .val (.int (own_H p6)), .val (.int (1 : Int32)), .val (.int (p3 &&& (127 : Int32))), .val (.int (p4 &&& (127 : Int32))), .val (.int (p5 &&& (127 : Int32))), .val (.ref b1), .val (.ref b3), .val (.int (own_fa (own_H p6) q1 q2 [(p3 &&& (127 : Int32))])), .val (.int (-1 : Int32))] [])) _
      refine XS.iload X7.here hx rfl (hb hby at_174) rfl ?_
      show Steps p.tables e below (T7.setTop (mkF m 176 #[.val (.long q1), .second, .val (.long q2), .second, .val (.int p3), .val (.int p4), .val (.int p5), .val (.int p6), .val (.int (own_H p6)), .val (.int (1 : Int32)), .val (.int (p3 &&& (127 : Int32))), .val (.int (p4 &&& (127 : Int32))), .val (.int (p5 &&& (127 : Int32))), .val (.ref b1), .val (.ref b3), .val (.int (own_fa (own_H p6) q1 q2 [(p3 &&& (127 : Int32))])), .val (.int (-1 : Int32))] [(.int (p3 &&& (127 : Int32)))])) _
      refine XS.istore X7.here hx rfl (hb hby at_176) rfl (l' := #[.val (.long q1), .second, .val (.long q2), .second, .val (.int p3), .val (.int p4), .val (.int p5), .val (.int p6), .val (.int (own_H p6)), .val (.int (1 : Int32)), .val (.int (p3 &&& (127 : Int32))), .val (.int (p4 &&& (127 : Int32))), .val (.int (p5 &&& (127 : Int32))), .val (.ref b1), .val (.ref b3), .val (.int (own_fa (own_H p6) q1 q2 [(p3 &&& (127 : Int32))])), .val (.int (p3 &&& (127 : Int32)))]) rfl ?_
      show Steps p.tables e below (T7.setTop (mkF m 178 #[.val (.long q1), .second, .val (.long q2), .second, .val (.int p3), .val (.int p4), .val (.int p5), .val (.int p6), .val (.int (own_H p6)), .val (.int (1 : Int32)), .val (.int (p3 &&& (127 : Int32))), .val (.int (p4 &&& (127 : Int32))), .val (.int (p5 &&& (127 : Int32))), .val (.ref b1), .val (.ref b3), .val (.int (own_fa (own_H p6) q1 q2 [(p3 &&& (127 : Int32))])), .val (.int (p3 &&& (127 : Int32)))] [])) _
      have em : (own_ix (own_H p6) q1 q2 (p3 &&& (127 : Int32)) (-1 : Int32)) = (p3 &&& (127 : Int32)) := by rw [own_ix, if_pos ck]
      rw [em] at kt
      exact kt
    · refine XS.icmpYes X7.here hx rfl (pc0 := 171) (pc' := 178) rfl (hb hby at_171) rfl (feq ck).2 (by decide) (by decide) ?_
      show Steps p.tables e below (T7.setTop (mkF m 178 #[.val (.long q1), .second, .val (.long q2), .second, .val (.int p3), .val (.int p4), .val (.int p5), .val (.int p6), .val (.int (own_H p6)), .val (.int (1 : Int32)), .val (.int (p3 &&& (127 : Int32))), .val (.int (p4 &&& (127 : Int32))), .val (.int (p5 &&& (127 : Int32))), .val (.ref b1), .val (.ref b3), .val (.int (own_fa (own_H p6) q1 q2 [(p3 &&& (127 : Int32))])), .val (.int (-1 : Int32))] [])) _
      have em : (own_ix (own_H p6) q1 q2 (p3 &&& (127 : Int32)) (-1 : Int32)) = (-1 : Int32) := by rw [own_ix, if_neg ck]
      rw [em] at kt
      exact kt
  have fin : (own_fa (own_H p6) q1 q2 [(p3 &&& (127 : Int32))]) = (own_ix (own_H p6) q1 q2 (p3 &&& (127 : Int32)) (-1 : Int32)) := own_fin _ _ _ _ hxs
  have hJ0 : ¬ ((0 : Int32) < 0 ∨ (((newA k3 .long (2 : Int32)).setSlot ((0 : Int32)).toNatClampNeg (.long q1)).setSlot ((1 : Int32)).toNatClampNeg (.long q2)).slots.size ≤ (0 : Int32).toNatClampNeg) := own_in (n := 2) (k := 0) (by decide) rfl rfl (by decide)
  have hJ1 : ¬ ((1 : Int32) < 0 ∨ (((newA k3 .long (2 : Int32)).setSlot ((0 : Int32)).toNatClampNeg (.long q1)).setSlot ((1 : Int32)).toNatClampNeg (.long q2)).slots.size ≤ (1 : Int32).toNatClampNeg) := own_in (n := 2) (k := 1) (by decide) rfl rfl (by decide)
  obtain ⟨fs, hr, hrun, hended, hW, hsame⟩ := X7.leave (v := some (.int (1 : Int32))) (fun h => by rw [Bd.returns] at h; cases h)
  refine ⟨_, _, pre0 _ ?_, hrun, hended, _, _, rfl, ?_, ⟨_, rfl⟩, hW, hsame.mono (by decide) (by decide)⟩
  · show Steps p.tables e below (s₁.setTop (mkF m 0 #[.val (.long q1), .second, .val (.long q2), .second, .val (.int p3), .val (.int p4), .val (.int p5), .val (.int p6), .unset, .unset, .unset, .unset, .unset, .unset, .unset, .unset, .unset] [])) _
    refine jA _ ?_
    show Steps p.tables e below (s₁.setTop (mkF m 12 #[.val (.long q1), .second, .val (.long q2), .second, .val (.int p3), .val (.int p4), .val (.int p5), .val (.int p6), .unset, .unset, .unset, .unset, .unset, .unset, .unset, .unset, .unset] [(.int (own_H p6))])) _
    refine XS.istore X0.here hx rfl (hb hby at_12) rfl (l' := #[.val (.long q1), .second, .val (.long q2), .second, .val (.int p3), .val (.int p4), .val (.int p5), .val (.int p6), .val (.int (own_H p6)), .unset, .unset, .unset, .unset, .unset, .unset, .unset, .unset]) rfl ?_
    show Steps p.tables e below (s₁.setTop (mkF m 14 #[.val (.long q1), .second, .val (.long q2), .second, .val (.int p3), .val (.int p4), .val (.int p5), .val (.int p6), .val (.int (own_H p6)), .unset, .unset, .unset, .unset, .unset, .unset, .unset, .unset] [])) _
    refine XS.iload X0.here hx rfl (hb hby at_14) rfl ?_
    show Steps p.tables e below (s₁.setTop (mkF m 16 #[.val (.long q1), .second, .val (.long q2), .second, .val (.int p3), .val (.int p4), .val (.int p5), .val (.int p6), .val (.int (own_H p6)), .unset, .unset, .unset, .unset, .unset, .unset, .unset, .unset] [(.int p6)])) _
    refine XS.iconst X0.here hx rfl (hb hby at_16) ?_
    show Steps p.tables e below (s₁.setTop (mkF m 17 #[.val (.long q1), .second, .val (.long q2), .second, .val (.int p3), .val (.int p4), .val (.int p5), .val (.int p6), .val (.int (own_H p6)), .unset, .unset, .unset, .unset, .unset, .unset, .unset, .unset] [(.int (1 : Int32)), (.int p6)])) _
    refine XS.iushr X0.here hx rfl (hb hby at_17) rfl ?_
    show Steps p.tables e below (s₁.setTop (mkF m 18 #[.val (.long q1), .second, .val (.long q2), .second, .val (.int p3), .val (.int p4), .val (.int p5), .val (.int p6), .val (.int (own_H p6)), .unset, .unset, .unset, .unset, .unset, .unset, .unset, .unset] [(.int (own_ushr p6 (1 : Int32)))])) _
    refine XS.iconst X0.here hx rfl (hb hby at_18) ?_
    show Steps p.tables e below (s₁.setTop (mkF m 19 #[.val (.long q1), .second, .val (.long q2), .second, .val (.int p3), .val (.int p4), .val (.int p5), .val (.int p6), .val (.int (own_H p6)), .unset, .unset, .unset, .unset, .unset, .unset, .unset, .unset] [(.int (3 : Int32)), (.int (own_ushr p6 (1 : Int32)))])) _
    refine XS.iand X0.here hx rfl (hb hby at_19) rfl ?_
    show Steps p.tables e below (s₁.setTop (mkF m 20 #[.val (.long q1), .second, .val (.long q2), .second, .val (.int p3), .val (.int p4), .val (.int p5), .val (.int p6), .val (.int (own_H p6)), .unset, .unset, .unset, .unset, .unset, .unset, .unset, .unset] [(.int ((own_ushr p6 (1 : Int32)) &&& (3 : Int32)))])) _
    rw [hn]
    show Steps p.tables e below (s₁.setTop (mkF m 20 #[.val (.long q1), .second, .val (.long q2), .second, .val (.int p3), .val (.int p4), .val (.int p5), .val (.int p6), .val (.int (own_H p6)), .unset, .unset, .unset, .unset, .unset, .unset, .unset, .unset] [(.int (1 : Int32))])) _
    refine XS.istore X0.here hx rfl (hb hby at_20) rfl (l' := #[.val (.long q1), .second, .val (.long q2), .second, .val (.int p3), .val (.int p4), .val (.int p5), .val (.int p6), .val (.int (own_H p6)), .val (.int (1 : Int32)), .unset, .unset, .unset, .unset, .unset, .unset, .unset]) rfl ?_
    show Steps p.tables e below (s₁.setTop (mkF m 22 #[.val (.long q1), .second, .val (.long q2), .second, .val (.int p3), .val (.int p4), .val (.int p5), .val (.int p6), .val (.int (own_H p6)), .val (.int (1 : Int32)), .unset, .unset, .unset, .unset, .unset, .unset, .unset] [])) _
    refine XS.iload X0.here hx rfl (hb hby at_22) rfl ?_
    show Steps p.tables e below (s₁.setTop (mkF m 24 #[.val (.long q1), .second, .val (.long q2), .second, .val (.int p3), .val (.int p4), .val (.int p5), .val (.int p6), .val (.int (own_H p6)), .val (.int (1 : Int32)), .unset, .unset, .unset, .unset, .unset, .unset, .unset] [(.int p3)])) _
    refine XS.bipush X0.here hx rfl (hb hby at_24) ?_
    show Steps p.tables e below (s₁.setTop (mkF m 26 #[.val (.long q1), .second, .val (.long q2), .second, .val (.int p3), .val (.int p4), .val (.int p5), .val (.int p6), .val (.int (own_H p6)), .val (.int (1 : Int32)), .unset, .unset, .unset, .unset, .unset, .unset, .unset] [(.int (127 : Int32)), (.int p3)])) _
    refine XS.iand X0.here hx rfl (hb hby at_26) rfl ?_
    show Steps p.tables e below (s₁.setTop (mkF m 27 #[.val (.long q1), .second, .val (.long q2), .second, .val (.int p3), .val (.int p4), .val (.int p5), .val (.int p6), .val (.int (own_H p6)), .val (.int (1 : Int32)), .unset, .unset, .unset, .unset, .unset, .unset, .unset] [(.int (p3 &&& (127 : Int32)))])) _
    refine XS.istore X0.here hx rfl (hb hby at_27) rfl (l' := #[.val (.long q1), .second, .val (.long q2), .second, .val (.int p3), .val (.int p4), .val (.int p5), .val (.int p6), .val (.int (own_H p6)), .val (.int (1 : Int32)), .val (.int (p3 &&& (127 : Int32))), .unset, .unset, .unset, .unset, .unset, .unset]) rfl ?_
    show Steps p.tables e below (s₁.setTop (mkF m 29 #[.val (.long q1), .second, .val (.long q2), .second, .val (.int p3), .val (.int p4), .val (.int p5), .val (.int p6), .val (.int (own_H p6)), .val (.int (1 : Int32)), .val (.int (p3 &&& (127 : Int32))), .unset, .unset, .unset, .unset, .unset, .unset] [])) _
    refine XS.iload X0.here hx rfl (hb hby at_29) rfl ?_
    show Steps p.tables e below (s₁.setTop (mkF m 31 #[.val (.long q1), .second, .val (.long q2), .second, .val (.int p3), .val (.int p4), .val (.int p5), .val (.int p6), .val (.int (own_H p6)), .val (.int (1 : Int32)), .val (.int (p3 &&& (127 : Int32))), .unset, .unset, .unset, .unset, .unset, .unset] [(.int p4)])) _
    refine XS.bipush X0.here hx rfl (hb hby at_31) ?_
    show Steps p.tables e below (s₁.setTop (mkF m 33 #[.val (.long q1), .second, .val (.long q2), .second, .val (.int p3), .val (.int p4), .val (.int p5), .val (.int p6), .val (.int (own_H p6)), .val (.int (1 : Int32)), .val (.int (p3 &&& (127 : Int32))), .unset, .unset, .unset, .unset, .unset, .unset] [(.int (127 : Int32)), (.int p4)])) _
    refine XS.iand X0.here hx rfl (hb hby at_33) rfl ?_
    show Steps p.tables e below (s₁.setTop (mkF m 34 #[.val (.long q1), .second, .val (.long q2), .second, .val (.int p3), .val (.int p4), .val (.int p5), .val (.int p6), .val (.int (own_H p6)), .val (.int (1 : Int32)), .val (.int (p3 &&& (127 : Int32))), .unset, .unset, .unset, .unset, .unset, .unset] [(.int (p4 &&& (127 : Int32)))])) _
    refine XS.istore X0.here hx rfl (hb hby at_34) rfl (l' := #[.val (.long q1), .second, .val (.long q2), .second, .val (.int p3), .val (.int p4), .val (.int p5), .val (.int p6), .val (.int (own_H p6)), .val (.int (1 : Int32)), .val (.int (p3 &&& (127 : Int32))), .val (.int (p4 &&& (127 : Int32))), .unset, .unset, .unset, .unset, .unset]) rfl ?_
    show Steps p.tables e below (s₁.setTop (mkF m 36 #[.val (.long q1), .second, .val (.long q2), .second, .val (.int p3), .val (.int p4), .val (.int p5), .val (.int p6), .val (.int (own_H p6)), .val (.int (1 : Int32)), .val (.int (p3 &&& (127 : Int32))), .val (.int (p4 &&& (127 : Int32))), .unset, .unset, .unset, .unset, .unset] [])) _
    refine XS.iload X0.here hx rfl (hb hby at_36) rfl ?_
    show Steps p.tables e below (s₁.setTop (mkF m 38 #[.val (.long q1), .second, .val (.long q2), .second, .val (.int p3), .val (.int p4), .val (.int p5), .val (.int p6), .val (.int (own_H p6)), .val (.int (1 : Int32)), .val (.int (p3 &&& (127 : Int32))), .val (.int (p4 &&& (127 : Int32))), .unset, .unset, .unset, .unset, .unset] [(.int p5)])) _
    refine XS.bipush X0.here hx rfl (hb hby at_38) ?_
    show Steps p.tables e below (s₁.setTop (mkF m 40 #[.val (.long q1), .second, .val (.long q2), .second, .val (.int p3), .val (.int p4), .val (.int p5), .val (.int p6), .val (.int (own_H p6)), .val (.int (1 : Int32)), .val (.int (p3 &&& (127 : Int32))), .val (.int (p4 &&& (127 : Int32))), .unset, .unset, .unset, .unset, .unset] [(.int (127 : Int32)), (.int p5)])) _
    refine XS.iand X0.here hx rfl (hb hby at_40) rfl ?_
    show Steps p.tables e below (s₁.setTop (mkF m 41 #[.val (.long q1), .second, .val (.long q2), .second, .val (.int p3), .val (.int p4), .val (.int p5), .val (.int p6), .val (.int (own_H p6)), .val (.int (1 : Int32)), .val (.int (p3 &&& (127 : Int32))), .val (.int (p4 &&& (127 : Int32))), .unset, .unset, .unset, .unset, .unset] [(.int (p5 &&& (127 : Int32)))])) _
    refine XS.istore X0.here hx rfl (hb hby at_41) rfl (l' := #[.val (.long q1), .second, .val (.long q2), .second, .val (.int p3), .val (.int p4), .val (.int p5), .val (.int p6), .val (.int (own_H p6)), .val (.int (1 : Int32)), .val (.int (p3 &&& (127 : Int32))), .val (.int (p4 &&& (127 : Int32))), .val (.int (p5 &&& (127 : Int32))), .unset, .unset, .unset, .unset]) rfl ?_
    show Steps p.tables e below (s₁.setTop (mkF m 43 #[.val (.long q1), .second, .val (.long q2), .second, .val (.int p3), .val (.int p4), .val (.int p5), .val (.int p6), .val (.int (own_H p6)), .val (.int (1 : Int32)), .val (.int (p3 &&& (127 : Int32))), .val (.int (p4 &&& (127 : Int32))), .val (.int (p5 &&& (127 : Int32))), .unset, .unset, .unset, .unset] [])) _
    refine XS.iload X0.here hx rfl (hb hby at_43) rfl ?_
    show Steps p.tables e below (s₁.setTop (mkF m 45 #[.val (.long q1), .second, .val (.long q2), .second, .val (.int p3), .val (.int p4), .val (.int p5), .val (.int p6), .val (.int (own_H p6)), .val (.int (1 : Int32)), .val (.int (p3 &&& (127 : Int32))), .val (.int (p4 &&& (127 : Int32))), .val (.int (p5 &&& (127 : Int32))), .unset, .unset, .unset, .unset] [(.int (1 : Int32))])) _
    refine st1 _ ?_
    show Steps p.tables e below (T1.setTop (mkF m 47 #[.val (.long q1), .second, .val (.long q2), .second, .val (.int p3), .val (.int p4), .val (.int p5), .val (.int p6), .val (.int (own_H p6)), .val (.int (1 : Int32)), .val (.int (p3 &&& (127 : Int32))), .val (.int (p4 &&& (127 : Int32))), .val (.int (p5 &&& (127 : Int32))), .unset, .unset, .unset, .unset] [(.ref b1)])) _
    refine XS.astore X1.here hx rfl (hb hby at_47) rfl rfl (l' := #[.val (.long q1), .second, .val (.long q2), .second, .val (.int p3), .val (.int p4), .val (.int p5), .val (.int p6), .val (.int (own_H p6)), .val (.int (1 : Int32)), .val (.int (p3 &&& (127 : Int32))), .val (.int (p4 &&& (127 : Int32))), .val (.int (p5 &&& (127 : Int32))), .val (.ref b1), .unset, .unset, .unset]) rfl ?_
    show Steps p.tables e below (T1.setTop (mkF m 49 #[.val (.long q1), .second, .val (.long q2), .second, .val (.int p3), .val (.int p4), .val (.int p5), .val (.int p6), .val (.int (own_H p6)), .val (.int (1 : Int32)), .val (.int (p3 &&& (127 : Int32))), .val (.int (p4 &&& (127 : Int32))), .val (.int (p5 &&& (127 : Int32))), .val (.ref b1), .unset, .unset, .unset] [])) _
    refine XS.iload X1.here hx rfl (hb hby at_49) rfl ?_
    show Steps p.tables e below (T1.setTop (mkF m 51 #[.val (.long q1), .second, .val (.long q2), .second, .val (.int p3), .val (.int p4), .val (.int p5), .val (.int p6), .val (.int (own_H p6)), .val (.int (1 : Int32)), .val (.int (p3 &&& (127 : Int32))), .val (.int (p4 &&& (127 : Int32))), .val (.int (p5 &&& (127 : Int32))), .val (.ref b1), .unset, .unset, .unset] [(.int (1 : Int32))])) _
    refine XS.iconst X1.here hx rfl (hb hby at_51) ?_
    show Steps p.tables e below (T1.setTop (mkF m 52 #[.val (.long q1), .second, .val (.long q2), .second, .val (.int p3), .val (.int p4), .val (.int p5), .val (.int p6), .val (.int (own_H p6)), .val (.int (1 : Int32)), .val (.int (p3 &&& (127 : Int32))), .val (.int (p4 &&& (127 : Int32))), .val (.int (p5 &&& (127 : Int32))), .val (.ref b1), .unset, .unset, .unset] [(.int (1 : Int32)), (.int (1 : Int32))])) _
    refine XS.icmpNo X1.here hx rfl (hb hby at_52) rfl (flt (by decide)).1 ?_
    show Steps p.tables e below (T1.setTop (mkF m 55 #[.val (.long q1), .second, .val (.long q2), .second, .val (.int p3), .val (.int p4), .val (.int p5), .val (.int p6), .val (.int (own_H p6)), .val (.int (1 : Int32)), .val (.int (p3 &&& (127 : Int32))), .val (.int (p4 &&& (127 : Int32))), .val (.int (p5 &&& (127 : Int32))), .val (.ref b1), .unset, .unset, .unset] [])) _
    refine XS.aload X1.here hx rfl (hb hby at_55) rfl rfl ?_
    show Steps p.tables e below (T1.setTop (mkF m 57 #[.val (.long q1), .second, .val (.long q2), .second, .val (.int p3), .val (.int p4), .val (.int p5), .val (.int p6), .val (.int (own_H p6)), .val (.int (1 : Int32)), .val (.int (p3 &&& (127 : Int32))), .val (.int (p4 &&& (127 : Int32))), .val (.int (p5 &&& (127 : Int32))), .val (.ref b1), .unset, .unset, .unset] [(.ref b1)])) _
    refine XS.iconst X1.here hx rfl (hb hby at_57) ?_
    show Steps p.tables e below (T1.setTop (mkF m 58 #[.val (.long q1), .second, .val (.long q2), .second, .val (.int p3), .val (.int p4), .val (.int p5), .val (.int p6), .val (.int (own_H p6)), .val (.int (1 : Int32)), .val (.int (p3 &&& (127 : Int32))), .val (.int (p4 &&& (127 : Int32))), .val (.int (p5 &&& (127 : Int32))), .val (.ref b1), .unset, .unset, .unset] [(.int (0 : Int32)), (.ref b1)])) _
    refine XS.iload X1.here hx rfl (hb hby at_58) rfl ?_
    show Steps p.tables e below (T1.setTop (mkF m 60 #[.val (.long q1), .second, .val (.long q2), .second, .val (.int p3), .val (.int p4), .val (.int p5), .val (.int p6), .val (.int (own_H p6)), .val (.int (1 : Int32)), .val (.int (p3 &&& (127 : Int32))), .val (.int (p4 &&& (127 : Int32))), .val (.int (p5 &&& (127 : Int32))), .val (.ref b1), .unset, .unset, .unset] [(.int (p3 &&& (127 : Int32))), (.int (0 : Int32)), (.ref b1)])) _
    refine st2 _ ?_
    show Steps p.tables e below (T2.setTop (mkF m 61 #[.val (.long q1), .second, .val (.long q2), .second, .val (.int p3), .val (.int p4), .val (.int p5), .val (.int p6), .val (.int (own_H p6)), .val (.int (1 : Int32)), .val (.int (p3 &&& (127 : Int32))), .val (.int (p4 &&& (127 : Int32))), .val (.int (p5 &&& (127 : Int32))), .val (.ref b1), .unset, .unset, .unset] [])) _
    refine XS.iload X2.here hx rfl (hb hby at_61) rfl ?_
    show Steps p.tables e below (T2.setTop (mkF m 63 #[.val (.long q1), .second, .val (.long q2), .second, .val (.int p3), .val (.int p4), .val (.int p5), .val (.int p6), .val (.int (own_H p6)), .val (.int (1 : Int32)), .val (.int (p3 &&& (127 : Int32))), .val (.int (p4 &&& (127 : Int32))), .val (.int (p5 &&& (127 : Int32))), .val (.ref b1), .unset, .unset, .unset] [(.int (1 : Int32))])) _
    refine XS.iconst X2.here hx rfl (hb hby at_63) ?_
    show Steps p.tables e below (T2.setTop (mkF m 64 #[.val (.long q1), .second, .val (.long q2), .second, .val (.int p3), .val (.int p4), .val (.int p5), .val (.int p6), .val (.int (own_H p6)), .val (.int (1 : Int32)), .val (.int (p3 &&& (127 : Int32))), .val (.int (p4 &&& (127 : Int32))), .val (.int (p5 &&& (127 : Int32))), .val (.ref b1), .unset, .unset, .unset] [(.int (2 : Int32)), (.int (1 : Int32))])) _
    refine XS.icmpYes X2.here hx rfl (pc0 := 64) (pc' := 73) rfl (hb hby at_64) rfl (tlt (by decide)).1 (by decide) (by decide) ?_
    show Steps p.tables e below (T2.setTop (mkF m 73 #[.val (.long q1), .second, .val (.long q2), .second, .val (.int p3), .val (.int p4), .val (.int p5), .val (.int p6), .val (.int (own_H p6)), .val (.int (1 : Int32)), .val (.int (p3 &&& (127 : Int32))), .val (.int (p4 &&& (127 : Int32))), .val (.int (p5 &&& (127 : Int32))), .val (.ref b1), .unset, .unset, .unset] [])) _
    refine XS.iload X2.here hx rfl (hb hby at_73) rfl ?_
    show Steps p.tables e below (T2.setTop (mkF m 75 #[.val (.long q1), .second, .val (.long q2), .second, .val (.int p3), .val (.int p4), .val (.int p5), .val (.int p6), .val (.int (own_H p6)), .val (.int (1 : Int32)), .val (.int (p3 &&& (127 : Int32))), .val (.int (p4 &&& (127 : Int32))), .val (.int (p5 &&& (127 : Int32))), .val (.ref b1), .unset, .unset, .unset] [(.int (1 : Int32))])) _
    refine XS.iconst X2.here hx rfl (hb hby at_75) ?_
    show Steps p.tables e below (T2.setTop (mkF m 76 #[.val (.long q1), .second, .val (.long q2), .second, .val (.int p3), .val (.int p4), .val (.int p5), .val (.int p6), .val (.int (own_H p6)), .val (.int (1 : Int32)), .val (.int (p3 &&& (127 : Int32))), .val (.int (p4 &&& (127 : Int32))), .val (.int (p5 &&& (127 : Int32))), .val (.ref b1), .unset, .unset, .unset] [(.int (3 : Int32)), (.int (1 : Int32))])) _
    refine XS.icmpYes X2.here hx rfl (pc0 := 76) (pc' := 85) rfl (hb hby at_76) rfl (tlt (by decide)).1 (by decide) (by decide) ?_
    show Steps p.tables e below (T2.setTop (mkF m 85 #[.val (.long q1), .second, .val (.long q2), .second, .val (.int p3), .val (.int p4), .val (.int p5), .val (.int p6), .val (.int (own_H p6)), .val (.int (1 : Int32)), .val (.int (p3 &&& (127 : Int32))), .val (.int (p4 &&& (127 : Int32))), .val (.int (p5 &&& (127 : Int32))), .val (.ref b1), .unset, .unset, .unset] [])) _
    refine XS.iconst X2.here hx rfl (hb hby at_85) ?_
    show Steps p.tables e below (T2.setTop (mkF m 86 #[.val (.long q1), .second, .val (.long q2), .second, .val (.int p3), .val (.int p4), .val (.int p5), .val (.int p6), .val (.int (own_H p6)), .val (.int (1 : Int32)), .val (.int (p3 &&& (127 : Int32))), .val (.int (p4 &&& (127 : Int32))), .val (.int (p5 &&& (127 : Int32))), .val (.ref b1), .unset, .unset, .unset] [(.int (2 : Int32))])) _
    refine st3 _ ?_
    show Steps p.tables e below (T3.setTop (mkF m 88 #[.val (.long q1), .second, .val (.long q2), .second, .val (.int p3), .val (.int p4), .val (.int p5), .val (.int p6), .val (.int (own_H p6)), .val (.int (1 : Int32)), .val (.int (p3 &&& (127 : Int32))), .val (.int (p4 &&& (127 : Int32))), .val (.int (p5 &&& (127 : Int32))), .val (.ref b1), .unset, .unset, .unset] [(.ref b3)])) _
    refine XS.dup X3.here hx rfl (hb hby at_88) rfl rfl ?_
    show Steps p.tables e below (T3.setTop (mkF m 89 #[.val (.long q1), .second, .val (.long q2), .second, .val (.int p3), .val (.int p4), .val (.int p5), .val (.int p6), .val (.int (own_H p6)), .val (.int (1 : Int32)), .val (.int (p3 &&& (127 : Int32))), .val (.int (p4 &&& (127 : Int32))), .val (.int (p5 &&& (127 : Int32))), .val (.ref b1), .unset, .unset, .unset] [(.ref b3), (.ref b3)])) _
    refine XS.iconst X3.here hx rfl (hb hby at_89) ?_
    show Steps p.tables e below (T3.setTop (mkF m 90 #[.val (.long q1), .second, .val (.long q2), .second, .val (.int p3), .val (.int p4), .val (.int p5), .val (.int p6), .val (.int (own_H p6)), .val (.int (1 : Int32)), .val (.int (p3 &&& (127 : Int32))), .val (.int (p4 &&& (127 : Int32))), .val (.int (p5 &&& (127 : Int32))), .val (.ref b1), .unset, .unset, .unset] [(.int (0 : Int32)), (.ref b3), (.ref b3)])) _
    refine XS.lloadN X3.here hx rfl (hb hby at_90) rfl ?_
    show Steps p.tables e below (T3.setTop (mkF m 91 #[.val (.long q1), .second, .val (.long q2), .second, .val (.int p3), .val (.int p4), .val (.int p5), .val (.int p6), .val (.int (own_H p6)), .val (.int (1 : Int32)), .val (.int (p3 &&& (127 : Int32))), .val (.int (p4 &&& (127 : Int32))), .val (.int (p5 &&& (127 : Int32))), .val (.ref b1), .unset, .unset, .unset] [(.long q1), (.int (0 : Int32)), (.ref b3), (.ref b3)])) _
    refine st4 _ ?_
    show Steps p.tables e below (T4.setTop (mkF m 92 #[.val (.long q1), .second, .val (.long q2), .second, .val (.int p3), .val (.int p4), .val (.int p5), .val (.int p6), .val (.int (own_H p6)), .val (.int (1 : Int32)), .val (.int (p3 &&& (127 : Int32))), .val (.int (p4 &&& (127 : Int32))), .val (.int (p5 &&& (127 : Int32))), .val (.ref b1), .unset, .unset, .unset] [(.ref b3)])) _
    refine XS.dup X4.here hx rfl (hb hby at_92) rfl rfl ?_
    show Steps p.tables e below (T4.setTop (mkF m 93 #[.val (.long q1), .second, .val (.long q2), .second, .val (.int p3), .val (.int p4), .val (.int p5), .val (.int p6), .val (.int (own_H p6)), .val (.int (1 : Int32)), .val (.int (p3 &&& (127 : Int32))), .val (.int (p4 &&& (127 : Int32))), .val (.int (p5 &&& (127 : Int32))), .val (.ref b1), .unset, .unset, .unset] [(.ref b3), (.ref b3)])) _
    refine XS.iconst X4.here hx rfl (hb hby at_93) ?_
    show Steps p.tables e below (T4.setTop (mkF m 94 #[.val (.long q1), .second, .val (.long q2), .second, .val (.int p3), .val (.int p4), .val (.int p5), .val (.int p6), .val (.int (own_H p6)), .val (.int (1 : Int32)), .val (.int (p3 &&& (127 : Int32))), .val (.int (p4 &&& (127 : Int32))), .val (.int (p5 &&& (127 : Int32))), .val (.ref b1), .unset, .unset, .unset] [(.int (1 : Int32)), (.ref b3), (.ref b3)])) _
    refine XS.lloadN X4.here hx rfl (hb hby at_94) rfl ?_
    show Steps p.tables e below (T4.setTop (mkF m 95 #[.val (.long q1), .second, .val (.long q2), .second, .val (.int p3), .val (.int p4), .val (.int p5), .val (.int p6), .val (.int (own_H p6)), .val (.int (1 : Int32)), .val (.int (p3 &&& (127 : Int32))), .val (.int (p4 &&& (127 : Int32))), .val (.int (p5 &&& (127 : Int32))), .val (.ref b1), .unset, .unset, .unset] [(.long q2), (.int (1 : Int32)), (.ref b3), (.ref b3)])) _
    refine st5 _ ?_
    show Steps p.tables e below (T5.setTop (mkF m 96 #[.val (.long q1), .second, .val (.long q2), .second, .val (.int p3), .val (.int p4), .val (.int p5), .val (.int p6), .val (.int (own_H p6)), .val (.int (1 : Int32)), .val (.int (p3 &&& (127 : Int32))), .val (.int (p4 &&& (127 : Int32))), .val (.int (p5 &&& (127 : Int32))), .val (.ref b1), .unset, .unset, .unset] [(.ref b3)])) _
    refine XS.astore X5.here hx rfl (hb hby at_96) rfl rfl (l' := #[.val (.long q1), .second, .val (.long q2), .second, .val (.int p3), .val (.int p4), .val (.int p5), .val (.int p6), .val (.int (own_H p6)), .val (.int (1 : Int32)), .val (.int (p3 &&& (127 : Int32))), .val (.int (p4 &&& (127 : Int32))), .val (.int (p5 &&& (127 : Int32))), .val (.ref b1), .val (.ref b3), .unset, .unset]) rfl ?_
    show Steps p.tables e below (T5.setTop (mkF m 98 #[.val (.long q1), .second, .val (.long q2), .second, .val (.int p3), .val (.int p4), .val (.int p5), .val (.int p6), .val (.int (own_H p6)), .val (.int (1 : Int32)), .val (.int (p3 &&& (127 : Int32))), .val (.int (p4 &&& (127 : Int32))), .val (.int (p5 &&& (127 : Int32))), .val (.ref b1), .val (.ref b3), .unset, .unset] [])) _
    refine XS.aload X5.here hx rfl (hb hby at_98) rfl rfl ?_
    show Steps p.tables e below (T5.setTop (mkF m 100 #[.val (.long q1), .second, .val (.long q2), .second, .val (.int p3), .val (.int p4), .val (.int p5), .val (.int p6), .val (.int (own_H p6)), .val (.int (1 : Int32)), .val (.int (p3 &&& (127 : Int32))), .val (.int (p4 &&& (127 : Int32))), .val (.int (p5 &&& (127 : Int32))), .val (.ref b1), .val (.ref b3), .unset, .unset] [(.ref b1)])) _
    refine XS.aload X5.here hx rfl (hb hby at_100) rfl rfl ?_
    show Steps p.tables e below (T5.setTop (mkF m 102 #[.val (.long q1), .second, .val (.long q2), .second, .val (.int p3), .val (.int p4), .val (.int p5), .val (.int p6), .val (.int (own_H p6)), .val (.int (1 : Int32)), .val (.int (p3 &&& (127 : Int32))), .val (.int (p4 &&& (127 : Int32))), .val (.int (p5 &&& (127 : Int32))), .val (.ref b1), .val (.ref b3), .unset, .unset] [(.ref b3), (.ref b1)])) _
    refine XS.iload X5.here hx rfl (hb hby at_102) rfl ?_
    show Steps p.tables e below (T5.setTop (mkF m 104 #[.val (.long q1), .second, .val (.long q2), .second, .val (.int p3), .val (.int p4), .val (.int p5), .val (.int p6), .val (.int (own_H p6)), .val (.int (1 : Int32)), .val (.int (p3 &&& (127 : Int32))), .val (.int (p4 &&& (127 : Int32))), .val (.int (p5 &&& (127 : Int32))), .val (.ref b1), .val (.ref b3), .unset, .unset] [(.int (own_H p6)), (.ref b3), (.ref b1)])) _
    refine st6 _ ?_
    show Steps p.tables e below (T6.setTop (mkF m 107 #[.val (.long q1), .second, .val (.long q2), .second, .val (.int p3), .val (.int p4), .val (.int p5), .val (.int p6), .val (.int (own_H p6)), .val (.int (1 : Int32)), .val (.int (p3 &&& (127 : Int32))), .val (.int (p4 &&& (127 : Int32))), .val (.int (p5 &&& (127 : Int32))), .val (.ref b1), .val (.ref b3), .unset, .unset] [(.int (own_fa (own_H p6) q1 q2 [(p3 &&& (127 : Int32))]))])) _
    refine XS.istore X6.here hx rfl (hb hby at_107) rfl (l' := #[.val (.long q1), .second, .val (.long q2), .second, .val (.int p3), .val (.int p4), .val (.int p5), .val (.int p6), .val (.int (own_H p6)), .val (.int (1 : Int32)), .val (.int (p3 &&& (127 : Int32))), .val (.int (p4 &&& (127 : Int32))), .val (.int (p5 &&& (127 : Int32))), .val (.ref b1), .val (.ref b3), .val (.int (own_fa (own_H p6) q1 q2 [(p3 &&& (127 : Int32))])), .unset]) rfl ?_
    show Steps p.tables e below (T6.setTop (mkF m 109 #[.val (.long q1), .second, .val (.long q2), .second, .val (.int p3), .val (.int p4), .val (.int p5), .val (.int p6), .val (.int (own_H p6)), .val (.int (1 : Int32)), .val (.int (p3 &&& (127 : Int32))), .val (.int (p4 &&& (127 : Int32))), .val (.int (p5 &&& (127 : Int32))), .val (.ref b1), .val (.ref b3), .val (.int (own_fa (own_H p6) q1 q2 [(p3 &&& (127 : Int32))])), .unset] [])) _
    refine XS.iconst X6.here hx rfl (hb hby at_109) ?_
    show Steps p.tables e below (T6.setTop (mkF m 110 #[.val (.long q1), .second, .val (.long q2), .second, .val (.int p3), .val (.int p4), .val (.int p5), .val (.int p6), .val (.int (own_H p6)), .val (.int (1 : Int32)), .val (.int (p3 &&& (127 : Int32))), .val (.int (p4 &&& (127 : Int32))), .val (.int (p5 &&& (127 : Int32))), .val (.ref b1), .val (.ref b3), .val (.int (own_fa (own_H p6) q1 q2 [(p3 &&& (127 : Int32))])), .unset] [(.int (-1 : Int32))])) _
    refine XS.istore X6.here hx rfl (hb hby at_110) rfl (l' := #[.val (.long q1), .second, .val (.long q2), .second, .val (.int p3), .val (.int p4), .val (.int p5), .val (.int p6), .val (.int (own_H p6)), .val (.int (1 : Int32)), .val (.int (p3 &&& (127 : Int32))), .val (.int (p4 &&& (127 : Int32))), .val (.int (p5 &&& (127 : Int32))), .val (.ref b1), .val (.ref b3), .val (.int (own_fa (own_H p6) q1 q2 [(p3 &&& (127 : Int32))])), .val (.int (-1 : Int32))]) rfl ?_
    show Steps p.tables e below (T6.setTop (mkF m 112 #[.val (.long q1), .second, .val (.long q2), .second, .val (.int p3), .val (.int p4), .val (.int p5), .val (.int p6), .val (.int (own_H p6)), .val (.int (1 : Int32)), .val (.int (p3 &&& (127 : Int32))), .val (.int (p4 &&& (127 : Int32))), .val (.int (p5 &&& (127 : Int32))), .val (.ref b1), .val (.ref b3), .val (.int (own_fa (own_H p6) q1 q2 [(p3 &&& (127 : Int32))])), .val (.int (-1 : Int32))] [])) _
    refine XS.iload X6.here hx rfl (hb hby at_112) rfl ?_
    show Steps p.tables e below (T6.setTop (mkF m 114 #[.val (.long q1), .second, .val (.long q2), .second, .val (.int p3), .val (.int p4), .val (.int p5), .val (.int p6), .val (.int (own_H p6)), .val (.int (1 : Int32)), .val (.int (p3 &&& (127 : Int32))), .val (.int (p4 &&& (127 : Int32))), .val (.int (p5 &&& (127 : Int32))), .val (.ref b1), .val (.ref b3), .val (.int (own_fa (own_H p6) q1 q2 [(p3 &&& (127 : Int32))])), .val (.int (-1 : Int32))] [(.int (1 : Int32))])) _
    refine XS.iconst X6.here hx rfl (hb hby at_114) ?_
    show Steps p.tables e below (T6.setTop (mkF m 115 #[.val (.long q1), .second, .val (.long q2), .second, .val (.int p3), .val (.int p4), .val (.int p5), .val (.int p6), .val (.int (own_H p6)), .val (.int (1 : Int32)), .val (.int (p3 &&& (127 : Int32))), .val (.int (p4 &&& (127 : Int32))), .val (.int (p5 &&& (127 : Int32))), .val (.ref b1), .val (.ref b3), .val (.int (own_fa (own_H p6) q1 q2 [(p3 &&& (127 : Int32))])), .val (.int (-1 : Int32))] [(.int (3 : Int32)), (.int (1 : Int32))])) _
    refine XS.icmpYes X6.here hx rfl (pc0 := 115) (pc' := 134) rfl (hb hby at_115) rfl (tlt (by decide)).1 (by decide) (by decide) ?_
    show Steps p.tables e below (T6.setTop (mkF m 134 #[.val (.long q1), .second, .val (.long q2), .second, .val (.int p3), .val (.int p4), .val (.int p5), .val (.int p6), .val (.int (own_H p6)), .val (.int (1 : Int32)), .val (.int (p3 &&& (127 : Int32))), .val (.int (p4 &&& (127 : Int32))), .val (.int (p5 &&& (127 : Int32))), .val (.ref b1), .val (.ref b3), .val (.int (own_fa (own_H p6) q1 q2 [(p3 &&& (127 : Int32))])), .val (.int (-1 : Int32))] [])) _
    refine XS.iload X6.here hx rfl (hb hby at_134) rfl ?_
    show Steps p.tables e below (T6.setTop (mkF m 136 #[.val (.long q1), .second, .val (.long q2), .second, .val (.int p3), .val (.int p4), .val (.int p5), .val (.int p6), .val (.int (own_H p6)), .val (.int (1 : Int32)), .val (.int (p3 &&& (127 : Int32))), .val (.int (p4 &&& (127 : Int32))), .val (.int (p5 &&& (127 : Int32))), .val (.ref b1), .val (.ref b3), .val (.int (own_fa (own_H p6) q1 q2 [(p3 &&& (127 : Int32))])), .val (.int (-1 : Int32))] [(.int (1 : Int32))])) _
    refine XS.iconst X6.here hx rfl (hb hby at_136) ?_
    show Steps p.tables e below (T6.setTop (mkF m 137 #[.val (.long q1), .second, .val (.long q2), .second, .val (.int p3), .val (.int p4), .val (.int p5), .val (.int p6), .val (.int (own_H p6)), .val (.int (1 : Int32)), .val (.int (p3 &&& (127 : Int32))), .val (.int (p4 &&& (127 : Int32))), .val (.int (p5 &&& (127 : Int32))), .val (.ref b1), .val (.ref b3), .val (.int (own_fa (own_H p6) q1 q2 [(p3 &&& (127 : Int32))])), .val (.int (-1 : Int32))] [(.int (2 : Int32)), (.int (1 : Int32))])) _
    refine XS.icmpYes X6.here hx rfl (pc0 := 137) (pc' := 156) rfl (hb hby at_137) rfl (tlt (by decide)).1 (by decide) (by decide) ?_
    show Steps p.tables e below (T6.setTop (mkF m 156 #[.val (.long q1), .second, .val (.long q2), .second, .val (.int p3), .val (.int p4), .val (.int p5), .val (.int p6), .val (.int (own_H p6)), .val (.int (1 : Int32)), .val (.int (p3 &&& (127 : Int32))), .val (.int (p4 &&& (127 : Int32))), .val (.int (p5 &&& (127 : Int32))), .val (.ref b1), .val (.ref b3), .val (.int (own_fa (own_H p6) q1 q2 [(p3 &&& (127 : Int32))])), .val (.int (-1 : Int32))] [])) _
    refine XS.iload X6.here hx rfl (hb hby at_156) rfl ?_
    show Steps p.tables e below (T6.setTop (mkF m 158 #[.val (.long q1), .second, .val (.long q2), .second, .val (.int p3), .val (.int p4), .val (.int p5), .val (.int p6), .val (.int (own_H p6)), .val (.int (1 : Int32)), .val (.int (p3 &&& (127 : Int32))), .val (.int (p4 &&& (127 : Int32))), .val (.int (p5 &&& (127 : Int32))), .val (.ref b1), .val (.ref b3), .val (.int (own_fa (own_H p6) q1 q2 [(p3 &&& (127 : Int32))])), .val (.int (-1 : Int32))] [(.int (1 : Int32))])) _
    refine XS.iconst X6.here hx rfl (hb hby at_158) ?_
    show Steps p.tables e below (T6.setTop (mkF m 159 #[.val (.long q1), .second, .val (.long q2), .second, .val (.int p3), .val (.int p4), .val (.int p5), .val (.int p6), .val (.int (own_H p6)), .val (.int (1 : Int32)), .val (.int (p3 &&& (127 : Int32))), .val (.int (p4 &&& (127 : Int32))), .val (.int (p5 &&& (127 : Int32))), .val (.ref b1), .val (.ref b3), .val (.int (own_fa (own_H p6) q1 q2 [(p3 &&& (127 : Int32))])), .val (.int (-1 : Int32))] [(.int (1 : Int32)), (.int (1 : Int32))])) _
    refine XS.icmpNo X6.here hx rfl (hb hby at_159) rfl (flt (by decide)).1 ?_
    show Steps p.tables e below (T6.setTop (mkF m 162 #[.val (.long q1), .second, .val (.long q2), .second, .val (.int p3), .val (.int p4), .val (.int p5), .val (.int p6), .val (.int (own_H p6)), .val (.int (1 : Int32)), .val (.int (p3 &&& (127 : Int32))), .val (.int (p4 &&& (127 : Int32))), .val (.int (p5 &&& (127 : Int32))), .val (.ref b1), .val (.ref b3), .val (.int (own_fa (own_H p6) q1 q2 [(p3 &&& (127 : Int32))])), .val (.int (-1 : Int32))] [])) _
    refine XS.lloadN X6.here hx rfl (hb hby at_162) rfl ?_
    show Steps p.tables e below (T6.setTop (mkF m 163 #[.val (.long q1), .second, .val (.long q2), .second, .val (.int p3), .val (.int p4), .val (.int p5), .val (.int p6), .val (.int (own_H p6)), .val (.int (1 : Int32)), .val (.int (p3 &&& (127 : Int32))), .val (.int (p4 &&& (127 : Int32))), .val (.int (p5 &&& (127 : Int32))), .val (.ref b1), .val (.ref b3), .val (.int (own_fa (own_H p6) q1 q2 [(p3 &&& (127 : Int32))])), .val (.int (-1 : Int32))] [(.long q1)])) _
    refine XS.lloadN X6.here hx rfl (hb hby at_163) rfl ?_
    show Steps p.tables e below (T6.setTop (mkF m 164 #[.val (.long q1), .second, .val (.long q2), .second, .val (.int p3), .val (.int p4), .val (.int p5), .val (.int p6), .val (.int (own_H p6)), .val (.int (1 : Int32)), .val (.int (p3 &&& (127 : Int32))), .val (.int (p4 &&& (127 : Int32))), .val (.int (p5 &&& (127 : Int32))), .val (.ref b1), .val (.ref b3), .val (.int (own_fa (own_H p6) q1 q2 [(p3 &&& (127 : Int32))])), .val (.int (-1 : Int32))] [(.long q2), (.long q1)])) _
    refine XS.iload X6.here hx rfl (hb hby at_164) rfl ?_
    show Steps p.tables e below (T6.setTop (mkF m 166 #[.val (.long q1), .second, .val (.long q2), .second, .val (.int p3), .val (.int p4), .val (.int p5), .val (.int p6), .val (.int (own_H p6)), .val (.int (1 : Int32)), .val (.int (p3 &&& (127 : Int32))), .val (.int (p4 &&& (127 : Int32))), .val (.int (p5 &&& (127 : Int32))), .val (.ref b1), .val (.ref b3), .val (.int (own_fa (own_H p6) q1 q2 [(p3 &&& (127 : Int32))])), .val (.int (-1 : Int32))] [(.int (p3 &&& (127 : Int32))), (.long q2), (.long q1)])) _
    refine st7 _ ?_
    show Steps p.tables e below (T7.setTop (mkF m 169 #[.val (.long q1), .second, .val (.long q2), .second, .val (.int p3), .val (.int p4), .val (.int p5), .val (.int p6), .val (.int (own_H p6)), .val (.int (1 : Int32)), .val (.int (p3 &&& (127 : Int32))), .val (.int (p4 &&& (127 : Int32))), .val (.int (p5 &&& (127 : Int32))), .val (.ref b1), .val (.ref b3), .val (.int (own_fa (own_H p6) q1 q2 [(p3 &&& (127 : Int32))])), .val (.int (-1 : Int32))] [(.int (own_hold q1 q2 (p3 &&& (127 : Int32))))])) _
    refine j0 _ ?_
    show Steps p.tables e below (T7.setTop (mkF m 178 #[.val (.long q1), .second, .val (.long q2), .second, .val (.int p3), .val (.int p4), .val (.int p5), .val (.int p6), .val (.int (own_H p6)), .val (.int (1 : Int32)), .val (.int (p3 &&& (127 : Int32))), .val (.int (p4 &&& (127 : Int32))), .val (.int (p5 &&& (127 : Int32))), .val (.ref b1), .val (.ref b3), .val (.int (own_fa (own_H p6) q1 q2 [(p3 &&& (127 : Int32))])), .val (.int (own_ix (own_H p6) q1 q2 (p3 &&& (127 : Int32)) (-1 : Int32)))] [])) _
    refine XS.iload X7.here hx rfl (hb hby at_178) rfl ?_
    show Steps p.tables e below (T7.setTop (mkF m 180 #[.val (.long q1), .second, .val (.long q2), .second, .val (.int p3), .val (.int p4), .val (.int p5), .val (.int p6), .val (.int (own_H p6)), .val (.int (1 : Int32)), .val (.int (p3 &&& (127 : Int32))), .val (.int (p4 &&& (127 : Int32))), .val (.int (p5 &&& (127 : Int32))), .val (.ref b1), .val (.ref b3), .val (.int (own_fa (own_H p6) q1 q2 [(p3 &&& (127 : Int32))])), .val (.int (own_ix (own_H p6) q1 q2 (p3 &&& (127 : Int32)) (-1 : Int32)))] [(.int (own_fa (own_H p6) q1 q2 [(p3 &&& (127 : Int32))]))])) _
    refine XS.iload X7.here hx rfl (hb hby at_180) rfl ?_
    show Steps p.tables e below (T7.setTop (mkF m 182 #[.val (.long q1), .second, .val (.long q2), .second, .val (.int p3), .val (.int p4), .val (.int p5), .val (.int p6), .val (.int (own_H p6)), .val (.int (1 : Int32)), .val (.int (p3 &&& (127 : Int32))), .val (.int (p4 &&& (127 : Int32))), .val (.int (p5 &&& (127 : Int32))), .val (.ref b1), .val (.ref b3), .val (.int (own_fa (own_H p6) q1 q2 [(p3 &&& (127 : Int32))])), .val (.int (own_ix (own_H p6) q1 q2 (p3 &&& (127 : Int32)) (-1 : Int32)))] [(.int (own_ix (own_H p6) q1 q2 (p3 &&& (127 : Int32)) (-1 : Int32))), (.int (own_fa (own_H p6) q1 q2 [(p3 &&& (127 : Int32))]))])) _
    refine XS.icmpNo X7.here hx rfl (hb hby at_182) rfl (teq fin).2 ?_
    show Steps p.tables e below (T7.setTop (mkF m 185 #[.val (.long q1), .second, .val (.long q2), .second, .val (.int p3), .val (.int p4), .val (.int p5), .val (.int p6), .val (.int (own_H p6)), .val (.int (1 : Int32)), .val (.int (p3 &&& (127 : Int32))), .val (.int (p4 &&& (127 : Int32))), .val (.int (p5 &&& (127 : Int32))), .val (.ref b1), .val (.ref b3), .val (.int (own_fa (own_H p6) q1 q2 [(p3 &&& (127 : Int32))])), .val (.int (own_ix (own_H p6) q1 q2 (p3 &&& (127 : Int32)) (-1 : Int32)))] [])) _
    refine XS.aload X7.here hx rfl (hb hby at_185) rfl rfl ?_
    show Steps p.tables e below (T7.setTop (mkF m 187 #[.val (.long q1), .second, .val (.long q2), .second, .val (.int p3), .val (.int p4), .val (.int p5), .val (.int p6), .val (.int (own_H p6)), .val (.int (1 : Int32)), .val (.int (p3 &&& (127 : Int32))), .val (.int (p4 &&& (127 : Int32))), .val (.int (p5 &&& (127 : Int32))), .val (.ref b1), .val (.ref b3), .val (.int (own_fa (own_H p6) q1 q2 [(p3 &&& (127 : Int32))])), .val (.int (own_ix (own_H p6) q1 q2 (p3 &&& (127 : Int32)) (-1 : Int32)))] [(.ref b3)])) _
    refine XS.iconst X7.here hx rfl (hb hby at_187) ?_
    show Steps p.tables e below (T7.setTop (mkF m 188 #[.val (.long q1), .second, .val (.long q2), .second, .val (.int p3), .val (.int p4), .val (.int p5), .val (.int p6), .val (.int (own_H p6)), .val (.int (1 : Int32)), .val (.int (p3 &&& (127 : Int32))), .val (.int (p4 &&& (127 : Int32))), .val (.int (p5 &&& (127 : Int32))), .val (.ref b1), .val (.ref b3), .val (.int (own_fa (own_H p6) q1 q2 [(p3 &&& (127 : Int32))])), .val (.int (own_ix (own_H p6) q1 q2 (p3 &&& (127 : Int32)) (-1 : Int32)))] [(.int (0 : Int32)), (.ref b3)])) _
    refine X7.laload hx (j := (0 : Int32)) (v := (.long q1)) (by rw [e7]; exact A5.1) (State.isArrayOf_alike hZ.alike A5.2.1) A5.2.2 hJ0 rfl (g := (mkF m 188 #[.val (.long q1), .second, .val (.long q2), .second, .val (.int p3), .val (.int p4), .val (.int p5), .val (.int p6), .val (.int (own_H p6)), .val (.int (1 : Int32)), .val (.int (p3 &&& (127 : Int32))), .val (.int (p4 &&& (127 : Int32))), .val (.int (p5 &&& (127 : Int32))), .val (.ref b1), .val (.ref b3), .val (.int (own_fa (own_H p6) q1 q2 [(p3 &&& (127 : Int32))])), .val (.int (own_ix (own_H p6) q1 q2 (p3 &&& (127 : Int32)) (-1 : Int32)))] [(.int (0 : Int32)), (.ref b3)])) rfl rfl (hb hby at_188) _ ?_
    show Steps p.tables e below (T7.setTop (mkF m 189 #[.val (.long q1), .second, .val (.long q2), .second, .val (.int p3), .val (.int p4), .val (.int p5), .val (.int p6), .val (.int (own_H p6)), .val (.int (1 : Int32)), .val (.int (p3 &&& (127 : Int32))), .val (.int (p4 &&& (127 : Int32))), .val (.int (p5 &&& (127 : Int32))), .val (.ref b1), .val (.ref b3), .val (.int (own_fa (own_H p6) q1 q2 [(p3 &&& (127 : Int32))])), .val (.int (own_ix (own_H p6) q1 q2 (p3 &&& (127 : Int32)) (-1 : Int32)))] [(.long q1)])) _
    refine XS.lloadN X7.here hx rfl (hb hby at_189) rfl ?_
    show Steps p.tables e below (T7.setTop (mkF m 190 #[.val (.long q1), .second, .val (.long q2), .second, .val (.int p3), .val (.int p4), .val (.int p5), .val (.int p6), .val (.int (own_H p6)), .val (.int (1 : Int32)), .val (.int (p3 &&& (127 : Int32))), .val (.int (p4 &&& (127 : Int32))), .val (.int (p5 &&& (127 : Int32))), .val (.ref b1), .val (.ref b3), .val (.int (own_fa (own_H p6) q1 q2 [(p3 &&& (127 : Int32))])), .val (.int (own_ix (own_H p6) q1 q2 (p3 &&& (127 : Int32)) (-1 : Int32)))] [(.long q1), (.long q1)])) _
    refine XS.lcmp X7.here hx rfl (hb hby at_190) rfl ?_
    show Steps p.tables e below (T7.setTop (mkF m 191 #[.val (.long q1), .second, .val (.long q2), .second, .val (.int p3), .val (.int p4), .val (.int p5), .val (.int p6), .val (.int (own_H p6)), .val (.int (1 : Int32)), .val (.int (p3 &&& (127 : Int32))), .val (.int (p4 &&& (127 : Int32))), .val (.int (p5 &&& (127 : Int32))), .val (.ref b1), .val (.ref b3), .val (.int (own_fa (own_H p6) q1 q2 [(p3 &&& (127 : Int32))])), .val (.int (own_ix (own_H p6) q1 q2 (p3 &&& (127 : Int32)) (-1 : Int32)))] [(.int (lcmpW q1 q1))])) _
    refine XS.ifNo X7.here hx rfl (hb hby at_191) rfl ((if0 _ _).trans (teq ((lw_eq _ _).mpr rfl)).2) ?_
    show Steps p.tables e below (T7.setTop (mkF m 194 #[.val (.long q1), .second, .val (.long q2), .second, .val (.int p3), .val (.int p4), .val (.int p5), .val (.int p6), .val (.int (own_H p6)), .val (.int (1 : Int32)), .val (.int (p3 &&& (127 : Int32))), .val (.int (p4 &&& (127 : Int32))), .val (.int (p5 &&& (127 : Int32))), .val (.ref b1), .val (.ref b3), .val (.int (own_fa (own_H p6) q1 q2 [(p3 &&& (127 : Int32))])), .val (.int (own_ix (own_H p6) q1 q2 (p3 &&& (127 : Int32)) (-1 : Int32)))] [])) _
    refine XS.aload X7.here hx rfl (hb hby at_194) rfl rfl ?_
    show Steps p.tables e below (T7.setTop (mkF m 196 #[.val (.long q1), .second, .val (.long q2), .second, .val (.int p3), .val (.int p4), .val (.int p5), .val (.int p6), .val (.int (own_H p6)), .val (.int (1 : Int32)), .val (.int (p3 &&& (127 : Int32))), .val (.int (p4 &&& (127 : Int32))), .val (.int (p5 &&& (127 : Int32))), .val (.ref b1), .val (.ref b3), .val (.int (own_fa (own_H p6) q1 q2 [(p3 &&& (127 : Int32))])), .val (.int (own_ix (own_H p6) q1 q2 (p3 &&& (127 : Int32)) (-1 : Int32)))] [(.ref b3)])) _
    refine XS.iconst X7.here hx rfl (hb hby at_196) ?_
    show Steps p.tables e below (T7.setTop (mkF m 197 #[.val (.long q1), .second, .val (.long q2), .second, .val (.int p3), .val (.int p4), .val (.int p5), .val (.int p6), .val (.int (own_H p6)), .val (.int (1 : Int32)), .val (.int (p3 &&& (127 : Int32))), .val (.int (p4 &&& (127 : Int32))), .val (.int (p5 &&& (127 : Int32))), .val (.ref b1), .val (.ref b3), .val (.int (own_fa (own_H p6) q1 q2 [(p3 &&& (127 : Int32))])), .val (.int (own_ix (own_H p6) q1 q2 (p3 &&& (127 : Int32)) (-1 : Int32)))] [(.int (1 : Int32)), (.ref b3)])) _
    refine X7.laload hx (j := (1 : Int32)) (v := (.long q2)) (by rw [e7]; exact A5.1) (State.isArrayOf_alike hZ.alike A5.2.1) A5.2.2 hJ1 rfl (g := (mkF m 197 #[.val (.long q1), .second, .val (.long q2), .second, .val (.int p3), .val (.int p4), .val (.int p5), .val (.int p6), .val (.int (own_H p6)), .val (.int (1 : Int32)), .val (.int (p3 &&& (127 : Int32))), .val (.int (p4 &&& (127 : Int32))), .val (.int (p5 &&& (127 : Int32))), .val (.ref b1), .val (.ref b3), .val (.int (own_fa (own_H p6) q1 q2 [(p3 &&& (127 : Int32))])), .val (.int (own_ix (own_H p6) q1 q2 (p3 &&& (127 : Int32)) (-1 : Int32)))] [(.int (1 : Int32)), (.ref b3)])) rfl rfl (hb hby at_197) _ ?_
    show Steps p.tables e below (T7.setTop (mkF m 198 #[.val (.long q1), .second, .val (.long q2), .second, .val (.int p3), .val (.int p4), .val (.int p5), .val (.int p6), .val (.int (own_H p6)), .val (.int (1 : Int32)), .val (.int (p3 &&& (127 : Int32))), .val (.int (p4 &&& (127 : Int32))), .val (.int (p5 &&& (127 : Int32))), .val (.ref b1), .val (.ref b3), .val (.int (own_fa (own_H p6) q1 q2 [(p3 &&& (127 : Int32))])), .val (.int (own_ix (own_H p6) q1 q2 (p3 &&& (127 : Int32)) (-1 : Int32)))] [(.long q2)])) _
    refine XS.lloadN X7.here hx rfl (hb hby at_198) rfl ?_
    show Steps p.tables e below (T7.setTop (mkF m 199 #[.val (.long q1), .second, .val (.long q2), .second, .val (.int p3), .val (.int p4), .val (.int p5), .val (.int p6), .val (.int (own_H p6)), .val (.int (1 : Int32)), .val (.int (p3 &&& (127 : Int32))), .val (.int (p4 &&& (127 : Int32))), .val (.int (p5 &&& (127 : Int32))), .val (.ref b1), .val (.ref b3), .val (.int (own_fa (own_H p6) q1 q2 [(p3 &&& (127 : Int32))])), .val (.int (own_ix (own_H p6) q1 q2 (p3 &&& (127 : Int32)) (-1 : Int32)))] [(.long q2), (.long q2)])) _
    refine XS.lcmp X7.here hx rfl (hb hby at_199) rfl ?_
    show Steps p.tables e below (T7.setTop (mkF m 200 #[.val (.long q1), .second, .val (.long q2), .second, .val (.int p3), .val (.int p4), .val (.int p5), .val (.int p6), .val (.int (own_H p6)), .val (.int (1 : Int32)), .val (.int (p3 &&& (127 : Int32))), .val (.int (p4 &&& (127 : Int32))), .val (.int (p5 &&& (127 : Int32))), .val (.ref b1), .val (.ref b3), .val (.int (own_fa (own_H p6) q1 q2 [(p3 &&& (127 : Int32))])), .val (.int (own_ix (own_H p6) q1 q2 (p3 &&& (127 : Int32)) (-1 : Int32)))] [(.int (lcmpW q2 q2))])) _
    refine XS.ifNo X7.here hx rfl (hb hby at_200) rfl ((if0 _ _).trans (teq ((lw_eq _ _).mpr rfl)).2) ?_
    show Steps p.tables e below (T7.setTop (mkF m 203 #[.val (.long q1), .second, .val (.long q2), .second, .val (.int p3), .val (.int p4), .val (.int p5), .val (.int p6), .val (.int (own_H p6)), .val (.int (1 : Int32)), .val (.int (p3 &&& (127 : Int32))), .val (.int (p4 &&& (127 : Int32))), .val (.int (p5 &&& (127 : Int32))), .val (.ref b1), .val (.ref b3), .val (.int (own_fa (own_H p6) q1 q2 [(p3 &&& (127 : Int32))])), .val (.int (own_ix (own_H p6) q1 q2 (p3 &&& (127 : Int32)) (-1 : Int32)))] [])) _
    refine XS.iconst X7.here hx rfl (hb hby at_203) ?_
    show Steps p.tables e below (T7.setTop (mkF m 204 #[.val (.long q1), .second, .val (.long q2), .second, .val (.int p3), .val (.int p4), .val (.int p5), .val (.int p6), .val (.int (own_H p6)), .val (.int (1 : Int32)), .val (.int (p3 &&& (127 : Int32))), .val (.int (p4 &&& (127 : Int32))), .val (.int (p5 &&& (127 : Int32))), .val (.ref b1), .val (.ref b3), .val (.int (own_fa (own_H p6) q1 q2 [(p3 &&& (127 : Int32))])), .val (.int (own_ix (own_H p6) q1 q2 (p3 &&& (127 : Int32)) (-1 : Int32)))] [(.int (1 : Int32))])) _
    refine XS.goto X7.here hx rfl (pc0 := 204) (pc' := 208) rfl (hb hby at_204) (by decide) (by decide) ?_
    show Steps p.tables e below (T7.setTop (mkF m 208 #[.val (.long q1), .second, .val (.long q2), .second, .val (.int p3), .val (.int p4), .val (.int p5), .val (.int p6), .val (.int (own_H p6)), .val (.int (1 : Int32)), .val (.int (p3 &&& (127 : Int32))), .val (.int (p4 &&& (127 : Int32))), .val (.int (p5 &&& (127 : Int32))), .val (.ref b1), .val (.ref b3), .val (.int (own_fa (own_H p6) q1 q2 [(p3 &&& (127 : Int32))])), .val (.int (own_ix (own_H p6) q1 q2 (p3 &&& (127 : Int32)) (-1 : Int32)))] [(.int (1 : Int32))])) _
    exact retN X7 hx (t := .boolean) Bd.returns (by simp) (hb hby at_208) hr
  · show Q0 Z q1 q2 p3 p4 p5 p6 h0 n0 _ T7.heap _
    exact ⟨rfl, N7⟩
set_option maxRecDepth 65536 in
set_option maxHeartbeats 40000000 in
theorem rm0_2 (l : Launch) (Z : State) (a0 : Array Value) (hw : ∀ d ∈ tables_1, d.before a0 Z = true) (ws : List Jvm.Cond) (q1 : Int64) (q2 : Int64) (p3 : Int32) (p4 : Int32) (p5 : Int32) (p6 : Int32) (h0 : Heap) (n0 : Nat) (Z0 : n0 ≤ h0.size) (hn : own_ushr p6 1 &&& 3 = (2 : Int32)) :
    MetFree l x (head1 (Jvm.Cond.code x code maxLocals ret :: ws) room_1) (fun a U => a = #[(.long q1), (.long q2), (.int p3), (.int p4), (.int p5), (.int p6)] ∧ Z.Warmed39 U.vm ∧ U.heap = h0) (fun _ _ _ _ _ => True) (fun _ U o U' => ∃ v L, o = .returned v ∧ Q0 Z q1 q2 p3 p4 p5 p6 h0 n0 v U'.heap L ∧ FrameEnd U o U' L (room_1).cells (room_1).slots) := by
  refine MetFree.of_bodySF (plainFor_of_name pn_0) hisR ?_
  intro p e s m args below meth c s₁ Bd hml0 hP hK
  obtain ⟨rfl, hZ, hh⟩ := hP
  have hx := Bd.exec
  have hby := Bd.bytes
  have hml : c.maxLocals = 17 := hml0
  have hown : s.vm.findClass "com/example/ilmarinen/ilmarinen/search/GroundTaskFirstAtomPinLaw" = some m.cls := findClass_of_methodNamed Bd.named
  have hnm := (name_of_methodNamed Bd.named Bd.method).1
  have X0 : Stand p l e room_1 s m #[(.long q1), (.long q2), (.int p3), (.int p4), (.int p5), (.int p6)] below meth c s₁ [] 0 0 := Stand.of_body Bd
  have e0 : s₁.heap = h0 := by rw [← hh, Bd.state]; rfl
  have N0 := Fr.nil n0
  have pre0 : ∀ t, Steps p.tables e below (s₁.setTop (mkF m 0 #[.val (.long q1), .second, .val (.long q2), .second, .val (.int p3), .val (.int p4), .val (.int p5), .val (.int p6), .unset, .unset, .unset, .unset, .unset, .unset, .unset, .unset, .unset] [])) t → Steps p.tables e below (s₁.setTop (entryFrame m #[(.long q1), (.long q2), (.int p3), (.int p4), (.int p5), (.int p6)] maxLocals)) t := fun t k => castTop (ef_0 m q1 q2 p3 p4 p5 p6) k
  have jA : ∀ t, Steps p.tables e below (s₁.setTop (mkF m 12 #[.val (.long q1), .second, .val (.long q2), .second, .val (.int p3), .val (.int p4), .val (.int p5), .val (.int p6), .unset, .unset, .unset, .unset, .unset, .unset, .unset, .unset, .unset] [(.int (own_H p6))])) t → Steps p.tables e below (s₁.setTop (mkF m 0 #[.val (.long q1), .second, .val (.long q2), .second, .val (.int p3), .val (.int p4), .val (.int p5), .val (.int p6), .unset, .unset, .unset, .unset, .unset, .unset, .unset, .unset, .unset] [])) t := by
    intro t kt
    show Steps p.tables e below (s₁.setTop (mkF m 0 #[.val (.long q1), .second, .val (.long q2), .second, .val (.int p3), .val (.int p4), .val (.int p5), .val (.int p6), .unset, .unset, .unset, .unset, .unset, .unset, .unset, .unset, .unset] [])) _
    refine XS.iload X0.here hx rfl (hb hby at_0) rfl ?_
    show Steps p.tables e below (s₁.setTop (mkF m 2 #[.val (.long q1), .second, .val (.long q2), .second, .val (.int p3), .val (.int p4), .val (.int p5), .val (.int p6), .unset, .unset, .unset, .unset, .unset, .unset, .unset, .unset, .unset] [(.int p6)])) _
    refine XS.iconst X0.here hx rfl (hb hby at_2) ?_
    show Steps p.tables e below (s₁.setTop (mkF m 3 #[.val (.long q1), .second, .val (.long q2), .second, .val (.int p3), .val (.int p4), .val (.int p5), .val (.int p6), .unset, .unset, .unset, .unset, .unset, .unset, .unset, .unset, .unset] [(.int (1 : Int32)), (.int p6)])) _
    refine XS.iand X0.here hx rfl (hb hby at_3) rfl ?_
    show Steps p.tables e below (s₁.setTop (mkF m 4 #[.val (.long q1), .second, .val (.long q2), .second, .val (.int p3), .val (.int p4), .val (.int p5), .val (.int p6), .unset, .unset, .unset, .unset, .unset, .unset, .unset, .unset, .unset] [(.int (p6 &&& (1 : Int32)))])) _
    by_cases c4 : (p6 &&& (1 : Int32)) = (0 : Int32)
    · refine XS.ifYes X0.here hx rfl (pc0 := 4) (pc' := 11) rfl (hb hby at_4) rfl ((if0 _ _).trans (teq c4).1) (by decide) (by decide) ?_
      show Steps p.tables e below (s₁.setTop (mkF m 11 #[.val (.long q1), .second, .val (.long q2), .second, .val (.int p3), .val (.int p4), .val (.int p5), .val (.int p6), .unset, .unset, .unset, .unset, .unset, .unset, .unset, .unset, .unset] [])) _
      refine XS.iconst X0.here hx rfl (hb hby at_11) ?_
      show Steps p.tables e below (s₁.setTop (mkF m 12 #[.val (.long q1), .second, .val (.long q2), .second, .val (.int p3), .val (.int p4), .val (.int p5), .val (.int p6), .unset, .unset, .unset, .unset, .unset, .unset, .unset, .unset, .unset] [(.int (0 : Int32))])) _
      have em : (own_H p6) = (0 : Int32) := by first | rfl | (rw [own_H, if_pos c4]; done) | (simp only [own_H, c4, if_true, if_false]; done) | (simp [own_H, c4]; done) | contradiction | ((unfold own_H; repeat' split) <;> first | rfl | contradiction | (simp_all; done))
      rw [em] at kt
      exact kt
    · refine XS.ifNo X0.here hx rfl (hb hby at_4) rfl ((if0 _ _).trans (feq c4).1) ?_
      show Steps p.tables e below (s₁.setTop (mkF m 7 #[.val (.long q1), .second, .val (.long q2), .second, .val (.int p3), .val (.int p4), .val (.int p5), .val (.int p6), .unset, .unset, .unset, .unset, .unset, .unset, .unset, .unset, .unset] [])) _
      refine XS.iconst X0.here hx rfl (hb hby at_7) ?_
      show Steps p.tables e below (s₁.setTop (mkF m 8 #[.val (.long q1), .second, .val (.long q2), .second, .val (.int p3), .val (.int p4), .val (.int p5), .val (.int p6), .unset, .unset, .unset, .unset, .unset, .unset, .unset, .unset, .unset] [(.int (1 : Int32))])) _
      refine XS.goto X0.here hx rfl (pc0 := 8) (pc' := 12) rfl (hb hby at_8) (by decide) (by decide) ?_
      show Steps p.tables e below (s₁.setTop (mkF m 12 #[.val (.long q1), .second, .val (.long q2), .second, .val (.int p3), .val (.int p4), .val (.int p5), .val (.int p6), .unset, .unset, .unset, .unset, .unset, .unset, .unset, .unset, .unset] [(.int (1 : Int32))])) _
      have em : (own_H p6) = (1 : Int32) := by first | rfl | (rw [own_H, if_neg c4]; done) | (simp only [own_H, c4, if_true, if_false]; done) | (simp [own_H, c4]; done) | contradiction | ((unfold own_H; repeat' split) <;> first | rfl | contradiction | (simp_all; done))
      rw [em] at kt
      exact kt
  have hneg : ¬ ((2 : Int32) < 0) := by decide
  obtain ⟨T1, h1, k1, X1, e1, E1, A1, st1⟩ := newP X0 hx hZ (hw _ (List.mem_of_getElem? (i := 0) rfl)) e0 (g := (mkF m 45 #[.val (.long q1), .second, .val (.long q2), .second, .val (.int p3), .val (.int p4), .val (.int p5), .val (.int p6), .val (.int (own_H p6)), .val (.int (2 : Int32)), .val (.int (p3 &&& (127 : Int32))), .val (.int (p4 &&& (127 : Int32))), .val (.int (p5 &&& (127 : Int32))), .unset, .unset, .unset, .unset] [(.int (2 : Int32))])) rfl (hb hby at_45) rfl hneg (cap := 2) (by decide) (by decide) (by decide) (by decide)
  obtain ⟨b1, g1⟩ : ∃ z, z = h0.size := ⟨_, rfl⟩
  rw [← g1] at A1 st1
  have gb1 : n0 ≤ b1 := Nat.le_trans Z0 (Nat.le_of_eq g1.symm)
  have hin2 : ¬ ((0 : Int32) < 0 ∨ (newA k1 .int (2 : Int32)).slots.size ≤ ((0 : Int32)).toNatClampNeg) := own_in (n := 2) (k := 0) (by decide) rfl rfl (by decide)
  obtain ⟨T2, h2, X2, e2, W2, st2⟩ := stI X1 hx hZ e1 A1 (j := (0 : Int32)) hin2 (g := (mkF m 60 #[.val (.long q1), .second, .val (.long q2), .second, .val (.int p3), .val (.int p4), .val (.int p5), .val (.int p6), .val (.int (own_H p6)), .val (.int (2 : Int32)), .val (.int (p3 &&& (127 : Int32))), .val (.int (p4 &&& (127 : Int32))), .val (.int (p5 &&& (127 : Int32))), .val (.ref b1), .unset, .unset, .unset] [(.int (p3 &&& (127 : Int32))), (.int (0 : Int32)), (.ref b1)])) rfl rfl (hb hby at_60)
  have N2 := Fr.snoc X2 N0 gb1
  have A2 := Arr.same W2 A1
  have hin3 : ¬ ((1 : Int32) < 0 ∨ ((newA k1 .int (2 : Int32)).setSlot ((0 : Int32)).toNatClampNeg (.int (p3 &&& (127 : Int32)))).slots.size ≤ ((1 : Int32)).toNatClampNeg) := own_in (n := 2) (k := 1) (by decide) rfl rfl (by decide)
  obtain ⟨T3, h3, X3, e3, W3, st3⟩ := stI X2 hx hZ e2 A2 (j := (1 : Int32)) hin3 (g := (mkF m 72 #[.val (.long q1), .second, .val (.long q2), .second, .val (.int p3), .val (.int p4), .val (.int p5), .val (.int p6), .val (.int (own_H p6)), .val (.int (2 : Int32)), .val (.int (p3 &&& (127 : Int32))), .val (.int (p4 &&& (127 : Int32))), .val (.int (p5 &&& (127 : Int32))), .val (.ref b1), .unset, .unset, .unset] [(.int (p4 &&& (127 : Int32))), (.int (1 : Int32)), (.ref b1)])) rfl rfl (hb hby at_72)
  have N3 := Fr.snoc X3 N2 gb1
  have A3 := Arr.same W3 A2
  obtain ⟨T4, h4, k4, X4, e4, E4, A4, st4⟩ := newP X3 hx hZ (hw _ (List.mem_of_getElem? (i := 1) rfl)) e3 (g := (mkF m 86 #[.val (.long q1), .second, .val (.long q2), .second, .val (.int p3), .val (.int p4), .val (.int p5), .val (.int p6), .val (.int (own_H p6)), .val (.int (2 : Int32)), .val (.int (p3 &&& (127 : Int32))), .val (.int (p4 &&& (127 : Int32))), .val (.int (p5 &&& (127 : Int32))), .val (.ref b1), .unset, .unset, .unset] [(.int (2 : Int32))])) rfl (hb hby at_86) rfl (by decide) (cap := 2) (by decide) (by decide) (by decide) (by decide)
  obtain ⟨b4, g4⟩ : ∃ z, z = h3.size := ⟨_, rfl⟩
  rw [← g4] at A4 st4
  have Zs1 : n0 ≤ h1.size := Nat.le_trans Z0 E1.1
  have Zs2 : n0 ≤ h2.size := Nat.le_trans Zs1 (Keep.of_wr W2).1
  have Zs3 : n0 ≤ h3.size := Nat.le_trans Zs2 (Keep.of_wr W3).1
  have gb4 : n0 ≤ b4 := Nat.le_trans Zs3 (Nat.le_of_eq g4.symm)
  have ne : b1 ≠ b4 := Nat.ne_of_lt (Nat.lt_of_lt_of_le A3.lt (Nat.le_of_eq g4.symm))
  have Zs4 : n0 ≤ h4.size := Nat.le_trans Zs3 E4.1
  have AI4 := A3.ext E4
  have hin5 : ¬ ((0 : Int32) < 0 ∨ (newA k4 .long (2 : Int32)).slots.size ≤ ((0 : Int32)).toNatClampNeg) := own_in (n := 2) (k := 0) (by decide) rfl rfl (by decide)
  obtain ⟨T5, h5, X5, e5, W5, st5⟩ := stJ X4 hx hZ e4 A4 (j := (0 : Int32)) hin5 (g := (mkF m 91 #[.val (.long q1), .second, .val (.long q2), .second, .val (.int p3), .val (.int p4), .val (.int p5), .val (.int p6), .val (.int (own_H p6)), .val (.int (2 : Int32)), .val (.int (p3 &&& (127 : Int32))), .val (.int (p4 &&& (127 : Int32))), .val (.int (p5 &&& (127 : Int32))), .val (.ref b1), .unset, .unset, .unset] [(.long q1), (.int (0 : Int32)), (.ref b4), (.ref b4)])) rfl rfl (hb hby at_91)
  have N5 := Fr.snoc X5 N3 gb4
  have A5 := Arr.same W5 A4
  have AI5 := AI4.other W5 ne
  have Zs5 : n0 ≤ h5.size := Nat.le_trans Zs4 (Keep.of_wr W5).1
  have hin6 : ¬ ((1 : Int32) < 0 ∨ ((newA k4 .long (2 : Int32)).setSlot ((0 : Int32)).toNatClampNeg (.long q1)).slots.size ≤ ((1 : Int32)).toNatClampNeg) := own_in (n := 2) (k := 1) (by decide) rfl rfl (by decide)
  obtain ⟨T6, h6, X6, e6, W6, st6⟩ := stJ X5 hx hZ e5 A5 (j := (1 : Int32)) hin6 (g := (mkF m 95 #[.val (.long q1), .second, .val (.long q2), .second, .val (.int p3), .val (.int p4), .val (.int p5), .val (.int p6), .val (.int (own_H p6)), .val (.int (2 : Int32)), .val (.int (p3 &&& (127 : Int32))), .val (.int (p4 &&& (127 : Int32))), .val (.int (p5 &&& (127 : Int32))), .val (.ref b1), .unset, .unset, .unset] [(.long q2), (.int (1 : Int32)), (.ref b4), (.ref b4)])) rfl rfl (hb hby at_95)
  have N6 := Fr.snoc X6 N5 gb4
  have A6 := Arr.same W6 A5
  have AI6 := AI5.other W6 ne
  have Zs6 : n0 ≤ h6.size := Nat.le_trans Zs5 (Keep.of_wr W6).1
  have hxs : ∀ x ∈ ([(p3 &&& (127 : Int32)), (p4 &&& (127 : Int32))] : List Int32), ∃ a, a < 128 ∧ x = Int32.ofNat a := by
    intro x hx'
    simp only [List.mem_cons, List.not_mem_nil, or_false] at hx'
    rcases hx' with rfl | rfl <;> exact own_127 _
  have HI : ∀ (j : Nat) (x : Int32), ([(p3 &&& (127 : Int32)), (p4 &&& (127 : Int32))] : List Int32)[j]? = some x → (((newA k1 .int (2 : Int32)).setSlot ((0 : Int32)).toNatClampNeg (.int (p3 &&& (127 : Int32)))).setSlot ((1 : Int32)).toNatClampNeg (.int (p4 &&& (127 : Int32)))).slots[j]? = some (.int x) := by
    intro j x q
    match j, q with
    | 0, q => cases q; rfl
    | 1, q => cases q; rfl
    | j + 2, q => simp at q
  obtain ⟨_, _, ⟨T7, L7, k7, n7⟩, -, X7, ⟨Lc7, hQ7, l7, y7, z7⟩, st7⟩ := Jvm.LawKit.callS X6 hx (y := (⟨"com/example/ilmarinen/ilmarinen/search/GroundTask", "firstAtom", "([I[JZ)I"⟩ : MethodName)) hown (mvT hZ (hw _ (List.mem_of_getElem? (i := 2) rfl))) (mvT hZ (hw _ (List.mem_of_getElem? (i := 3) rfl))) (mvT hZ (hw _ (List.mem_of_getElem? (i := 4) rfl))) (mvT hZ (hw _ (List.mem_of_getElem? (i := 5) rfl))) (by decide) (backOf (W := 0) (rm1 l Z a0 hw [] b1 b4 (own_H p6) q1 q2 [(p3 &&& (127 : Int32)), (p4 &&& (127 : Int32))] (((newA k1 .int (2 : Int32)).setSlot ((0 : Int32)).toNatClampNeg (.int (p3 &&& (127 : Int32)))).setSlot ((1 : Int32)).toNatClampNeg (.int (p4 &&& (127 : Int32)))) (((newA k4 .long (2 : Int32)).setSlot ((0 : Int32)).toNatClampNeg (.long q1)).setSlot ((1 : Int32)).toNatClampNeg (.long q2)) h6 n0 Zs6 (by show 2 < 4; decide) AI6 rfl HI hxs A6 rfl rfl rfl) hZ (hw _ (List.mem_of_getElem? (i := 5) rfl)) (hw _ (List.mem_of_getElem? (i := 4) rfl)) (by decide) (by decide)) (g := (mkF m 104 #[.val (.long q1), .second, .val (.long q2), .second, .val (.int p3), .val (.int p4), .val (.int p5), .val (.int p6), .val (.int (own_H p6)), .val (.int (2 : Int32)), .val (.int (p3 &&& (127 : Int32))), .val (.int (p4 &&& (127 : Int32))), .val (.int (p5 &&& (127 : Int32))), .val (.ref b1), .val (.ref b4), .unset, .unset] [(.int (own_H p6)), (.ref b4), (.ref b1)])) rfl (by rw [hml]; rfl) (argsL := [(.ref b1), (.ref b4), (.int (own_H p6))]) (rest := []) (lenOf pd_fa rfl) rfl (by show 2 * 0 + _ ≤ _; exact Nat.le_of_eq rfl) (hb hby at_104) (fun _ _ => ⟨rfl, e6, (by decide : 2 + 0 ≤ _), (by decide : 4 + 0 ≤ _)⟩)
  dsimp only [Pt.U, Pt.locs, Pt.cells, Pt.slots] at X7 l7 y7 z7 st7 hQ7
  subst l7 y7 z7
  obtain ⟨rfl, N7q, e7⟩ := hQ7
  have N7 := Fr.app N6 N7q
  obtain ⟨_, _, ⟨T8, L8, k8, n8⟩, -, X8, ⟨Lc8, hQ8, l8, y8, z8⟩, st8⟩ := Jvm.LawKit.callS X7 hx (y := (⟨"com/example/ilmarinen/ilmarinen/search/GroundTaskFirstAtomPinLaw", "holds", "(JJI)Z"⟩ : MethodName)) hown (mvT hZ (hw _ (List.mem_of_getElem? (i := 6) rfl))) (mvT hZ (hw _ (List.mem_of_getElem? (i := 7) rfl))) (mvT hZ (hw _ (List.mem_of_getElem? (i := 8) rfl))) (mvT hZ (hw _ (List.mem_of_getElem? (i := 9) rfl))) (by decide) (backOf (W := 0) (rm2 l Z a0 hw [] q1 q2 (p4 &&& (127 : Int32)) h6 n0 Zs6) hZ (hw _ (List.mem_of_getElem? (i := 9) rfl)) (hw _ (List.mem_of_getElem? (i := 8) rfl)) (by decide) (by decide)) (g := (mkF m 144 #[.val (.long q1), .second, .val (.long q2), .second, .val (.int p3), .val (.int p4), .val (.int p5), .val (.int p6), .val (.int (own_H p6)), .val (.int (2 : Int32)), .val (.int (p3 &&& (127 : Int32))), .val (.int (p4 &&& (127 : Int32))), .val (.int (p5 &&& (127 : Int32))), .val (.ref b1), .val (.ref b4), .val (.int (own_fa (own_H p6) q1 q2 [(p3 &&& (127 : Int32)), (p4 &&& (127 : Int32))])), .val (.int (-1 : Int32))] [(.int (p4 &&& (127 : Int32))), (.long q2), (.long q1)])) rfl (by rw [hml]; rfl) (argsL := [(.long q1), (.long q2), (.int (p4 &&& (127 : Int32)))]) (rest := []) (lenOf pd_ho rfl) rfl (by show 2 * 0 + _ ≤ _; exact Nat.le_of_eq rfl) (hb hby at_144) (fun _ _ => ⟨rfl, e7, (by decide : 2 + 0 ≤ _), (by decide : 4 + 0 ≤ _)⟩)
  dsimp only [Pt.U, Pt.locs, Pt.cells, Pt.slots] at X8 l8 y8 z8 st8 hQ8
  subst l8 y8 z8
  obtain ⟨rfl, N8q, e8⟩ := hQ8
  have N8 := Fr.app N7 N8q
  have j1 : ∀ t, Steps p.tables e below (T8.setTop (mkF m 156 #[.val (.long q1), .second, .val (.long q2), .second, .val (.int p3), .val (.int p4), .val (.int p5), .val (.int p6), .val (.int (own_H p6)), .val (.int (2 : Int32)), .val (.int (p3 &&& (127 : Int32))), .val (.int (p4 &&& (127 : Int32))), .val (.int (p5 &&& (127 : Int32))), .val (.ref b1), .val (.ref b4), .val (.int (own_fa (own_H p6) q1 q2 [(p3 &&& (127 : Int32)), (p4 &&& (127 : Int32))])), .val (.int (own_ix (own_H p6) q1 q2 (p4 &&& (127 : Int32)) (-1 : Int32)))] [])) t → Steps p.tables e below (T8.setTop (mkF m 147 #[.val (.long q1), .second, .val (.long q2), .second, .val (.int p3), .val (.int p4), .val (.int p5), .val (.int p6), .val (.int (own_H p6)), .val (.int (2 : Int32)), .val (.int (p3 &&& (127 : Int32))), .val (.int (p4 &&& (127 : Int32))), .val (.int (p5 &&& (127 : Int32))), .val (.ref b1), .val (.ref b4), .val (.int (own_fa (own_H p6) q1 q2 [(p3 &&& (127 : Int32)), (p4 &&& (127 : Int32))])), .val (.int (-1 : Int32))] [(.int (own_hold q1 q2 (p4 &&& (127 : Int32))))])) t := by
    intro t kt
    show Steps p.tables e below (T8.setTop (mkF m 147 #[.val (.long q1), .second, .val (.long q2), .second, .val (.int p3), .val (.int p4), .val (.int p5), .val (.int p6), .val (.int (own_H p6)), .val (.int (2 : Int32)), .val (.int (p3 &&& (127 : Int32))), .val (.int (p4 &&& (127 : Int32))), .val (.int (p5 &&& (127 : Int32))), .val (.ref b1), .val (.ref b4), .val (.int (own_fa (own_H p6) q1 q2 [(p3 &&& (127 : Int32)), (p4 &&& (127 : Int32))])), .val (.int (-1 : Int32))] [(.int (own_hold q1 q2 (p4 &&& (127 : Int32))))])) _
    refine XS.iload X8.here hx rfl (hb hby at_147) rfl ?_
    show Steps p.tables e below (T8.setTop (mkF m 149 #[.val (.long q1), .second, .val (.long q2), .second, .val (.int p3), .val (.int p4), .val (.int p5), .val (.int p6), .val (.int (own_H p6)), .val (.int (2 : Int32)), .val (.int (p3 &&& (127 : Int32))), .val (.int (p4 &&& (127 : Int32))), .val (.int (p5 &&& (127 : Int32))), .val (.ref b1), .val (.ref b4), .val (.int (own_fa (own_H p6) q1 q2 [(p3 &&& (127 : Int32)), (p4 &&& (127 : Int32))])), .val (.int (-1 : Int32))] [(.int (own_H p6)), (.int (own_hold q1 q2 (p4 &&& (127 : Int32))))])) _
    by_cases ck : own_hold q1 q2 (p4 &&& (127 : Int32)) = (own_H p6)
    · refine XS.icmpNo X8.here hx rfl (hb hby at_149) rfl (teq ck).2 ?_
      show Steps p.tables e below (T8.setTop (mkF m 152 #[.val (.long q1), .second, .val (.long q2), .second, .val (.int p3), .val (.int p4), .val (.int p5), .val (.int p6), .val (.int (own_H p6)), .val (.int (2 : Int32)), .val (.int (p3 &&& (127 : Int32))), .val (.int (p4 &&& (127 : Int32))), .val (.int (p5 &&& (127 : Int32))), .val (.ref b1), .val (.ref b4), .val (.int (own_fa (own_H p6) q1 q2 [(p3 &&& (127 : Int32)), (p4 &&& (127 : Int32))])), .val (.int (-1 : Int32))] [])) _
      refine XS.iload X8.here hx rfl (hb hby at_152) rfl ?_
      show Steps p.tables e below (T8.setTop (mkF m 154 #[.val (.long q1), .second, .val (.long q2), .second, .val (.int p3), .val (.int p4), .val (.int p5), .val (.int p6), .val (.int (own_H p6)), .val (.int (2 : Int32)), .val (.int (p3 &&& (127 : Int32))), .val (.int (p4 &&& (127 : Int32))), .val (.int (p5 &&& (127 : Int32))), .val (.ref b1), .val (.ref b4), .val (.int (own_fa (own_H p6) q1 q2 [(p3 &&& (127 : Int32)), (p4 &&& (127 : Int32))])), .val (.int (-1 : Int32))] [(.int (p4 &&& (127 : Int32)))])) _
      refine XS.istore X8.here hx rfl (hb hby at_154) rfl (l' := #[.val (.long q1), .second, .val (.long q2), .second, .val (.int p3), .val (.int p4), .val (.int p5), .val (.int p6), .val (.int (own_H p6)), .val (.int (2 : Int32)), .val (.int (p3 &&& (127 : Int32))), .val (.int (p4 &&& (127 : Int32))), .val (.int (p5 &&& (127 : Int32))), .val (.ref b1), .val (.ref b4), .val (.int (own_fa (own_H p6) q1 q2 [(p3 &&& (127 : Int32)), (p4 &&& (127 : Int32))])), .val (.int (p4 &&& (127 : Int32)))]) rfl ?_
      show Steps p.tables e below (T8.setTop (mkF m 156 #[.val (.long q1), .second, .val (.long q2), .second, .val (.int p3), .val (.int p4), .val (.int p5), .val (.int p6), .val (.int (own_H p6)), .val (.int (2 : Int32)), .val (.int (p3 &&& (127 : Int32))), .val (.int (p4 &&& (127 : Int32))), .val (.int (p5 &&& (127 : Int32))), .val (.ref b1), .val (.ref b4), .val (.int (own_fa (own_H p6) q1 q2 [(p3 &&& (127 : Int32)), (p4 &&& (127 : Int32))])), .val (.int (p4 &&& (127 : Int32)))] [])) _
      have em : (own_ix (own_H p6) q1 q2 (p4 &&& (127 : Int32)) (-1 : Int32)) = (p4 &&& (127 : Int32)) := by rw [own_ix, if_pos ck]
      rw [em] at kt
      exact kt
    · refine XS.icmpYes X8.here hx rfl (pc0 := 149) (pc' := 156) rfl (hb hby at_149) rfl (feq ck).2 (by decide) (by decide) ?_
      show Steps p.tables e below (T8.setTop (mkF m 156 #[.val (.long q1), .second, .val (.long q2), .second, .val (.int p3), .val (.int p4), .val (.int p5), .val (.int p6), .val (.int (own_H p6)), .val (.int (2 : Int32)), .val (.int (p3 &&& (127 : Int32))), .val (.int (p4 &&& (127 : Int32))), .val (.int (p5 &&& (127 : Int32))), .val (.ref b1), .val (.ref b4), .val (.int (own_fa (own_H p6) q1 q2 [(p3 &&& (127 : Int32)), (p4 &&& (127 : Int32))])), .val (.int (-1 : Int32))] [])) _
      have em : (own_ix (own_H p6) q1 q2 (p4 &&& (127 : Int32)) (-1 : Int32)) = (-1 : Int32) := by rw [own_ix, if_neg ck]
      rw [em] at kt
      exact kt
  obtain ⟨_, _, ⟨T9, L9, k9, n9⟩, -, X9, ⟨Lc9, hQ9, l9, y9, z9⟩, st9⟩ := Jvm.LawKit.callS X8 hx (y := (⟨"com/example/ilmarinen/ilmarinen/search/GroundTaskFirstAtomPinLaw", "holds", "(JJI)Z"⟩ : MethodName)) hown (mvT hZ (hw _ (List.mem_of_getElem? (i := 6) rfl))) (mvT hZ (hw _ (List.mem_of_getElem? (i := 7) rfl))) (mvT hZ (hw _ (List.mem_of_getElem? (i := 8) rfl))) (mvT hZ (hw _ (List.mem_of_getElem? (i := 9) rfl))) (by decide) (backOf (W := 0) (rm2 l Z a0 hw [] q1 q2 (p3 &&& (127 : Int32)) h6 n0 Zs6) hZ (hw _ (List.mem_of_getElem? (i := 9) rfl)) (hw _ (List.mem_of_getElem? (i := 8) rfl)) (by decide) (by decide)) (g := (mkF m 166 #[.val (.long q1), .second, .val (.long q2), .second, .val (.int p3), .val (.int p4), .val (.int p5), .val (.int p6), .val (.int (own_H p6)), .val (.int (2 : Int32)), .val (.int (p3 &&& (127 : Int32))), .val (.int (p4 &&& (127 : Int32))), .val (.int (p5 &&& (127 : Int32))), .val (.ref b1), .val (.ref b4), .val (.int (own_fa (own_H p6) q1 q2 [(p3 &&& (127 : Int32)), (p4 &&& (127 : Int32))])), .val (.int (own_ix (own_H p6) q1 q2 (p4 &&& (127 : Int32)) (-1 : Int32)))] [(.int (p3 &&& (127 : Int32))), (.long q2), (.long q1)])) rfl (by rw [hml]; rfl) (argsL := [(.long q1), (.long q2), (.int (p3 &&& (127 : Int32)))]) (rest := []) (lenOf pd_ho rfl) rfl (by show 2 * 0 + _ ≤ _; exact Nat.le_of_eq rfl) (hb hby at_166) (fun _ _ => ⟨rfl, e8, (by decide : 2 + 0 ≤ _), (by decide : 4 + 0 ≤ _)⟩)
  dsimp only [Pt.U, Pt.locs, Pt.cells, Pt.slots] at X9 l9 y9 z9 st9 hQ9
  subst l9 y9 z9
  obtain ⟨rfl, N9q, e9⟩ := hQ9
  have N9 := Fr.app N8 N9q
  have j0 : ∀ t, Steps p.tables e below (T9.setTop (mkF m 178 #[.val (.long q1), .second, .val (.long q2), .second, .val (.int p3), .val (.int p4), .val (.int p5), .val (.int p6), .val (.int (own_H p6)), .val (.int (2 : Int32)), .val (.int (p3 &&& (127 : Int32))), .val (.int (p4 &&& (127 : Int32))), .val (.int (p5 &&& (127 : Int32))), .val (.ref b1), .val (.ref b4), .val (.int (own_fa (own_H p6) q1 q2 [(p3 &&& (127 : Int32)), (p4 &&& (127 : Int32))])), .val (.int (own_ix (own_H p6) q1 q2 (p3 &&& (127 : Int32)) (own_ix (own_H p6) q1 q2 (p4 &&& (127 : Int32)) (-1 : Int32))))] [])) t → Steps p.tables e below (T9.setTop (mkF m 169 #[.val (.long q1), .second, .val (.long q2), .second, .val (.int p3), .val (.int p4), .val (.int p5), .val (.int p6), .val (.int (own_H p6)), .val (.int (2 : Int32)), .val (.int (p3 &&& (127 : Int32))), .val (.int (p4 &&& (127 : Int32))), .val (.int (p5 &&& (127 : Int32))), .val (.ref b1), .val (.ref b4), .val (.int (own_fa (own_H p6) q1 q2 [(p3 &&& (127 : Int32)), (p4 &&& (127 : Int32))])), .val (.int (own_ix (own_H p6) q1 q2 (p4 &&& (127 : Int32)) (-1 : Int32)))] [(.int (own_hold q1 q2 (p3 &&& (127 : Int32))))])) t := by
    intro t kt
    show Steps p.tables e below (T9.setTop (mkF m 169 #[.val (.long q1), .second, .val (.long q2), .second, .val (.int p3), .val (.int p4), .val (.int p5), .val (.int p6), .val (.int (own_H p6)), .val (.int (2 : Int32)), .val (.int (p3 &&& (127 : Int32))), .val (.int (p4 &&& (127 : Int32))), .val (.int (p5 &&& (127 : Int32))), .val (.ref b1), .val (.ref b4), .val (.int (own_fa (own_H p6) q1 q2 [(p3 &&& (127 : Int32)), (p4 &&& (127 : Int32))])), .val (.int (own_ix (own_H p6) q1 q2 (p4 &&& (127 : Int32)) (-1 : Int32)))] [(.int (own_hold q1 q2 (p3 &&& (127 : Int32))))])) _
    refine XS.iload X9.here hx rfl (hb hby at_169) rfl ?_
    show Steps p.tables e below (T9.setTop (mkF m 171 #[.val (.long q1), .second, .val (.long q2), .second, .val (.int p3), .val (.int p4), .val (.int p5), .val (.int p6), .val (.int (own_H p6)), .val (.int (2 : Int32)), .val (.int (p3 &&& (127 : Int32))), .val (.int (p4 &&& (127 : Int32))), .val (.int (p5 &&& (127 : Int32))), .val (.ref b1), .val (.ref b4), .val (.int (own_fa (own_H p6) q1 q2 [(p3 &&& (127 : Int32)), (p4 &&& (127 : Int32))])), .val (.int (own_ix (own_H p6) q1 q2 (p4 &&& (127 : Int32)) (-1 : Int32)))] [(.int (own_H p6)), (.int (own_hold q1 q2 (p3 &&& (127 : Int32))))])) _
    by_cases ck : own_hold q1 q2 (p3 &&& (127 : Int32)) = (own_H p6)
    · refine XS.icmpNo X9.here hx rfl (hb hby at_171) rfl (teq ck).2 ?_
      show Steps p.tables e below (T9.setTop (mkF m 174 #[.val (.long q1), .second, .val (.long q2), .second, .val (.int p3), .val (.int p4), .val (.int p5), .val (.int p6), .val (.int (own_H p6)), .val (.int (2 : Int32)), .val (.int (p3 &&& (127 : Int32))), .val (.int (p4 &&& (127 : Int32))), .val (.int (p5 &&& (127 : Int32))), .val (.ref b1), .val (.ref b4), .val (.int (own_fa (own_H p6) q1 q2 [(p3 &&& (127 : Int32)), (p4 &&& (127 : Int32))])), .val (.int (own_ix (own_H p6) q1 q2 (p4 &&& (127 : Int32)) (-1 : Int32)))] [])) _
      refine XS.iload X9.here hx rfl (hb hby at_174) rfl ?_
      show Steps p.tables e below (T9.setTop (mkF m 176 #[.val (.long q1), .second, .val (.long q2), .second, .val (.int p3), .val (.int p4), .val (.int p5), .val (.int p6), .val (.int (own_H p6)), .val (.int (2 : Int32)), .val (.int (p3 &&& (127 : Int32))), .val (.int (p4 &&& (127 : Int32))), .val (.int (p5 &&& (127 : Int32))), .val (.ref b1), .val (.ref b4), .val (.int (own_fa (own_H p6) q1 q2 [(p3 &&& (127 : Int32)), (p4 &&& (127 : Int32))])), .val (.int (own_ix (own_H p6) q1 q2 (p4 &&& (127 : Int32)) (-1 : Int32)))] [(.int (p3 &&& (127 : Int32)))])) _
      refine XS.istore X9.here hx rfl (hb hby at_176) rfl (l' := #[.val (.long q1), .second, .val (.long q2), .second, .val (.int p3), .val (.int p4), .val (.int p5), .val (.int p6), .val (.int (own_H p6)), .val (.int (2 : Int32)), .val (.int (p3 &&& (127 : Int32))), .val (.int (p4 &&& (127 : Int32))), .val (.int (p5 &&& (127 : Int32))), .val (.ref b1), .val (.ref b4), .val (.int (own_fa (own_H p6) q1 q2 [(p3 &&& (127 : Int32)), (p4 &&& (127 : Int32))])), .val (.int (p3 &&& (127 : Int32)))]) rfl ?_
      show Steps p.tables e below (T9.setTop (mkF m 178 #[.val (.long q1), .second, .val (.long q2), .second, .val (.int p3), .val (.int p4), .val (.int p5), .val (.int p6), .val (.int (own_H p6)), .val (.int (2 : Int32)), .val (.int (p3 &&& (127 : Int32))), .val (.int (p4 &&& (127 : Int32))), .val (.int (p5 &&& (127 : Int32))), .val (.ref b1), .val (.ref b4), .val (.int (own_fa (own_H p6) q1 q2 [(p3 &&& (127 : Int32)), (p4 &&& (127 : Int32))])), .val (.int (p3 &&& (127 : Int32)))] [])) _
      have em : (own_ix (own_H p6) q1 q2 (p3 &&& (127 : Int32)) (own_ix (own_H p6) q1 q2 (p4 &&& (127 : Int32)) (-1 : Int32))) = (p3 &&& (127 : Int32)) := by rw [own_ix, if_pos ck]
      rw [em] at kt
      exact kt
    · refine XS.icmpYes X9.here hx rfl (pc0 := 171) (pc' := 178) rfl (hb hby at_171) rfl (feq ck).2 (by decide) (by decide) ?_
      show Steps p.tables e below (T9.setTop (mkF m 178 #[.val (.long q1), .second, .val (.long q2), .second, .val (.int p3), .val (.int p4), .val (.int p5), .val (.int p6), .val (.int (own_H p6)), .val (.int (2 : Int32)), .val (.int (p3 &&& (127 : Int32))), .val (.int (p4 &&& (127 : Int32))), .val (.int (p5 &&& (127 : Int32))), .val (.ref b1), .val (.ref b4), .val (.int (own_fa (own_H p6) q1 q2 [(p3 &&& (127 : Int32)), (p4 &&& (127 : Int32))])), .val (.int (own_ix (own_H p6) q1 q2 (p4 &&& (127 : Int32)) (-1 : Int32)))] [])) _
      have em : (own_ix (own_H p6) q1 q2 (p3 &&& (127 : Int32)) (own_ix (own_H p6) q1 q2 (p4 &&& (127 : Int32)) (-1 : Int32))) = (own_ix (own_H p6) q1 q2 (p4 &&& (127 : Int32)) (-1 : Int32)) := by rw [own_ix, if_neg ck]
      rw [em] at kt
      exact kt
  have fin : (own_fa (own_H p6) q1 q2 [(p3 &&& (127 : Int32)), (p4 &&& (127 : Int32))]) = (own_ix (own_H p6) q1 q2 (p3 &&& (127 : Int32)) (own_ix (own_H p6) q1 q2 (p4 &&& (127 : Int32)) (-1 : Int32))) := own_fin _ _ _ _ hxs
  have hJ0 : ¬ ((0 : Int32) < 0 ∨ (((newA k4 .long (2 : Int32)).setSlot ((0 : Int32)).toNatClampNeg (.long q1)).setSlot ((1 : Int32)).toNatClampNeg (.long q2)).slots.size ≤ (0 : Int32).toNatClampNeg) := own_in (n := 2) (k := 0) (by decide) rfl rfl (by decide)
  have hJ1 : ¬ ((1 : Int32) < 0 ∨ (((newA k4 .long (2 : Int32)).setSlot ((0 : Int32)).toNatClampNeg (.long q1)).setSlot ((1 : Int32)).toNatClampNeg (.long q2)).slots.size ≤ (1 : Int32).toNatClampNeg) := own_in (n := 2) (k := 1) (by decide) rfl rfl (by decide)
  obtain ⟨fs, hr, hrun, hended, hW, hsame⟩ := X9.leave (v := some (.int (1 : Int32))) (fun h => by rw [Bd.returns] at h; cases h)
  refine ⟨_, _, pre0 _ ?_, hrun, hended, _, _, rfl, ?_, ⟨_, rfl⟩, hW, hsame.mono (by decide) (by decide)⟩
  · show Steps p.tables e below (s₁.setTop (mkF m 0 #[.val (.long q1), .second, .val (.long q2), .second, .val (.int p3), .val (.int p4), .val (.int p5), .val (.int p6), .unset, .unset, .unset, .unset, .unset, .unset, .unset, .unset, .unset] [])) _
    refine jA _ ?_
    show Steps p.tables e below (s₁.setTop (mkF m 12 #[.val (.long q1), .second, .val (.long q2), .second, .val (.int p3), .val (.int p4), .val (.int p5), .val (.int p6), .unset, .unset, .unset, .unset, .unset, .unset, .unset, .unset, .unset] [(.int (own_H p6))])) _
    refine XS.istore X0.here hx rfl (hb hby at_12) rfl (l' := #[.val (.long q1), .second, .val (.long q2), .second, .val (.int p3), .val (.int p4), .val (.int p5), .val (.int p6), .val (.int (own_H p6)), .unset, .unset, .unset, .unset, .unset, .unset, .unset, .unset]) rfl ?_
    show Steps p.tables e below (s₁.setTop (mkF m 14 #[.val (.long q1), .second, .val (.long q2), .second, .val (.int p3), .val (.int p4), .val (.int p5), .val (.int p6), .val (.int (own_H p6)), .unset, .unset, .unset, .unset, .unset, .unset, .unset, .unset] [])) _
    refine XS.iload X0.here hx rfl (hb hby at_14) rfl ?_
    show Steps p.tables e below (s₁.setTop (mkF m 16 #[.val (.long q1), .second, .val (.long q2), .second, .val (.int p3), .val (.int p4), .val (.int p5), .val (.int p6), .val (.int (own_H p6)), .unset, .unset, .unset, .unset, .unset, .unset, .unset, .unset] [(.int p6)])) _
    refine XS.iconst X0.here hx rfl (hb hby at_16) ?_
    show Steps p.tables e below (s₁.setTop (mkF m 17 #[.val (.long q1), .second, .val (.long q2), .second, .val (.int p3), .val (.int p4), .val (.int p5), .val (.int p6), .val (.int (own_H p6)), .unset, .unset, .unset, .unset, .unset, .unset, .unset, .unset] [(.int (1 : Int32)), (.int p6)])) _
    refine XS.iushr X0.here hx rfl (hb hby at_17) rfl ?_
    show Steps p.tables e below (s₁.setTop (mkF m 18 #[.val (.long q1), .second, .val (.long q2), .second, .val (.int p3), .val (.int p4), .val (.int p5), .val (.int p6), .val (.int (own_H p6)), .unset, .unset, .unset, .unset, .unset, .unset, .unset, .unset] [(.int (own_ushr p6 (1 : Int32)))])) _
    refine XS.iconst X0.here hx rfl (hb hby at_18) ?_
    show Steps p.tables e below (s₁.setTop (mkF m 19 #[.val (.long q1), .second, .val (.long q2), .second, .val (.int p3), .val (.int p4), .val (.int p5), .val (.int p6), .val (.int (own_H p6)), .unset, .unset, .unset, .unset, .unset, .unset, .unset, .unset] [(.int (3 : Int32)), (.int (own_ushr p6 (1 : Int32)))])) _
    refine XS.iand X0.here hx rfl (hb hby at_19) rfl ?_
    show Steps p.tables e below (s₁.setTop (mkF m 20 #[.val (.long q1), .second, .val (.long q2), .second, .val (.int p3), .val (.int p4), .val (.int p5), .val (.int p6), .val (.int (own_H p6)), .unset, .unset, .unset, .unset, .unset, .unset, .unset, .unset] [(.int ((own_ushr p6 (1 : Int32)) &&& (3 : Int32)))])) _
    rw [hn]
    show Steps p.tables e below (s₁.setTop (mkF m 20 #[.val (.long q1), .second, .val (.long q2), .second, .val (.int p3), .val (.int p4), .val (.int p5), .val (.int p6), .val (.int (own_H p6)), .unset, .unset, .unset, .unset, .unset, .unset, .unset, .unset] [(.int (2 : Int32))])) _
    refine XS.istore X0.here hx rfl (hb hby at_20) rfl (l' := #[.val (.long q1), .second, .val (.long q2), .second, .val (.int p3), .val (.int p4), .val (.int p5), .val (.int p6), .val (.int (own_H p6)), .val (.int (2 : Int32)), .unset, .unset, .unset, .unset, .unset, .unset, .unset]) rfl ?_
    show Steps p.tables e below (s₁.setTop (mkF m 22 #[.val (.long q1), .second, .val (.long q2), .second, .val (.int p3), .val (.int p4), .val (.int p5), .val (.int p6), .val (.int (own_H p6)), .val (.int (2 : Int32)), .unset, .unset, .unset, .unset, .unset, .unset, .unset] [])) _
    refine XS.iload X0.here hx rfl (hb hby at_22) rfl ?_
    show Steps p.tables e below (s₁.setTop (mkF m 24 #[.val (.long q1), .second, .val (.long q2), .second, .val (.int p3), .val (.int p4), .val (.int p5), .val (.int p6), .val (.int (own_H p6)), .val (.int (2 : Int32)), .unset, .unset, .unset, .unset, .unset, .unset, .unset] [(.int p3)])) _
    refine XS.bipush X0.here hx rfl (hb hby at_24) ?_
    show Steps p.tables e below (s₁.setTop (mkF m 26 #[.val (.long q1), .second, .val (.long q2), .second, .val (.int p3), .val (.int p4), .val (.int p5), .val (.int p6), .val (.int (own_H p6)), .val (.int (2 : Int32)), .unset, .unset, .unset, .unset, .unset, .unset, .unset] [(.int (127 : Int32)), (.int p3)])) _
    refine XS.iand X0.here hx rfl (hb hby at_26) rfl ?_
    show Steps p.tables e below (s₁.setTop (mkF m 27 #[.val (.long q1), .second, .val (.long q2), .second, .val (.int p3), .val (.int p4), .val (.int p5), .val (.int p6), .val (.int (own_H p6)), .val (.int (2 : Int32)), .unset, .unset, .unset, .unset, .unset, .unset, .unset] [(.int (p3 &&& (127 : Int32)))])) _
    refine XS.istore X0.here hx rfl (hb hby at_27) rfl (l' := #[.val (.long q1), .second, .val (.long q2), .second, .val (.int p3), .val (.int p4), .val (.int p5), .val (.int p6), .val (.int (own_H p6)), .val (.int (2 : Int32)), .val (.int (p3 &&& (127 : Int32))), .unset, .unset, .unset, .unset, .unset, .unset]) rfl ?_
    show Steps p.tables e below (s₁.setTop (mkF m 29 #[.val (.long q1), .second, .val (.long q2), .second, .val (.int p3), .val (.int p4), .val (.int p5), .val (.int p6), .val (.int (own_H p6)), .val (.int (2 : Int32)), .val (.int (p3 &&& (127 : Int32))), .unset, .unset, .unset, .unset, .unset, .unset] [])) _
    refine XS.iload X0.here hx rfl (hb hby at_29) rfl ?_
    show Steps p.tables e below (s₁.setTop (mkF m 31 #[.val (.long q1), .second, .val (.long q2), .second, .val (.int p3), .val (.int p4), .val (.int p5), .val (.int p6), .val (.int (own_H p6)), .val (.int (2 : Int32)), .val (.int (p3 &&& (127 : Int32))), .unset, .unset, .unset, .unset, .unset, .unset] [(.int p4)])) _
    refine XS.bipush X0.here hx rfl (hb hby at_31) ?_
    show Steps p.tables e below (s₁.setTop (mkF m 33 #[.val (.long q1), .second, .val (.long q2), .second, .val (.int p3), .val (.int p4), .val (.int p5), .val (.int p6), .val (.int (own_H p6)), .val (.int (2 : Int32)), .val (.int (p3 &&& (127 : Int32))), .unset, .unset, .unset, .unset, .unset, .unset] [(.int (127 : Int32)), (.int p4)])) _
    refine XS.iand X0.here hx rfl (hb hby at_33) rfl ?_
    show Steps p.tables e below (s₁.setTop (mkF m 34 #[.val (.long q1), .second, .val (.long q2), .second, .val (.int p3), .val (.int p4), .val (.int p5), .val (.int p6), .val (.int (own_H p6)), .val (.int (2 : Int32)), .val (.int (p3 &&& (127 : Int32))), .unset, .unset, .unset, .unset, .unset, .unset] [(.int (p4 &&& (127 : Int32)))])) _
    refine XS.istore X0.here hx rfl (hb hby at_34) rfl (l' := #[.val (.long q1), .second, .val (.long q2), .second, .val (.int p3), .val (.int p4), .val (.int p5), .val (.int p6), .val (.int (own_H p6)), .val (.int (2 : Int32)), .val (.int (p3 &&& (127 : Int32))), .val (.int (p4 &&& (127 : Int32))), .unset, .unset, .unset, .unset, .unset]) rfl ?_
    show Steps p.tables e below (s₁.setTop (mkF m 36 #[.val (.long q1), .second, .val (.long q2), .second, .val (.int p3), .val (.int p4), .val (.int p5), .val (.int p6), .val (.int (own_H p6)), .val (.int (2 : Int32)), .val (.int (p3 &&& (127 : Int32))), .val (.int (p4 &&& (127 : Int32))), .unset, .unset, .unset, .unset, .unset] [])) _
    refine XS.iload X0.here hx rfl (hb hby at_36) rfl ?_
    show Steps p.tables e below (s₁.setTop (mkF m 38 #[.val (.long q1), .second, .val (.long q2), .second, .val (.int p3), .val (.int p4), .val (.int p5), .val (.int p6), .val (.int (own_H p6)), .val (.int (2 : Int32)), .val (.int (p3 &&& (127 : Int32))), .val (.int (p4 &&& (127 : Int32))), .unset, .unset, .unset, .unset, .unset] [(.int p5)])) _
    refine XS.bipush X0.here hx rfl (hb hby at_38) ?_
    show Steps p.tables e below (s₁.setTop (mkF m 40 #[.val (.long q1), .second, .val (.long q2), .second, .val (.int p3), .val (.int p4), .val (.int p5), .val (.int p6), .val (.int (own_H p6)), .val (.int (2 : Int32)), .val (.int (p3 &&& (127 : Int32))), .val (.int (p4 &&& (127 : Int32))), .unset, .unset, .unset, .unset, .unset] [(.int (127 : Int32)), (.int p5)])) _
    refine XS.iand X0.here hx rfl (hb hby at_40) rfl ?_
    show Steps p.tables e below (s₁.setTop (mkF m 41 #[.val (.long q1), .second, .val (.long q2), .second, .val (.int p3), .val (.int p4), .val (.int p5), .val (.int p6), .val (.int (own_H p6)), .val (.int (2 : Int32)), .val (.int (p3 &&& (127 : Int32))), .val (.int (p4 &&& (127 : Int32))), .unset, .unset, .unset, .unset, .unset] [(.int (p5 &&& (127 : Int32)))])) _
    refine XS.istore X0.here hx rfl (hb hby at_41) rfl (l' := #[.val (.long q1), .second, .val (.long q2), .second, .val (.int p3), .val (.int p4), .val (.int p5), .val (.int p6), .val (.int (own_H p6)), .val (.int (2 : Int32)), .val (.int (p3 &&& (127 : Int32))), .val (.int (p4 &&& (127 : Int32))), .val (.int (p5 &&& (127 : Int32))), .unset, .unset, .unset, .unset]) rfl ?_
    show Steps p.tables e below (s₁.setTop (mkF m 43 #[.val (.long q1), .second, .val (.long q2), .second, .val (.int p3), .val (.int p4), .val (.int p5), .val (.int p6), .val (.int (own_H p6)), .val (.int (2 : Int32)), .val (.int (p3 &&& (127 : Int32))), .val (.int (p4 &&& (127 : Int32))), .val (.int (p5 &&& (127 : Int32))), .unset, .unset, .unset, .unset] [])) _
    refine XS.iload X0.here hx rfl (hb hby at_43) rfl ?_
    show Steps p.tables e below (s₁.setTop (mkF m 45 #[.val (.long q1), .second, .val (.long q2), .second, .val (.int p3), .val (.int p4), .val (.int p5), .val (.int p6), .val (.int (own_H p6)), .val (.int (2 : Int32)), .val (.int (p3 &&& (127 : Int32))), .val (.int (p4 &&& (127 : Int32))), .val (.int (p5 &&& (127 : Int32))), .unset, .unset, .unset, .unset] [(.int (2 : Int32))])) _
    refine st1 _ ?_
    show Steps p.tables e below (T1.setTop (mkF m 47 #[.val (.long q1), .second, .val (.long q2), .second, .val (.int p3), .val (.int p4), .val (.int p5), .val (.int p6), .val (.int (own_H p6)), .val (.int (2 : Int32)), .val (.int (p3 &&& (127 : Int32))), .val (.int (p4 &&& (127 : Int32))), .val (.int (p5 &&& (127 : Int32))), .unset, .unset, .unset, .unset] [(.ref b1)])) _
    refine XS.astore X1.here hx rfl (hb hby at_47) rfl rfl (l' := #[.val (.long q1), .second, .val (.long q2), .second, .val (.int p3), .val (.int p4), .val (.int p5), .val (.int p6), .val (.int (own_H p6)), .val (.int (2 : Int32)), .val (.int (p3 &&& (127 : Int32))), .val (.int (p4 &&& (127 : Int32))), .val (.int (p5 &&& (127 : Int32))), .val (.ref b1), .unset, .unset, .unset]) rfl ?_
    show Steps p.tables e below (T1.setTop (mkF m 49 #[.val (.long q1), .second, .val (.long q2), .second, .val (.int p3), .val (.int p4), .val (.int p5), .val (.int p6), .val (.int (own_H p6)), .val (.int (2 : Int32)), .val (.int (p3 &&& (127 : Int32))), .val (.int (p4 &&& (127 : Int32))), .val (.int (p5 &&& (127 : Int32))), .val (.ref b1), .unset, .unset, .unset] [])) _
    refine XS.iload X1.here hx rfl (hb hby at_49) rfl ?_
    show Steps p.tables e below (T1.setTop (mkF m 51 #[.val (.long q1), .second, .val (.long q2), .second, .val (.int p3), .val (.int p4), .val (.int p5), .val (.int p6), .val (.int (own_H p6)), .val (.int (2 : Int32)), .val (.int (p3 &&& (127 : Int32))), .val (.int (p4 &&& (127 : Int32))), .val (.int (p5 &&& (127 : Int32))), .val (.ref b1), .unset, .unset, .unset] [(.int (2 : Int32))])) _
    refine XS.iconst X1.here hx rfl (hb hby at_51) ?_
    show Steps p.tables e below (T1.setTop (mkF m 52 #[.val (.long q1), .second, .val (.long q2), .second, .val (.int p3), .val (.int p4), .val (.int p5), .val (.int p6), .val (.int (own_H p6)), .val (.int (2 : Int32)), .val (.int (p3 &&& (127 : Int32))), .val (.int (p4 &&& (127 : Int32))), .val (.int (p5 &&& (127 : Int32))), .val (.ref b1), .unset, .unset, .unset] [(.int (1 : Int32)), (.int (2 : Int32))])) _
    refine XS.icmpNo X1.here hx rfl (hb hby at_52) rfl (flt (by decide)).1 ?_
    show Steps p.tables e below (T1.setTop (mkF m 55 #[.val (.long q1), .second, .val (.long q2), .second, .val (.int p3), .val (.int p4), .val (.int p5), .val (.int p6), .val (.int (own_H p6)), .val (.int (2 : Int32)), .val (.int (p3 &&& (127 : Int32))), .val (.int (p4 &&& (127 : Int32))), .val (.int (p5 &&& (127 : Int32))), .val (.ref b1), .unset, .unset, .unset] [])) _
    refine XS.aload X1.here hx rfl (hb hby at_55) rfl rfl ?_
    show Steps p.tables e below (T1.setTop (mkF m 57 #[.val (.long q1), .second, .val (.long q2), .second, .val (.int p3), .val (.int p4), .val (.int p5), .val (.int p6), .val (.int (own_H p6)), .val (.int (2 : Int32)), .val (.int (p3 &&& (127 : Int32))), .val (.int (p4 &&& (127 : Int32))), .val (.int (p5 &&& (127 : Int32))), .val (.ref b1), .unset, .unset, .unset] [(.ref b1)])) _
    refine XS.iconst X1.here hx rfl (hb hby at_57) ?_
    show Steps p.tables e below (T1.setTop (mkF m 58 #[.val (.long q1), .second, .val (.long q2), .second, .val (.int p3), .val (.int p4), .val (.int p5), .val (.int p6), .val (.int (own_H p6)), .val (.int (2 : Int32)), .val (.int (p3 &&& (127 : Int32))), .val (.int (p4 &&& (127 : Int32))), .val (.int (p5 &&& (127 : Int32))), .val (.ref b1), .unset, .unset, .unset] [(.int (0 : Int32)), (.ref b1)])) _
    refine XS.iload X1.here hx rfl (hb hby at_58) rfl ?_
    show Steps p.tables e below (T1.setTop (mkF m 60 #[.val (.long q1), .second, .val (.long q2), .second, .val (.int p3), .val (.int p4), .val (.int p5), .val (.int p6), .val (.int (own_H p6)), .val (.int (2 : Int32)), .val (.int (p3 &&& (127 : Int32))), .val (.int (p4 &&& (127 : Int32))), .val (.int (p5 &&& (127 : Int32))), .val (.ref b1), .unset, .unset, .unset] [(.int (p3 &&& (127 : Int32))), (.int (0 : Int32)), (.ref b1)])) _
    refine st2 _ ?_
    show Steps p.tables e below (T2.setTop (mkF m 61 #[.val (.long q1), .second, .val (.long q2), .second, .val (.int p3), .val (.int p4), .val (.int p5), .val (.int p6), .val (.int (own_H p6)), .val (.int (2 : Int32)), .val (.int (p3 &&& (127 : Int32))), .val (.int (p4 &&& (127 : Int32))), .val (.int (p5 &&& (127 : Int32))), .val (.ref b1), .unset, .unset, .unset] [])) _
    refine XS.iload X2.here hx rfl (hb hby at_61) rfl ?_
    show Steps p.tables e below (T2.setTop (mkF m 63 #[.val (.long q1), .second, .val (.long q2), .second, .val (.int p3), .val (.int p4), .val (.int p5), .val (.int p6), .val (.int (own_H p6)), .val (.int (2 : Int32)), .val (.int (p3 &&& (127 : Int32))), .val (.int (p4 &&& (127 : Int32))), .val (.int (p5 &&& (127 : Int32))), .val (.ref b1), .unset, .unset, .unset] [(.int (2 : Int32))])) _
    refine XS.iconst X2.here hx rfl (hb hby at_63) ?_
    show Steps p.tables e below (T2.setTop (mkF m 64 #[.val (.long q1), .second, .val (.long q2), .second, .val (.int p3), .val (.int p4), .val (.int p5), .val (.int p6), .val (.int (own_H p6)), .val (.int (2 : Int32)), .val (.int (p3 &&& (127 : Int32))), .val (.int (p4 &&& (127 : Int32))), .val (.int (p5 &&& (127 : Int32))), .val (.ref b1), .unset, .unset, .unset] [(.int (2 : Int32)), (.int (2 : Int32))])) _
    refine XS.icmpNo X2.here hx rfl (hb hby at_64) rfl (flt (by decide)).1 ?_
    show Steps p.tables e below (T2.setTop (mkF m 67 #[.val (.long q1), .second, .val (.long q2), .second, .val (.int p3), .val (.int p4), .val (.int p5), .val (.int p6), .val (.int (own_H p6)), .val (.int (2 : Int32)), .val (.int (p3 &&& (127 : Int32))), .val (.int (p4 &&& (127 : Int32))), .val (.int (p5 &&& (127 : Int32))), .val (.ref b1), .unset, .unset, .unset] [])) _
    refine XS.aload X2.here hx rfl (hb hby at_67) rfl rfl ?_
    show Steps p.tables e below (T2.setTop (mkF m 69 #[.val (.long q1), .second, .val (.long q2), .second, .val (.int p3), .val (.int p4), .val (.int p5), .val (.int p6), .val (.int (own_H p6)), .val (.int (2 : Int32)), .val (.int (p3 &&& (127 : Int32))), .val (.int (p4 &&& (127 : Int32))), .val (.int (p5 &&& (127 : Int32))), .val (.ref b1), .unset, .unset, .unset] [(.ref b1)])) _
    refine XS.iconst X2.here hx rfl (hb hby at_69) ?_
    show Steps p.tables e below (T2.setTop (mkF m 70 #[.val (.long q1), .second, .val (.long q2), .second, .val (.int p3), .val (.int p4), .val (.int p5), .val (.int p6), .val (.int (own_H p6)), .val (.int (2 : Int32)), .val (.int (p3 &&& (127 : Int32))), .val (.int (p4 &&& (127 : Int32))), .val (.int (p5 &&& (127 : Int32))), .val (.ref b1), .unset, .unset, .unset] [(.int (1 : Int32)), (.ref b1)])) _
    refine XS.iload X2.here hx rfl (hb hby at_70) rfl ?_
    show Steps p.tables e below (T2.setTop (mkF m 72 #[.val (.long q1), .second, .val (.long q2), .second, .val (.int p3), .val (.int p4), .val (.int p5), .val (.int p6), .val (.int (own_H p6)), .val (.int (2 : Int32)), .val (.int (p3 &&& (127 : Int32))), .val (.int (p4 &&& (127 : Int32))), .val (.int (p5 &&& (127 : Int32))), .val (.ref b1), .unset, .unset, .unset] [(.int (p4 &&& (127 : Int32))), (.int (1 : Int32)), (.ref b1)])) _
    refine st3 _ ?_
    show Steps p.tables e below (T3.setTop (mkF m 73 #[.val (.long q1), .second, .val (.long q2), .second, .val (.int p3), .val (.int p4), .val (.int p5), .val (.int p6), .val (.int (own_H p6)), .val (.int (2 : Int32)), .val (.int (p3 &&& (127 : Int32))), .val (.int (p4 &&& (127 : Int32))), .val (.int (p5 &&& (127 : Int32))), .val (.ref b1), .unset, .unset, .unset] [])) _
    refine XS.iload X3.here hx rfl (hb hby at_73) rfl ?_
    show Steps p.tables e below (T3.setTop (mkF m 75 #[.val (.long q1), .second, .val (.long q2), .second, .val (.int p3), .val (.int p4), .val (.int p5), .val (.int p6), .val (.int (own_H p6)), .val (.int (2 : Int32)), .val (.int (p3 &&& (127 : Int32))), .val (.int (p4 &&& (127 : Int32))), .val (.int (p5 &&& (127 : Int32))), .val (.ref b1), .unset, .unset, .unset] [(.int (2 : Int32))])) _
    refine XS.iconst X3.here hx rfl (hb hby at_75) ?_
    show Steps p.tables e below (T3.setTop (mkF m 76 #[.val (.long q1), .second, .val (.long q2), .second, .val (.int p3), .val (.int p4), .val (.int p5), .val (.int p6), .val (.int (own_H p6)), .val (.int (2 : Int32)), .val (.int (p3 &&& (127 : Int32))), .val (.int (p4 &&& (127 : Int32))), .val (.int (p5 &&& (127 : Int32))), .val (.ref b1), .unset, .unset, .unset] [(.int (3 : Int32)), (.int (2 : Int32))])) _
    refine XS.icmpYes X3.here hx rfl (pc0 := 76) (pc' := 85) rfl (hb hby at_76) rfl (tlt (by decide)).1 (by decide) (by decide) ?_
    show Steps p.tables e below (T3.setTop (mkF m 85 #[.val (.long q1), .second, .val (.long q2), .second, .val (.int p3), .val (.int p4), .val (.int p5), .val (.int p6), .val (.int (own_H p6)), .val (.int (2 : Int32)), .val (.int (p3 &&& (127 : Int32))), .val (.int (p4 &&& (127 : Int32))), .val (.int (p5 &&& (127 : Int32))), .val (.ref b1), .unset, .unset, .unset] [])) _
    refine XS.iconst X3.here hx rfl (hb hby at_85) ?_
    show Steps p.tables e below (T3.setTop (mkF m 86 #[.val (.long q1), .second, .val (.long q2), .second, .val (.int p3), .val (.int p4), .val (.int p5), .val (.int p6), .val (.int (own_H p6)), .val (.int (2 : Int32)), .val (.int (p3 &&& (127 : Int32))), .val (.int (p4 &&& (127 : Int32))), .val (.int (p5 &&& (127 : Int32))), .val (.ref b1), .unset, .unset, .unset] [(.int (2 : Int32))])) _
    refine st4 _ ?_
    show Steps p.tables e below (T4.setTop (mkF m 88 #[.val (.long q1), .second, .val (.long q2), .second, .val (.int p3), .val (.int p4), .val (.int p5), .val (.int p6), .val (.int (own_H p6)), .val (.int (2 : Int32)), .val (.int (p3 &&& (127 : Int32))), .val (.int (p4 &&& (127 : Int32))), .val (.int (p5 &&& (127 : Int32))), .val (.ref b1), .unset, .unset, .unset] [(.ref b4)])) _
    refine XS.dup X4.here hx rfl (hb hby at_88) rfl rfl ?_
    show Steps p.tables e below (T4.setTop (mkF m 89 #[.val (.long q1), .second, .val (.long q2), .second, .val (.int p3), .val (.int p4), .val (.int p5), .val (.int p6), .val (.int (own_H p6)), .val (.int (2 : Int32)), .val (.int (p3 &&& (127 : Int32))), .val (.int (p4 &&& (127 : Int32))), .val (.int (p5 &&& (127 : Int32))), .val (.ref b1), .unset, .unset, .unset] [(.ref b4), (.ref b4)])) _
    refine XS.iconst X4.here hx rfl (hb hby at_89) ?_
    show Steps p.tables e below (T4.setTop (mkF m 90 #[.val (.long q1), .second, .val (.long q2), .second, .val (.int p3), .val (.int p4), .val (.int p5), .val (.int p6), .val (.int (own_H p6)), .val (.int (2 : Int32)), .val (.int (p3 &&& (127 : Int32))), .val (.int (p4 &&& (127 : Int32))), .val (.int (p5 &&& (127 : Int32))), .val (.ref b1), .unset, .unset, .unset] [(.int (0 : Int32)), (.ref b4), (.ref b4)])) _
    refine XS.lloadN X4.here hx rfl (hb hby at_90) rfl ?_
    show Steps p.tables e below (T4.setTop (mkF m 91 #[.val (.long q1), .second, .val (.long q2), .second, .val (.int p3), .val (.int p4), .val (.int p5), .val (.int p6), .val (.int (own_H p6)), .val (.int (2 : Int32)), .val (.int (p3 &&& (127 : Int32))), .val (.int (p4 &&& (127 : Int32))), .val (.int (p5 &&& (127 : Int32))), .val (.ref b1), .unset, .unset, .unset] [(.long q1), (.int (0 : Int32)), (.ref b4), (.ref b4)])) _
    refine st5 _ ?_
    show Steps p.tables e below (T5.setTop (mkF m 92 #[.val (.long q1), .second, .val (.long q2), .second, .val (.int p3), .val (.int p4), .val (.int p5), .val (.int p6), .val (.int (own_H p6)), .val (.int (2 : Int32)), .val (.int (p3 &&& (127 : Int32))), .val (.int (p4 &&& (127 : Int32))), .val (.int (p5 &&& (127 : Int32))), .val (.ref b1), .unset, .unset, .unset] [(.ref b4)])) _
    refine XS.dup X5.here hx rfl (hb hby at_92) rfl rfl ?_
    show Steps p.tables e below (T5.setTop (mkF m 93 #[.val (.long q1), .second, .val (.long q2), .second, .val (.int p3), .val (.int p4), .val (.int p5), .val (.int p6), .val (.int (own_H p6)), .val (.int (2 : Int32)), .val (.int (p3 &&& (127 : Int32))), .val (.int (p4 &&& (127 : Int32))), .val (.int (p5 &&& (127 : Int32))), .val (.ref b1), .unset, .unset, .unset] [(.ref b4), (.ref b4)])) _
    refine XS.iconst X5.here hx rfl (hb hby at_93) ?_
    show Steps p.tables e below (T5.setTop (mkF m 94 #[.val (.long q1), .second, .val (.long q2), .second, .val (.int p3), .val (.int p4), .val (.int p5), .val (.int p6), .val (.int (own_H p6)), .val (.int (2 : Int32)), .val (.int (p3 &&& (127 : Int32))), .val (.int (p4 &&& (127 : Int32))), .val (.int (p5 &&& (127 : Int32))), .val (.ref b1), .unset, .unset, .unset] [(.int (1 : Int32)), (.ref b4), (.ref b4)])) _
    refine XS.lloadN X5.here hx rfl (hb hby at_94) rfl ?_
    show Steps p.tables e below (T5.setTop (mkF m 95 #[.val (.long q1), .second, .val (.long q2), .second, .val (.int p3), .val (.int p4), .val (.int p5), .val (.int p6), .val (.int (own_H p6)), .val (.int (2 : Int32)), .val (.int (p3 &&& (127 : Int32))), .val (.int (p4 &&& (127 : Int32))), .val (.int (p5 &&& (127 : Int32))), .val (.ref b1), .unset, .unset, .unset] [(.long q2), (.int (1 : Int32)), (.ref b4), (.ref b4)])) _
    refine st6 _ ?_
    show Steps p.tables e below (T6.setTop (mkF m 96 #[.val (.long q1), .second, .val (.long q2), .second, .val (.int p3), .val (.int p4), .val (.int p5), .val (.int p6), .val (.int (own_H p6)), .val (.int (2 : Int32)), .val (.int (p3 &&& (127 : Int32))), .val (.int (p4 &&& (127 : Int32))), .val (.int (p5 &&& (127 : Int32))), .val (.ref b1), .unset, .unset, .unset] [(.ref b4)])) _
    refine XS.astore X6.here hx rfl (hb hby at_96) rfl rfl (l' := #[.val (.long q1), .second, .val (.long q2), .second, .val (.int p3), .val (.int p4), .val (.int p5), .val (.int p6), .val (.int (own_H p6)), .val (.int (2 : Int32)), .val (.int (p3 &&& (127 : Int32))), .val (.int (p4 &&& (127 : Int32))), .val (.int (p5 &&& (127 : Int32))), .val (.ref b1), .val (.ref b4), .unset, .unset]) rfl ?_
    show Steps p.tables e below (T6.setTop (mkF m 98 #[.val (.long q1), .second, .val (.long q2), .second, .val (.int p3), .val (.int p4), .val (.int p5), .val (.int p6), .val (.int (own_H p6)), .val (.int (2 : Int32)), .val (.int (p3 &&& (127 : Int32))), .val (.int (p4 &&& (127 : Int32))), .val (.int (p5 &&& (127 : Int32))), .val (.ref b1), .val (.ref b4), .unset, .unset] [])) _
    refine XS.aload X6.here hx rfl (hb hby at_98) rfl rfl ?_
    show Steps p.tables e below (T6.setTop (mkF m 100 #[.val (.long q1), .second, .val (.long q2), .second, .val (.int p3), .val (.int p4), .val (.int p5), .val (.int p6), .val (.int (own_H p6)), .val (.int (2 : Int32)), .val (.int (p3 &&& (127 : Int32))), .val (.int (p4 &&& (127 : Int32))), .val (.int (p5 &&& (127 : Int32))), .val (.ref b1), .val (.ref b4), .unset, .unset] [(.ref b1)])) _
    refine XS.aload X6.here hx rfl (hb hby at_100) rfl rfl ?_
    show Steps p.tables e below (T6.setTop (mkF m 102 #[.val (.long q1), .second, .val (.long q2), .second, .val (.int p3), .val (.int p4), .val (.int p5), .val (.int p6), .val (.int (own_H p6)), .val (.int (2 : Int32)), .val (.int (p3 &&& (127 : Int32))), .val (.int (p4 &&& (127 : Int32))), .val (.int (p5 &&& (127 : Int32))), .val (.ref b1), .val (.ref b4), .unset, .unset] [(.ref b4), (.ref b1)])) _
    refine XS.iload X6.here hx rfl (hb hby at_102) rfl ?_
    show Steps p.tables e below (T6.setTop (mkF m 104 #[.val (.long q1), .second, .val (.long q2), .second, .val (.int p3), .val (.int p4), .val (.int p5), .val (.int p6), .val (.int (own_H p6)), .val (.int (2 : Int32)), .val (.int (p3 &&& (127 : Int32))), .val (.int (p4 &&& (127 : Int32))), .val (.int (p5 &&& (127 : Int32))), .val (.ref b1), .val (.ref b4), .unset, .unset] [(.int (own_H p6)), (.ref b4), (.ref b1)])) _
    refine st7 _ ?_
    show Steps p.tables e below (T7.setTop (mkF m 107 #[.val (.long q1), .second, .val (.long q2), .second, .val (.int p3), .val (.int p4), .val (.int p5), .val (.int p6), .val (.int (own_H p6)), .val (.int (2 : Int32)), .val (.int (p3 &&& (127 : Int32))), .val (.int (p4 &&& (127 : Int32))), .val (.int (p5 &&& (127 : Int32))), .val (.ref b1), .val (.ref b4), .unset, .unset] [(.int (own_fa (own_H p6) q1 q2 [(p3 &&& (127 : Int32)), (p4 &&& (127 : Int32))]))])) _
    refine XS.istore X7.here hx rfl (hb hby at_107) rfl (l' := #[.val (.long q1), .second, .val (.long q2), .second, .val (.int p3), .val (.int p4), .val (.int p5), .val (.int p6), .val (.int (own_H p6)), .val (.int (2 : Int32)), .val (.int (p3 &&& (127 : Int32))), .val (.int (p4 &&& (127 : Int32))), .val (.int (p5 &&& (127 : Int32))), .val (.ref b1), .val (.ref b4), .val (.int (own_fa (own_H p6) q1 q2 [(p3 &&& (127 : Int32)), (p4 &&& (127 : Int32))])), .unset]) rfl ?_
    show Steps p.tables e below (T7.setTop (mkF m 109 #[.val (.long q1), .second, .val (.long q2), .second, .val (.int p3), .val (.int p4), .val (.int p5), .val (.int p6), .val (.int (own_H p6)), .val (.int (2 : Int32)), .val (.int (p3 &&& (127 : Int32))), .val (.int (p4 &&& (127 : Int32))), .val (.int (p5 &&& (127 : Int32))), .val (.ref b1), .val (.ref b4), .val (.int (own_fa (own_H p6) q1 q2 [(p3 &&& (127 : Int32)), (p4 &&& (127 : Int32))])), .unset] [])) _
    refine XS.iconst X7.here hx rfl (hb hby at_109) ?_
    show Steps p.tables e below (T7.setTop (mkF m 110 #[.val (.long q1), .second, .val (.long q2), .second, .val (.int p3), .val (.int p4), .val (.int p5), .val (.int p6), .val (.int (own_H p6)), .val (.int (2 : Int32)), .val (.int (p3 &&& (127 : Int32))), .val (.int (p4 &&& (127 : Int32))), .val (.int (p5 &&& (127 : Int32))), .val (.ref b1), .val (.ref b4), .val (.int (own_fa (own_H p6) q1 q2 [(p3 &&& (127 : Int32)), (p4 &&& (127 : Int32))])), .unset] [(.int (-1 : Int32))])) _
    refine XS.istore X7.here hx rfl (hb hby at_110) rfl (l' := #[.val (.long q1), .second, .val (.long q2), .second, .val (.int p3), .val (.int p4), .val (.int p5), .val (.int p6), .val (.int (own_H p6)), .val (.int (2 : Int32)), .val (.int (p3 &&& (127 : Int32))), .val (.int (p4 &&& (127 : Int32))), .val (.int (p5 &&& (127 : Int32))), .val (.ref b1), .val (.ref b4), .val (.int (own_fa (own_H p6) q1 q2 [(p3 &&& (127 : Int32)), (p4 &&& (127 : Int32))])), .val (.int (-1 : Int32))]) rfl ?_
    show Steps p.tables e below (T7.setTop (mkF m 112 #[.val (.long q1), .second, .val (.long q2), .second, .val (.int p3), .val (.int p4), .val (.int p5), .val (.int p6), .val (.int (own_H p6)), .val (.int (2 : Int32)), .val (.int (p3 &&& (127 : Int32))), .val (.int (p4 &&& (127 : Int32))), .val (.int (p5 &&& (127 : Int32))), .val (.ref b1), .val (.ref b4), .val (.int (own_fa (own_H p6) q1 q2 [(p3 &&& (127 : Int32)), (p4 &&& (127 : Int32))])), .val (.int (-1 : Int32))] [])) _
    refine XS.iload X7.here hx rfl (hb hby at_112) rfl ?_
    show Steps p.tables e below (T7.setTop (mkF m 114 #[.val (.long q1), .second, .val (.long q2), .second, .val (.int p3), .val (.int p4), .val (.int p5), .val (.int p6), .val (.int (own_H p6)), .val (.int (2 : Int32)), .val (.int (p3 &&& (127 : Int32))), .val (.int (p4 &&& (127 : Int32))), .val (.int (p5 &&& (127 : Int32))), .val (.ref b1), .val (.ref b4), .val (.int (own_fa (own_H p6) q1 q2 [(p3 &&& (127 : Int32)), (p4 &&& (127 : Int32))])), .val (.int (-1 : Int32))] [(.int (2 : Int32))])) _
    refine XS.iconst X7.here hx rfl (hb hby at_114) ?_
    show Steps p.tables e below (T7.setTop (mkF m 115 #[.val (.long q1), .second, .val (.long q2), .second, .val (.int p3), .val (.int p4), .val (.int p5), .val (.int p6), .val (.int (own_H p6)), .val (.int (2 : Int32)), .val (.int (p3 &&& (127 : Int32))), .val (.int (p4 &&& (127 : Int32))), .val (.int (p5 &&& (127 : Int32))), .val (.ref b1), .val (.ref b4), .val (.int (own_fa (own_H p6) q1 q2 [(p3 &&& (127 : Int32)), (p4 &&& (127 : Int32))])), .val (.int (-1 : Int32))] [(.int (3 : Int32)), (.int (2 : Int32))])) _
    refine XS.icmpYes X7.here hx rfl (pc0 := 115) (pc' := 134) rfl (hb hby at_115) rfl (tlt (by decide)).1 (by decide) (by decide) ?_
    show Steps p.tables e below (T7.setTop (mkF m 134 #[.val (.long q1), .second, .val (.long q2), .second, .val (.int p3), .val (.int p4), .val (.int p5), .val (.int p6), .val (.int (own_H p6)), .val (.int (2 : Int32)), .val (.int (p3 &&& (127 : Int32))), .val (.int (p4 &&& (127 : Int32))), .val (.int (p5 &&& (127 : Int32))), .val (.ref b1), .val (.ref b4), .val (.int (own_fa (own_H p6) q1 q2 [(p3 &&& (127 : Int32)), (p4 &&& (127 : Int32))])), .val (.int (-1 : Int32))] [])) _
    refine XS.iload X7.here hx rfl (hb hby at_134) rfl ?_
    show Steps p.tables e below (T7.setTop (mkF m 136 #[.val (.long q1), .second, .val (.long q2), .second, .val (.int p3), .val (.int p4), .val (.int p5), .val (.int p6), .val (.int (own_H p6)), .val (.int (2 : Int32)), .val (.int (p3 &&& (127 : Int32))), .val (.int (p4 &&& (127 : Int32))), .val (.int (p5 &&& (127 : Int32))), .val (.ref b1), .val (.ref b4), .val (.int (own_fa (own_H p6) q1 q2 [(p3 &&& (127 : Int32)), (p4 &&& (127 : Int32))])), .val (.int (-1 : Int32))] [(.int (2 : Int32))])) _
    refine XS.iconst X7.here hx rfl (hb hby at_136) ?_
    show Steps p.tables e below (T7.setTop (mkF m 137 #[.val (.long q1), .second, .val (.long q2), .second, .val (.int p3), .val (.int p4), .val (.int p5), .val (.int p6), .val (.int (own_H p6)), .val (.int (2 : Int32)), .val (.int (p3 &&& (127 : Int32))), .val (.int (p4 &&& (127 : Int32))), .val (.int (p5 &&& (127 : Int32))), .val (.ref b1), .val (.ref b4), .val (.int (own_fa (own_H p6) q1 q2 [(p3 &&& (127 : Int32)), (p4 &&& (127 : Int32))])), .val (.int (-1 : Int32))] [(.int (2 : Int32)), (.int (2 : Int32))])) _
    refine XS.icmpNo X7.here hx rfl (hb hby at_137) rfl (flt (by decide)).1 ?_
    show Steps p.tables e below (T7.setTop (mkF m 140 #[.val (.long q1), .second, .val (.long q2), .second, .val (.int p3), .val (.int p4), .val (.int p5), .val (.int p6), .val (.int (own_H p6)), .val (.int (2 : Int32)), .val (.int (p3 &&& (127 : Int32))), .val (.int (p4 &&& (127 : Int32))), .val (.int (p5 &&& (127 : Int32))), .val (.ref b1), .val (.ref b4), .val (.int (own_fa (own_H p6) q1 q2 [(p3 &&& (127 : Int32)), (p4 &&& (127 : Int32))])), .val (.int (-1 : Int32))] [])) _
    refine XS.lloadN X7.here hx rfl (hb hby at_140) rfl ?_
    show Steps p.tables e below (T7.setTop (mkF m 141 #[.val (.long q1), .second, .val (.long q2), .second, .val (.int p3), .val (.int p4), .val (.int p5), .val (.int p6), .val (.int (own_H p6)), .val (.int (2 : Int32)), .val (.int (p3 &&& (127 : Int32))), .val (.int (p4 &&& (127 : Int32))), .val (.int (p5 &&& (127 : Int32))), .val (.ref b1), .val (.ref b4), .val (.int (own_fa (own_H p6) q1 q2 [(p3 &&& (127 : Int32)), (p4 &&& (127 : Int32))])), .val (.int (-1 : Int32))] [(.long q1)])) _
    refine XS.lloadN X7.here hx rfl (hb hby at_141) rfl ?_
    show Steps p.tables e below (T7.setTop (mkF m 142 #[.val (.long q1), .second, .val (.long q2), .second, .val (.int p3), .val (.int p4), .val (.int p5), .val (.int p6), .val (.int (own_H p6)), .val (.int (2 : Int32)), .val (.int (p3 &&& (127 : Int32))), .val (.int (p4 &&& (127 : Int32))), .val (.int (p5 &&& (127 : Int32))), .val (.ref b1), .val (.ref b4), .val (.int (own_fa (own_H p6) q1 q2 [(p3 &&& (127 : Int32)), (p4 &&& (127 : Int32))])), .val (.int (-1 : Int32))] [(.long q2), (.long q1)])) _
    refine XS.iload X7.here hx rfl (hb hby at_142) rfl ?_
    show Steps p.tables e below (T7.setTop (mkF m 144 #[.val (.long q1), .second, .val (.long q2), .second, .val (.int p3), .val (.int p4), .val (.int p5), .val (.int p6), .val (.int (own_H p6)), .val (.int (2 : Int32)), .val (.int (p3 &&& (127 : Int32))), .val (.int (p4 &&& (127 : Int32))), .val (.int (p5 &&& (127 : Int32))), .val (.ref b1), .val (.ref b4), .val (.int (own_fa (own_H p6) q1 q2 [(p3 &&& (127 : Int32)), (p4 &&& (127 : Int32))])), .val (.int (-1 : Int32))] [(.int (p4 &&& (127 : Int32))), (.long q2), (.long q1)])) _
    refine st8 _ ?_
    show Steps p.tables e below (T8.setTop (mkF m 147 #[.val (.long q1), .second, .val (.long q2), .second, .val (.int p3), .val (.int p4), .val (.int p5), .val (.int p6), .val (.int (own_H p6)), .val (.int (2 : Int32)), .val (.int (p3 &&& (127 : Int32))), .val (.int (p4 &&& (127 : Int32))), .val (.int (p5 &&& (127 : Int32))), .val (.ref b1), .val (.ref b4), .val (.int (own_fa (own_H p6) q1 q2 [(p3 &&& (127 : Int32)), (p4 &&& (127 : Int32))])), .val (.int (-1 : Int32))] [(.int (own_hold q1 q2 (p4 &&& (127 : Int32))))])) _
    refine j1 _ ?_
    show Steps p.tables e below (T8.setTop (mkF m 156 #[.val (.long q1), .second, .val (.long q2), .second, .val (.int p3), .val (.int p4), .val (.int p5), .val (.int p6), .val (.int (own_H p6)), .val (.int (2 : Int32)), .val (.int (p3 &&& (127 : Int32))), .val (.int (p4 &&& (127 : Int32))), .val (.int (p5 &&& (127 : Int32))), .val (.ref b1), .val (.ref b4), .val (.int (own_fa (own_H p6) q1 q2 [(p3 &&& (127 : Int32)), (p4 &&& (127 : Int32))])), .val (.int (own_ix (own_H p6) q1 q2 (p4 &&& (127 : Int32)) (-1 : Int32)))] [])) _
    refine XS.iload X8.here hx rfl (hb hby at_156) rfl ?_
    show Steps p.tables e below (T8.setTop (mkF m 158 #[.val (.long q1), .second, .val (.long q2), .second, .val (.int p3), .val (.int p4), .val (.int p5), .val (.int p6), .val (.int (own_H p6)), .val (.int (2 : Int32)), .val (.int (p3 &&& (127 : Int32))), .val (.int (p4 &&& (127 : Int32))), .val (.int (p5 &&& (127 : Int32))), .val (.ref b1), .val (.ref b4), .val (.int (own_fa (own_H p6) q1 q2 [(p3 &&& (127 : Int32)), (p4 &&& (127 : Int32))])), .val (.int (own_ix (own_H p6) q1 q2 (p4 &&& (127 : Int32)) (-1 : Int32)))] [(.int (2 : Int32))])) _
    refine XS.iconst X8.here hx rfl (hb hby at_158) ?_
    show Steps p.tables e below (T8.setTop (mkF m 159 #[.val (.long q1), .second, .val (.long q2), .second, .val (.int p3), .val (.int p4), .val (.int p5), .val (.int p6), .val (.int (own_H p6)), .val (.int (2 : Int32)), .val (.int (p3 &&& (127 : Int32))), .val (.int (p4 &&& (127 : Int32))), .val (.int (p5 &&& (127 : Int32))), .val (.ref b1), .val (.ref b4), .val (.int (own_fa (own_H p6) q1 q2 [(p3 &&& (127 : Int32)), (p4 &&& (127 : Int32))])), .val (.int (own_ix (own_H p6) q1 q2 (p4 &&& (127 : Int32)) (-1 : Int32)))] [(.int (1 : Int32)), (.int (2 : Int32))])) _
    refine XS.icmpNo X8.here hx rfl (hb hby at_159) rfl (flt (by decide)).1 ?_
    show Steps p.tables e below (T8.setTop (mkF m 162 #[.val (.long q1), .second, .val (.long q2), .second, .val (.int p3), .val (.int p4), .val (.int p5), .val (.int p6), .val (.int (own_H p6)), .val (.int (2 : Int32)), .val (.int (p3 &&& (127 : Int32))), .val (.int (p4 &&& (127 : Int32))), .val (.int (p5 &&& (127 : Int32))), .val (.ref b1), .val (.ref b4), .val (.int (own_fa (own_H p6) q1 q2 [(p3 &&& (127 : Int32)), (p4 &&& (127 : Int32))])), .val (.int (own_ix (own_H p6) q1 q2 (p4 &&& (127 : Int32)) (-1 : Int32)))] [])) _
    refine XS.lloadN X8.here hx rfl (hb hby at_162) rfl ?_
    show Steps p.tables e below (T8.setTop (mkF m 163 #[.val (.long q1), .second, .val (.long q2), .second, .val (.int p3), .val (.int p4), .val (.int p5), .val (.int p6), .val (.int (own_H p6)), .val (.int (2 : Int32)), .val (.int (p3 &&& (127 : Int32))), .val (.int (p4 &&& (127 : Int32))), .val (.int (p5 &&& (127 : Int32))), .val (.ref b1), .val (.ref b4), .val (.int (own_fa (own_H p6) q1 q2 [(p3 &&& (127 : Int32)), (p4 &&& (127 : Int32))])), .val (.int (own_ix (own_H p6) q1 q2 (p4 &&& (127 : Int32)) (-1 : Int32)))] [(.long q1)])) _
    refine XS.lloadN X8.here hx rfl (hb hby at_163) rfl ?_
    show Steps p.tables e below (T8.setTop (mkF m 164 #[.val (.long q1), .second, .val (.long q2), .second, .val (.int p3), .val (.int p4), .val (.int p5), .val (.int p6), .val (.int (own_H p6)), .val (.int (2 : Int32)), .val (.int (p3 &&& (127 : Int32))), .val (.int (p4 &&& (127 : Int32))), .val (.int (p5 &&& (127 : Int32))), .val (.ref b1), .val (.ref b4), .val (.int (own_fa (own_H p6) q1 q2 [(p3 &&& (127 : Int32)), (p4 &&& (127 : Int32))])), .val (.int (own_ix (own_H p6) q1 q2 (p4 &&& (127 : Int32)) (-1 : Int32)))] [(.long q2), (.long q1)])) _
    refine XS.iload X8.here hx rfl (hb hby at_164) rfl ?_
    show Steps p.tables e below (T8.setTop (mkF m 166 #[.val (.long q1), .second, .val (.long q2), .second, .val (.int p3), .val (.int p4), .val (.int p5), .val (.int p6), .val (.int (own_H p6)), .val (.int (2 : Int32)), .val (.int (p3 &&& (127 : Int32))), .val (.int (p4 &&& (127 : Int32))), .val (.int (p5 &&& (127 : Int32))), .val (.ref b1), .val (.ref b4), .val (.int (own_fa (own_H p6) q1 q2 [(p3 &&& (127 : Int32)), (p4 &&& (127 : Int32))])), .val (.int (own_ix (own_H p6) q1 q2 (p4 &&& (127 : Int32)) (-1 : Int32)))] [(.int (p3 &&& (127 : Int32))), (.long q2), (.long q1)])) _
    refine st9 _ ?_
    show Steps p.tables e below (T9.setTop (mkF m 169 #[.val (.long q1), .second, .val (.long q2), .second, .val (.int p3), .val (.int p4), .val (.int p5), .val (.int p6), .val (.int (own_H p6)), .val (.int (2 : Int32)), .val (.int (p3 &&& (127 : Int32))), .val (.int (p4 &&& (127 : Int32))), .val (.int (p5 &&& (127 : Int32))), .val (.ref b1), .val (.ref b4), .val (.int (own_fa (own_H p6) q1 q2 [(p3 &&& (127 : Int32)), (p4 &&& (127 : Int32))])), .val (.int (own_ix (own_H p6) q1 q2 (p4 &&& (127 : Int32)) (-1 : Int32)))] [(.int (own_hold q1 q2 (p3 &&& (127 : Int32))))])) _
    refine j0 _ ?_
    show Steps p.tables e below (T9.setTop (mkF m 178 #[.val (.long q1), .second, .val (.long q2), .second, .val (.int p3), .val (.int p4), .val (.int p5), .val (.int p6), .val (.int (own_H p6)), .val (.int (2 : Int32)), .val (.int (p3 &&& (127 : Int32))), .val (.int (p4 &&& (127 : Int32))), .val (.int (p5 &&& (127 : Int32))), .val (.ref b1), .val (.ref b4), .val (.int (own_fa (own_H p6) q1 q2 [(p3 &&& (127 : Int32)), (p4 &&& (127 : Int32))])), .val (.int (own_ix (own_H p6) q1 q2 (p3 &&& (127 : Int32)) (own_ix (own_H p6) q1 q2 (p4 &&& (127 : Int32)) (-1 : Int32))))] [])) _
    refine XS.iload X9.here hx rfl (hb hby at_178) rfl ?_
    show Steps p.tables e below (T9.setTop (mkF m 180 #[.val (.long q1), .second, .val (.long q2), .second, .val (.int p3), .val (.int p4), .val (.int p5), .val (.int p6), .val (.int (own_H p6)), .val (.int (2 : Int32)), .val (.int (p3 &&& (127 : Int32))), .val (.int (p4 &&& (127 : Int32))), .val (.int (p5 &&& (127 : Int32))), .val (.ref b1), .val (.ref b4), .val (.int (own_fa (own_H p6) q1 q2 [(p3 &&& (127 : Int32)), (p4 &&& (127 : Int32))])), .val (.int (own_ix (own_H p6) q1 q2 (p3 &&& (127 : Int32)) (own_ix (own_H p6) q1 q2 (p4 &&& (127 : Int32)) (-1 : Int32))))] [(.int (own_fa (own_H p6) q1 q2 [(p3 &&& (127 : Int32)), (p4 &&& (127 : Int32))]))])) _
    refine XS.iload X9.here hx rfl (hb hby at_180) rfl ?_
    show Steps p.tables e below (T9.setTop (mkF m 182 #[.val (.long q1), .second, .val (.long q2), .second, .val (.int p3), .val (.int p4), .val (.int p5), .val (.int p6), .val (.int (own_H p6)), .val (.int (2 : Int32)), .val (.int (p3 &&& (127 : Int32))), .val (.int (p4 &&& (127 : Int32))), .val (.int (p5 &&& (127 : Int32))), .val (.ref b1), .val (.ref b4), .val (.int (own_fa (own_H p6) q1 q2 [(p3 &&& (127 : Int32)), (p4 &&& (127 : Int32))])), .val (.int (own_ix (own_H p6) q1 q2 (p3 &&& (127 : Int32)) (own_ix (own_H p6) q1 q2 (p4 &&& (127 : Int32)) (-1 : Int32))))] [(.int (own_ix (own_H p6) q1 q2 (p3 &&& (127 : Int32)) (own_ix (own_H p6) q1 q2 (p4 &&& (127 : Int32)) (-1 : Int32)))), (.int (own_fa (own_H p6) q1 q2 [(p3 &&& (127 : Int32)), (p4 &&& (127 : Int32))]))])) _
    refine XS.icmpNo X9.here hx rfl (hb hby at_182) rfl (teq fin).2 ?_
    show Steps p.tables e below (T9.setTop (mkF m 185 #[.val (.long q1), .second, .val (.long q2), .second, .val (.int p3), .val (.int p4), .val (.int p5), .val (.int p6), .val (.int (own_H p6)), .val (.int (2 : Int32)), .val (.int (p3 &&& (127 : Int32))), .val (.int (p4 &&& (127 : Int32))), .val (.int (p5 &&& (127 : Int32))), .val (.ref b1), .val (.ref b4), .val (.int (own_fa (own_H p6) q1 q2 [(p3 &&& (127 : Int32)), (p4 &&& (127 : Int32))])), .val (.int (own_ix (own_H p6) q1 q2 (p3 &&& (127 : Int32)) (own_ix (own_H p6) q1 q2 (p4 &&& (127 : Int32)) (-1 : Int32))))] [])) _
    refine XS.aload X9.here hx rfl (hb hby at_185) rfl rfl ?_
    show Steps p.tables e below (T9.setTop (mkF m 187 #[.val (.long q1), .second, .val (.long q2), .second, .val (.int p3), .val (.int p4), .val (.int p5), .val (.int p6), .val (.int (own_H p6)), .val (.int (2 : Int32)), .val (.int (p3 &&& (127 : Int32))), .val (.int (p4 &&& (127 : Int32))), .val (.int (p5 &&& (127 : Int32))), .val (.ref b1), .val (.ref b4), .val (.int (own_fa (own_H p6) q1 q2 [(p3 &&& (127 : Int32)), (p4 &&& (127 : Int32))])), .val (.int (own_ix (own_H p6) q1 q2 (p3 &&& (127 : Int32)) (own_ix (own_H p6) q1 q2 (p4 &&& (127 : Int32)) (-1 : Int32))))] [(.ref b4)])) _
    refine XS.iconst X9.here hx rfl (hb hby at_187) ?_
    show Steps p.tables e below (T9.setTop (mkF m 188 #[.val (.long q1), .second, .val (.long q2), .second, .val (.int p3), .val (.int p4), .val (.int p5), .val (.int p6), .val (.int (own_H p6)), .val (.int (2 : Int32)), .val (.int (p3 &&& (127 : Int32))), .val (.int (p4 &&& (127 : Int32))), .val (.int (p5 &&& (127 : Int32))), .val (.ref b1), .val (.ref b4), .val (.int (own_fa (own_H p6) q1 q2 [(p3 &&& (127 : Int32)), (p4 &&& (127 : Int32))])), .val (.int (own_ix (own_H p6) q1 q2 (p3 &&& (127 : Int32)) (own_ix (own_H p6) q1 q2 (p4 &&& (127 : Int32)) (-1 : Int32))))] [(.int (0 : Int32)), (.ref b4)])) _
    refine X9.laload hx (j := (0 : Int32)) (v := (.long q1)) (by rw [e9]; exact A6.1) (State.isArrayOf_alike hZ.alike A6.2.1) A6.2.2 hJ0 rfl (g := (mkF m 188 #[.val (.long q1), .second, .val (.long q2), .second, .val (.int p3), .val (.int p4), .val (.int p5), .val (.int p6), .val (.int (own_H p6)), .val (.int (2 : Int32)), .val (.int (p3 &&& (127 : Int32))), .val (.int (p4 &&& (127 : Int32))), .val (.int (p5 &&& (127 : Int32))), .val (.ref b1), .val (.ref b4), .val (.int (own_fa (own_H p6) q1 q2 [(p3 &&& (127 : Int32)), (p4 &&& (127 : Int32))])), .val (.int (own_ix (own_H p6) q1 q2 (p3 &&& (127 : Int32)) (own_ix (own_H p6) q1 q2 (p4 &&& (127 : Int32)) (-1 : Int32))))] [(.int (0 : Int32)), (.ref b4)])) rfl rfl (hb hby at_188) _ ?_
    show Steps p.tables e below (T9.setTop (mkF m 189 #[.val (.long q1), .second, .val (.long q2), .second, .val (.int p3), .val (.int p4), .val (.int p5), .val (.int p6), .val (.int (own_H p6)), .val (.int (2 : Int32)), .val (.int (p3 &&& (127 : Int32))), .val (.int (p4 &&& (127 : Int32))), .val (.int (p5 &&& (127 : Int32))), .val (.ref b1), .val (.ref b4), .val (.int (own_fa (own_H p6) q1 q2 [(p3 &&& (127 : Int32)), (p4 &&& (127 : Int32))])), .val (.int (own_ix (own_H p6) q1 q2 (p3 &&& (127 : Int32)) (own_ix (own_H p6) q1 q2 (p4 &&& (127 : Int32)) (-1 : Int32))))] [(.long q1)])) _
    refine XS.lloadN X9.here hx rfl (hb hby at_189) rfl ?_
    show Steps p.tables e below (T9.setTop (mkF m 190 #[.val (.long q1), .second, .val (.long q2), .second, .val (.int p3), .val (.int p4), .val (.int p5), .val (.int p6), .val (.int (own_H p6)), .val (.int (2 : Int32)), .val (.int (p3 &&& (127 : Int32))), .val (.int (p4 &&& (127 : Int32))), .val (.int (p5 &&& (127 : Int32))), .val (.ref b1), .val (.ref b4), .val (.int (own_fa (own_H p6) q1 q2 [(p3 &&& (127 : Int32)), (p4 &&& (127 : Int32))])), .val (.int (own_ix (own_H p6) q1 q2 (p3 &&& (127 : Int32)) (own_ix (own_H p6) q1 q2 (p4 &&& (127 : Int32)) (-1 : Int32))))] [(.long q1), (.long q1)])) _
    refine XS.lcmp X9.here hx rfl (hb hby at_190) rfl ?_
    show Steps p.tables e below (T9.setTop (mkF m 191 #[.val (.long q1), .second, .val (.long q2), .second, .val (.int p3), .val (.int p4), .val (.int p5), .val (.int p6), .val (.int (own_H p6)), .val (.int (2 : Int32)), .val (.int (p3 &&& (127 : Int32))), .val (.int (p4 &&& (127 : Int32))), .val (.int (p5 &&& (127 : Int32))), .val (.ref b1), .val (.ref b4), .val (.int (own_fa (own_H p6) q1 q2 [(p3 &&& (127 : Int32)), (p4 &&& (127 : Int32))])), .val (.int (own_ix (own_H p6) q1 q2 (p3 &&& (127 : Int32)) (own_ix (own_H p6) q1 q2 (p4 &&& (127 : Int32)) (-1 : Int32))))] [(.int (lcmpW q1 q1))])) _
    refine XS.ifNo X9.here hx rfl (hb hby at_191) rfl ((if0 _ _).trans (teq ((lw_eq _ _).mpr rfl)).2) ?_
    show Steps p.tables e below (T9.setTop (mkF m 194 #[.val (.long q1), .second, .val (.long q2), .second, .val (.int p3), .val (.int p4), .val (.int p5), .val (.int p6), .val (.int (own_H p6)), .val (.int (2 : Int32)), .val (.int (p3 &&& (127 : Int32))), .val (.int (p4 &&& (127 : Int32))), .val (.int (p5 &&& (127 : Int32))), .val (.ref b1), .val (.ref b4), .val (.int (own_fa (own_H p6) q1 q2 [(p3 &&& (127 : Int32)), (p4 &&& (127 : Int32))])), .val (.int (own_ix (own_H p6) q1 q2 (p3 &&& (127 : Int32)) (own_ix (own_H p6) q1 q2 (p4 &&& (127 : Int32)) (-1 : Int32))))] [])) _
    refine XS.aload X9.here hx rfl (hb hby at_194) rfl rfl ?_
    show Steps p.tables e below (T9.setTop (mkF m 196 #[.val (.long q1), .second, .val (.long q2), .second, .val (.int p3), .val (.int p4), .val (.int p5), .val (.int p6), .val (.int (own_H p6)), .val (.int (2 : Int32)), .val (.int (p3 &&& (127 : Int32))), .val (.int (p4 &&& (127 : Int32))), .val (.int (p5 &&& (127 : Int32))), .val (.ref b1), .val (.ref b4), .val (.int (own_fa (own_H p6) q1 q2 [(p3 &&& (127 : Int32)), (p4 &&& (127 : Int32))])), .val (.int (own_ix (own_H p6) q1 q2 (p3 &&& (127 : Int32)) (own_ix (own_H p6) q1 q2 (p4 &&& (127 : Int32)) (-1 : Int32))))] [(.ref b4)])) _
    refine XS.iconst X9.here hx rfl (hb hby at_196) ?_
    show Steps p.tables e below (T9.setTop (mkF m 197 #[.val (.long q1), .second, .val (.long q2), .second, .val (.int p3), .val (.int p4), .val (.int p5), .val (.int p6), .val (.int (own_H p6)), .val (.int (2 : Int32)), .val (.int (p3 &&& (127 : Int32))), .val (.int (p4 &&& (127 : Int32))), .val (.int (p5 &&& (127 : Int32))), .val (.ref b1), .val (.ref b4), .val (.int (own_fa (own_H p6) q1 q2 [(p3 &&& (127 : Int32)), (p4 &&& (127 : Int32))])), .val (.int (own_ix (own_H p6) q1 q2 (p3 &&& (127 : Int32)) (own_ix (own_H p6) q1 q2 (p4 &&& (127 : Int32)) (-1 : Int32))))] [(.int (1 : Int32)), (.ref b4)])) _
    refine X9.laload hx (j := (1 : Int32)) (v := (.long q2)) (by rw [e9]; exact A6.1) (State.isArrayOf_alike hZ.alike A6.2.1) A6.2.2 hJ1 rfl (g := (mkF m 197 #[.val (.long q1), .second, .val (.long q2), .second, .val (.int p3), .val (.int p4), .val (.int p5), .val (.int p6), .val (.int (own_H p6)), .val (.int (2 : Int32)), .val (.int (p3 &&& (127 : Int32))), .val (.int (p4 &&& (127 : Int32))), .val (.int (p5 &&& (127 : Int32))), .val (.ref b1), .val (.ref b4), .val (.int (own_fa (own_H p6) q1 q2 [(p3 &&& (127 : Int32)), (p4 &&& (127 : Int32))])), .val (.int (own_ix (own_H p6) q1 q2 (p3 &&& (127 : Int32)) (own_ix (own_H p6) q1 q2 (p4 &&& (127 : Int32)) (-1 : Int32))))] [(.int (1 : Int32)), (.ref b4)])) rfl rfl (hb hby at_197) _ ?_
    show Steps p.tables e below (T9.setTop (mkF m 198 #[.val (.long q1), .second, .val (.long q2), .second, .val (.int p3), .val (.int p4), .val (.int p5), .val (.int p6), .val (.int (own_H p6)), .val (.int (2 : Int32)), .val (.int (p3 &&& (127 : Int32))), .val (.int (p4 &&& (127 : Int32))), .val (.int (p5 &&& (127 : Int32))), .val (.ref b1), .val (.ref b4), .val (.int (own_fa (own_H p6) q1 q2 [(p3 &&& (127 : Int32)), (p4 &&& (127 : Int32))])), .val (.int (own_ix (own_H p6) q1 q2 (p3 &&& (127 : Int32)) (own_ix (own_H p6) q1 q2 (p4 &&& (127 : Int32)) (-1 : Int32))))] [(.long q2)])) _
    refine XS.lloadN X9.here hx rfl (hb hby at_198) rfl ?_
    show Steps p.tables e below (T9.setTop (mkF m 199 #[.val (.long q1), .second, .val (.long q2), .second, .val (.int p3), .val (.int p4), .val (.int p5), .val (.int p6), .val (.int (own_H p6)), .val (.int (2 : Int32)), .val (.int (p3 &&& (127 : Int32))), .val (.int (p4 &&& (127 : Int32))), .val (.int (p5 &&& (127 : Int32))), .val (.ref b1), .val (.ref b4), .val (.int (own_fa (own_H p6) q1 q2 [(p3 &&& (127 : Int32)), (p4 &&& (127 : Int32))])), .val (.int (own_ix (own_H p6) q1 q2 (p3 &&& (127 : Int32)) (own_ix (own_H p6) q1 q2 (p4 &&& (127 : Int32)) (-1 : Int32))))] [(.long q2), (.long q2)])) _
    refine XS.lcmp X9.here hx rfl (hb hby at_199) rfl ?_
    show Steps p.tables e below (T9.setTop (mkF m 200 #[.val (.long q1), .second, .val (.long q2), .second, .val (.int p3), .val (.int p4), .val (.int p5), .val (.int p6), .val (.int (own_H p6)), .val (.int (2 : Int32)), .val (.int (p3 &&& (127 : Int32))), .val (.int (p4 &&& (127 : Int32))), .val (.int (p5 &&& (127 : Int32))), .val (.ref b1), .val (.ref b4), .val (.int (own_fa (own_H p6) q1 q2 [(p3 &&& (127 : Int32)), (p4 &&& (127 : Int32))])), .val (.int (own_ix (own_H p6) q1 q2 (p3 &&& (127 : Int32)) (own_ix (own_H p6) q1 q2 (p4 &&& (127 : Int32)) (-1 : Int32))))] [(.int (lcmpW q2 q2))])) _
    refine XS.ifNo X9.here hx rfl (hb hby at_200) rfl ((if0 _ _).trans (teq ((lw_eq _ _).mpr rfl)).2) ?_
    show Steps p.tables e below (T9.setTop (mkF m 203 #[.val (.long q1), .second, .val (.long q2), .second, .val (.int p3), .val (.int p4), .val (.int p5), .val (.int p6), .val (.int (own_H p6)), .val (.int (2 : Int32)), .val (.int (p3 &&& (127 : Int32))), .val (.int (p4 &&& (127 : Int32))), .val (.int (p5 &&& (127 : Int32))), .val (.ref b1), .val (.ref b4), .val (.int (own_fa (own_H p6) q1 q2 [(p3 &&& (127 : Int32)), (p4 &&& (127 : Int32))])), .val (.int (own_ix (own_H p6) q1 q2 (p3 &&& (127 : Int32)) (own_ix (own_H p6) q1 q2 (p4 &&& (127 : Int32)) (-1 : Int32))))] [])) _
    refine XS.iconst X9.here hx rfl (hb hby at_203) ?_
    show Steps p.tables e below (T9.setTop (mkF m 204 #[.val (.long q1), .second, .val (.long q2), .second, .val (.int p3), .val (.int p4), .val (.int p5), .val (.int p6), .val (.int (own_H p6)), .val (.int (2 : Int32)), .val (.int (p3 &&& (127 : Int32))), .val (.int (p4 &&& (127 : Int32))), .val (.int (p5 &&& (127 : Int32))), .val (.ref b1), .val (.ref b4), .val (.int (own_fa (own_H p6) q1 q2 [(p3 &&& (127 : Int32)), (p4 &&& (127 : Int32))])), .val (.int (own_ix (own_H p6) q1 q2 (p3 &&& (127 : Int32)) (own_ix (own_H p6) q1 q2 (p4 &&& (127 : Int32)) (-1 : Int32))))] [(.int (1 : Int32))])) _
    refine XS.goto X9.here hx rfl (pc0 := 204) (pc' := 208) rfl (hb hby at_204) (by decide) (by decide) ?_
    show Steps p.tables e below (T9.setTop (mkF m 208 #[.val (.long q1), .second, .val (.long q2), .second, .val (.int p3), .val (.int p4), .val (.int p5), .val (.int p6), .val (.int (own_H p6)), .val (.int (2 : Int32)), .val (.int (p3 &&& (127 : Int32))), .val (.int (p4 &&& (127 : Int32))), .val (.int (p5 &&& (127 : Int32))), .val (.ref b1), .val (.ref b4), .val (.int (own_fa (own_H p6) q1 q2 [(p3 &&& (127 : Int32)), (p4 &&& (127 : Int32))])), .val (.int (own_ix (own_H p6) q1 q2 (p3 &&& (127 : Int32)) (own_ix (own_H p6) q1 q2 (p4 &&& (127 : Int32)) (-1 : Int32))))] [(.int (1 : Int32))])) _
    exact retN X9 hx (t := .boolean) Bd.returns (by simp) (hb hby at_208) hr
  · show Q0 Z q1 q2 p3 p4 p5 p6 h0 n0 _ T9.heap _
    exact ⟨rfl, N9⟩
set_option maxRecDepth 65536 in
set_option maxHeartbeats 40000000 in
theorem rm0_3 (l : Launch) (Z : State) (a0 : Array Value) (hw : ∀ d ∈ tables_1, d.before a0 Z = true) (ws : List Jvm.Cond) (q1 : Int64) (q2 : Int64) (p3 : Int32) (p4 : Int32) (p5 : Int32) (p6 : Int32) (h0 : Heap) (n0 : Nat) (Z0 : n0 ≤ h0.size) (hn : own_ushr p6 1 &&& 3 = (3 : Int32)) :
    MetFree l x (head1 (Jvm.Cond.code x code maxLocals ret :: ws) room_1) (fun a U => a = #[(.long q1), (.long q2), (.int p3), (.int p4), (.int p5), (.int p6)] ∧ Z.Warmed39 U.vm ∧ U.heap = h0) (fun _ _ _ _ _ => True) (fun _ U o U' => ∃ v L, o = .returned v ∧ Q0 Z q1 q2 p3 p4 p5 p6 h0 n0 v U'.heap L ∧ FrameEnd U o U' L (room_1).cells (room_1).slots) := by
  refine MetFree.of_bodySF (plainFor_of_name pn_0) hisR ?_
  intro p e s m args below meth c s₁ Bd hml0 hP hK
  obtain ⟨rfl, hZ, hh⟩ := hP
  have hx := Bd.exec
  have hby := Bd.bytes
  have hml : c.maxLocals = 17 := hml0
  have hown : s.vm.findClass "com/example/ilmarinen/ilmarinen/search/GroundTaskFirstAtomPinLaw" = some m.cls := findClass_of_methodNamed Bd.named
  have hnm := (name_of_methodNamed Bd.named Bd.method).1
  have X0 : Stand p l e room_1 s m #[(.long q1), (.long q2), (.int p3), (.int p4), (.int p5), (.int p6)] below meth c s₁ [] 0 0 := Stand.of_body Bd
  have e0 : s₁.heap = h0 := by rw [← hh, Bd.state]; rfl
  have N0 := Fr.nil n0
  have pre0 : ∀ t, Steps p.tables e below (s₁.setTop (mkF m 0 #[.val (.long q1), .second, .val (.long q2), .second, .val (.int p3), .val (.int p4), .val (.int p5), .val (.int p6), .unset, .unset, .unset, .unset, .unset, .unset, .unset, .unset, .unset] [])) t → Steps p.tables e below (s₁.setTop (entryFrame m #[(.long q1), (.long q2), (.int p3), (.int p4), (.int p5), (.int p6)] maxLocals)) t := fun t k => castTop (ef_0 m q1 q2 p3 p4 p5 p6) k
  have jA : ∀ t, Steps p.tables e below (s₁.setTop (mkF m 12 #[.val (.long q1), .second, .val (.long q2), .second, .val (.int p3), .val (.int p4), .val (.int p5), .val (.int p6), .unset, .unset, .unset, .unset, .unset, .unset, .unset, .unset, .unset] [(.int (own_H p6))])) t → Steps p.tables e below (s₁.setTop (mkF m 0 #[.val (.long q1), .second, .val (.long q2), .second, .val (.int p3), .val (.int p4), .val (.int p5), .val (.int p6), .unset, .unset, .unset, .unset, .unset, .unset, .unset, .unset, .unset] [])) t := by
    intro t kt
    show Steps p.tables e below (s₁.setTop (mkF m 0 #[.val (.long q1), .second, .val (.long q2), .second, .val (.int p3), .val (.int p4), .val (.int p5), .val (.int p6), .unset, .unset, .unset, .unset, .unset, .unset, .unset, .unset, .unset] [])) _
    refine XS.iload X0.here hx rfl (hb hby at_0) rfl ?_
    show Steps p.tables e below (s₁.setTop (mkF m 2 #[.val (.long q1), .second, .val (.long q2), .second, .val (.int p3), .val (.int p4), .val (.int p5), .val (.int p6), .unset, .unset, .unset, .unset, .unset, .unset, .unset, .unset, .unset] [(.int p6)])) _
    refine XS.iconst X0.here hx rfl (hb hby at_2) ?_
    show Steps p.tables e below (s₁.setTop (mkF m 3 #[.val (.long q1), .second, .val (.long q2), .second, .val (.int p3), .val (.int p4), .val (.int p5), .val (.int p6), .unset, .unset, .unset, .unset, .unset, .unset, .unset, .unset, .unset] [(.int (1 : Int32)), (.int p6)])) _
    refine XS.iand X0.here hx rfl (hb hby at_3) rfl ?_
    show Steps p.tables e below (s₁.setTop (mkF m 4 #[.val (.long q1), .second, .val (.long q2), .second, .val (.int p3), .val (.int p4), .val (.int p5), .val (.int p6), .unset, .unset, .unset, .unset, .unset, .unset, .unset, .unset, .unset] [(.int (p6 &&& (1 : Int32)))])) _
    by_cases c4 : (p6 &&& (1 : Int32)) = (0 : Int32)
    · refine XS.ifYes X0.here hx rfl (pc0 := 4) (pc' := 11) rfl (hb hby at_4) rfl ((if0 _ _).trans (teq c4).1) (by decide) (by decide) ?_
      show Steps p.tables e below (s₁.setTop (mkF m 11 #[.val (.long q1), .second, .val (.long q2), .second, .val (.int p3), .val (.int p4), .val (.int p5), .val (.int p6), .unset, .unset, .unset, .unset, .unset, .unset, .unset, .unset, .unset] [])) _
      refine XS.iconst X0.here hx rfl (hb hby at_11) ?_
      show Steps p.tables e below (s₁.setTop (mkF m 12 #[.val (.long q1), .second, .val (.long q2), .second, .val (.int p3), .val (.int p4), .val (.int p5), .val (.int p6), .unset, .unset, .unset, .unset, .unset, .unset, .unset, .unset, .unset] [(.int (0 : Int32))])) _
      have em : (own_H p6) = (0 : Int32) := by first | rfl | (rw [own_H, if_pos c4]; done) | (simp only [own_H, c4, if_true, if_false]; done) | (simp [own_H, c4]; done) | contradiction | ((unfold own_H; repeat' split) <;> first | rfl | contradiction | (simp_all; done))
      rw [em] at kt
      exact kt
    · refine XS.ifNo X0.here hx rfl (hb hby at_4) rfl ((if0 _ _).trans (feq c4).1) ?_
      show Steps p.tables e below (s₁.setTop (mkF m 7 #[.val (.long q1), .second, .val (.long q2), .second, .val (.int p3), .val (.int p4), .val (.int p5), .val (.int p6), .unset, .unset, .unset, .unset, .unset, .unset, .unset, .unset, .unset] [])) _
      refine XS.iconst X0.here hx rfl (hb hby at_7) ?_
      show Steps p.tables e below (s₁.setTop (mkF m 8 #[.val (.long q1), .second, .val (.long q2), .second, .val (.int p3), .val (.int p4), .val (.int p5), .val (.int p6), .unset, .unset, .unset, .unset, .unset, .unset, .unset, .unset, .unset] [(.int (1 : Int32))])) _
      refine XS.goto X0.here hx rfl (pc0 := 8) (pc' := 12) rfl (hb hby at_8) (by decide) (by decide) ?_
      show Steps p.tables e below (s₁.setTop (mkF m 12 #[.val (.long q1), .second, .val (.long q2), .second, .val (.int p3), .val (.int p4), .val (.int p5), .val (.int p6), .unset, .unset, .unset, .unset, .unset, .unset, .unset, .unset, .unset] [(.int (1 : Int32))])) _
      have em : (own_H p6) = (1 : Int32) := by first | rfl | (rw [own_H, if_neg c4]; done) | (simp only [own_H, c4, if_true, if_false]; done) | (simp [own_H, c4]; done) | contradiction | ((unfold own_H; repeat' split) <;> first | rfl | contradiction | (simp_all; done))
      rw [em] at kt
      exact kt
  have hneg : ¬ ((3 : Int32) < 0) := by decide
  obtain ⟨T1, h1, k1, X1, e1, E1, A1, st1⟩ := newP X0 hx hZ (hw _ (List.mem_of_getElem? (i := 0) rfl)) e0 (g := (mkF m 45 #[.val (.long q1), .second, .val (.long q2), .second, .val (.int p3), .val (.int p4), .val (.int p5), .val (.int p6), .val (.int (own_H p6)), .val (.int (3 : Int32)), .val (.int (p3 &&& (127 : Int32))), .val (.int (p4 &&& (127 : Int32))), .val (.int (p5 &&& (127 : Int32))), .unset, .unset, .unset, .unset] [(.int (3 : Int32))])) rfl (hb hby at_45) rfl hneg (cap := 3) (by decide) (by decide) (by decide) (by decide)
  obtain ⟨b1, g1⟩ : ∃ z, z = h0.size := ⟨_, rfl⟩
  rw [← g1] at A1 st1
  have gb1 : n0 ≤ b1 := Nat.le_trans Z0 (Nat.le_of_eq g1.symm)
  have hin2 : ¬ ((0 : Int32) < 0 ∨ (newA k1 .int (3 : Int32)).slots.size ≤ ((0 : Int32)).toNatClampNeg) := own_in (n := 3) (k := 0) (by decide) rfl rfl (by decide)
  obtain ⟨T2, h2, X2, e2, W2, st2⟩ := stI X1 hx hZ e1 A1 (j := (0 : Int32)) hin2 (g := (mkF m 60 #[.val (.long q1), .second, .val (.long q2), .second, .val (.int p3), .val (.int p4), .val (.int p5), .val (.int p6), .val (.int (own_H p6)), .val (.int (3 : Int32)), .val (.int (p3 &&& (127 : Int32))), .val (.int (p4 &&& (127 : Int32))), .val (.int (p5 &&& (127 : Int32))), .val (.ref b1), .unset, .unset, .unset] [(.int (p3 &&& (127 : Int32))), (.int (0 : Int32)), (.ref b1)])) rfl rfl (hb hby at_60)
  have N2 := Fr.snoc X2 N0 gb1
  have A2 := Arr.same W2 A1
  have hin3 : ¬ ((1 : Int32) < 0 ∨ ((newA k1 .int (3 : Int32)).setSlot ((0 : Int32)).toNatClampNeg (.int (p3 &&& (127 : Int32)))).slots.size ≤ ((1 : Int32)).toNatClampNeg) := own_in (n := 3) (k := 1) (by decide) rfl rfl (by decide)
  obtain ⟨T3, h3, X3, e3, W3, st3⟩ := stI X2 hx hZ e2 A2 (j := (1 : Int32)) hin3 (g := (mkF m 72 #[.val (.long q1), .second, .val (.long q2), .second, .val (.int p3), .val (.int p4), .val (.int p5), .val (.int p6), .val (.int (own_H p6)), .val (.int (3 : Int32)), .val (.int (p3 &&& (127 : Int32))), .val (.int (p4 &&& (127 : Int32))), .val (.int (p5 &&& (127 : Int32))), .val (.ref b1), .unset, .unset, .unset] [(.int (p4 &&& (127 : Int32))), (.int (1 : Int32)), (.ref b1)])) rfl rfl (hb hby at_72)
  have N3 := Fr.snoc X3 N2 gb1
  have A3 := Arr.same W3 A2
  have hin4 : ¬ ((2 : Int32) < 0 ∨ (((newA k1 .int (3 : Int32)).setSlot ((0 : Int32)).toNatClampNeg (.int (p3 &&& (127 : Int32)))).setSlot ((1 : Int32)).toNatClampNeg (.int (p4 &&& (127 : Int32)))).slots.size ≤ ((2 : Int32)).toNatClampNeg) := own_in (n := 3) (k := 2) (by decide) rfl rfl (by decide)
  obtain ⟨T4, h4, X4, e4, W4, st4⟩ := stI X3 hx hZ e3 A3 (j := (2 : Int32)) hin4 (g := (mkF m 84 #[.val (.long q1), .second, .val (.long q2), .second, .val (.int p3), .val (.int p4), .val (.int p5), .val (.int p6), .val (.int (own_H p6)), .val (.int (3 : Int32)), .val (.int (p3 &&& (127 : Int32))), .val (.int (p4 &&& (127 : Int32))), .val (.int (p5 &&& (127 : Int32))), .val (.ref b1), .unset, .unset, .unset] [(.int (p5 &&& (127 : Int32))), (.int (2 : Int32)), (.ref b1)])) rfl rfl (hb hby at_84)
  have N4 := Fr.snoc X4 N3 gb1
  have A4 := Arr.same W4 A3
  obtain ⟨T5, h5, k5, X5, e5, E5, A5, st5⟩ := newP X4 hx hZ (hw _ (List.mem_of_getElem? (i := 1) rfl)) e4 (g := (mkF m 86 #[.val (.long q1), .second, .val (.long q2), .second, .val (.int p3), .val (.int p4), .val (.int p5), .val (.int p6), .val (.int (own_H p6)), .val (.int (3 : Int32)), .val (.int (p3 &&& (127 : Int32))), .val (.int (p4 &&& (127 : Int32))), .val (.int (p5 &&& (127 : Int32))), .val (.ref b1), .unset, .unset, .unset] [(.int (2 : Int32))])) rfl (hb hby at_86) rfl (by decide) (cap := 2) (by decide) (by decide) (by decide) (by decide)
  obtain ⟨b5, g5⟩ : ∃ z, z = h4.size := ⟨_, rfl⟩
  rw [← g5] at A5 st5
  have Zs1 : n0 ≤ h1.size := Nat.le_trans Z0 E1.1
  have Zs2 : n0 ≤ h2.size := Nat.le_trans Zs1 (Keep.of_wr W2).1
  have Zs3 : n0 ≤ h3.size := Nat.le_trans Zs2 (Keep.of_wr W3).1
  have Zs4 : n0 ≤ h4.size := Nat.le_trans Zs3 (Keep.of_wr W4).1
  have gb5 : n0 ≤ b5 := Nat.le_trans Zs4 (Nat.le_of_eq g5.symm)
  have ne : b1 ≠ b5 := Nat.ne_of_lt (Nat.lt_of_lt_of_le A4.lt (Nat.le_of_eq g5.symm))
  have Zs5 : n0 ≤ h5.size := Nat.le_trans Zs4 E5.1
  have AI5 := A4.ext E5
  have hin6 : ¬ ((0 : Int32) < 0 ∨ (newA k5 .long (2 : Int32)).slots.size ≤ ((0 : Int32)).toNatClampNeg) := own_in (n := 2) (k := 0) (by decide) rfl rfl (by decide)
  obtain ⟨T6, h6, X6, e6, W6, st6⟩ := stJ X5 hx hZ e5 A5 (j := (0 : Int32)) hin6 (g := (mkF m 91 #[.val (.long q1), .second, .val (.long q2), .second, .val (.int p3), .val (.int p4), .val (.int p5), .val (.int p6), .val (.int (own_H p6)), .val (.int (3 : Int32)), .val (.int (p3 &&& (127 : Int32))), .val (.int (p4 &&& (127 : Int32))), .val (.int (p5 &&& (127 : Int32))), .val (.ref b1), .unset, .unset, .unset] [(.long q1), (.int (0 : Int32)), (.ref b5), (.ref b5)])) rfl rfl (hb hby at_91)
  have N6 := Fr.snoc X6 N4 gb5
  have A6 := Arr.same W6 A5
  have AI6 := AI5.other W6 ne
  have Zs6 : n0 ≤ h6.size := Nat.le_trans Zs5 (Keep.of_wr W6).1
  have hin7 : ¬ ((1 : Int32) < 0 ∨ ((newA k5 .long (2 : Int32)).setSlot ((0 : Int32)).toNatClampNeg (.long q1)).slots.size ≤ ((1 : Int32)).toNatClampNeg) := own_in (n := 2) (k := 1) (by decide) rfl rfl (by decide)
  obtain ⟨T7, h7, X7, e7, W7, st7⟩ := stJ X6 hx hZ e6 A6 (j := (1 : Int32)) hin7 (g := (mkF m 95 #[.val (.long q1), .second, .val (.long q2), .second, .val (.int p3), .val (.int p4), .val (.int p5), .val (.int p6), .val (.int (own_H p6)), .val (.int (3 : Int32)), .val (.int (p3 &&& (127 : Int32))), .val (.int (p4 &&& (127 : Int32))), .val (.int (p5 &&& (127 : Int32))), .val (.ref b1), .unset, .unset, .unset] [(.long q2), (.int (1 : Int32)), (.ref b5), (.ref b5)])) rfl rfl (hb hby at_95)
  have N7 := Fr.snoc X7 N6 gb5
  have A7 := Arr.same W7 A6
  have AI7 := AI6.other W7 ne
  have Zs7 : n0 ≤ h7.size := Nat.le_trans Zs6 (Keep.of_wr W7).1
  have hxs : ∀ x ∈ ([(p3 &&& (127 : Int32)), (p4 &&& (127 : Int32)), (p5 &&& (127 : Int32))] : List Int32), ∃ a, a < 128 ∧ x = Int32.ofNat a := by
    intro x hx'
    simp only [List.mem_cons, List.not_mem_nil, or_false] at hx'
    rcases hx' with rfl | rfl | rfl <;> exact own_127 _
  have HI : ∀ (j : Nat) (x : Int32), ([(p3 &&& (127 : Int32)), (p4 &&& (127 : Int32)), (p5 &&& (127 : Int32))] : List Int32)[j]? = some x → ((((newA k1 .int (3 : Int32)).setSlot ((0 : Int32)).toNatClampNeg (.int (p3 &&& (127 : Int32)))).setSlot ((1 : Int32)).toNatClampNeg (.int (p4 &&& (127 : Int32)))).setSlot ((2 : Int32)).toNatClampNeg (.int (p5 &&& (127 : Int32)))).slots[j]? = some (.int x) := by
    intro j x q
    match j, q with
    | 0, q => cases q; rfl
    | 1, q => cases q; rfl
    | 2, q => cases q; rfl
    | j + 3, q => simp at q
  obtain ⟨_, _, ⟨T8, L8, k8, n8⟩, -, X8, ⟨Lc8, hQ8, l8, y8, z8⟩, st8⟩ := Jvm.LawKit.callS X7 hx (y := (⟨"com/example/ilmarinen/ilmarinen/search/GroundTask", "firstAtom", "([I[JZ)I"⟩ : MethodName)) hown (mvT hZ (hw _ (List.mem_of_getElem? (i := 2) rfl))) (mvT hZ (hw _ (List.mem_of_getElem? (i := 3) rfl))) (mvT hZ (hw _ (List.mem_of_getElem? (i := 4) rfl))) (mvT hZ (hw _ (List.mem_of_getElem? (i := 5) rfl))) (by decide) (backOf (W := 0) (rm1 l Z a0 hw [] b1 b5 (own_H p6) q1 q2 [(p3 &&& (127 : Int32)), (p4 &&& (127 : Int32)), (p5 &&& (127 : Int32))] ((((newA k1 .int (3 : Int32)).setSlot ((0 : Int32)).toNatClampNeg (.int (p3 &&& (127 : Int32)))).setSlot ((1 : Int32)).toNatClampNeg (.int (p4 &&& (127 : Int32)))).setSlot ((2 : Int32)).toNatClampNeg (.int (p5 &&& (127 : Int32)))) (((newA k5 .long (2 : Int32)).setSlot ((0 : Int32)).toNatClampNeg (.long q1)).setSlot ((1 : Int32)).toNatClampNeg (.long q2)) h7 n0 Zs7 (by show 3 < 4; decide) AI7 rfl HI hxs A7 rfl rfl rfl) hZ (hw _ (List.mem_of_getElem? (i := 5) rfl)) (hw _ (List.mem_of_getElem? (i := 4) rfl)) (by decide) (by decide)) (g := (mkF m 104 #[.val (.long q1), .second, .val (.long q2), .second, .val (.int p3), .val (.int p4), .val (.int p5), .val (.int p6), .val (.int (own_H p6)), .val (.int (3 : Int32)), .val (.int (p3 &&& (127 : Int32))), .val (.int (p4 &&& (127 : Int32))), .val (.int (p5 &&& (127 : Int32))), .val (.ref b1), .val (.ref b5), .unset, .unset] [(.int (own_H p6)), (.ref b5), (.ref b1)])) rfl (by rw [hml]; rfl) (argsL := [(.ref b1), (.ref b5), (.int (own_H p6))]) (rest := []) (lenOf pd_fa rfl) rfl (by show 2 * 0 + _ ≤ _; exact Nat.le_of_eq rfl) (hb hby at_104) (fun _ _ => ⟨rfl, e7, (by decide : 2 + 0 ≤ _), (by decide : 5 + 0 ≤ _)⟩)
  dsimp only [Pt.U, Pt.locs, Pt.cells, Pt.slots] at X8 l8 y8 z8 st8 hQ8
  subst l8 y8 z8
  obtain ⟨rfl, N8q, e8⟩ := hQ8
  have N8 := Fr.app N7 N8q
  obtain ⟨_, _, ⟨T9, L9, k9, n9⟩, -, X9, ⟨Lc9, hQ9, l9, y9, z9⟩, st9⟩ := Jvm.LawKit.callS X8 hx (y := (⟨"com/example/ilmarinen/ilmarinen/search/GroundTaskFirstAtomPinLaw", "holds", "(JJI)Z"⟩ : MethodName)) hown (mvT hZ (hw _ (List.mem_of_getElem? (i := 6) rfl))) (mvT hZ (hw _ (List.mem_of_getElem? (i := 7) rfl))) (mvT hZ (hw _ (List.mem_of_getElem? (i := 8) rfl))) (mvT hZ (hw _ (List.mem_of_getElem? (i := 9) rfl))) (by decide) (backOf (W := 0) (rm2 l Z a0 hw [] q1 q2 (p5 &&& (127 : Int32)) h7 n0 Zs7) hZ (hw _ (List.mem_of_getElem? (i := 9) rfl)) (hw _ (List.mem_of_getElem? (i := 8) rfl)) (by decide) (by decide)) (g := (mkF m 122 #[.val (.long q1), .second, .val (.long q2), .second, .val (.int p3), .val (.int p4), .val (.int p5), .val (.int p6), .val (.int (own_H p6)), .val (.int (3 : Int32)), .val (.int (p3 &&& (127 : Int32))), .val (.int (p4 &&& (127 : Int32))), .val (.int (p5 &&& (127 : Int32))), .val (.ref b1), .val (.ref b5), .val (.int (own_fa (own_H p6) q1 q2 [(p3 &&& (127 : Int32)), (p4 &&& (127 : Int32)), (p5 &&& (127 : Int32))])), .val (.int (-1 : Int32))] [(.int (p5 &&& (127 : Int32))), (.long q2), (.long q1)])) rfl (by rw [hml]; rfl) (argsL := [(.long q1), (.long q2), (.int (p5 &&& (127 : Int32)))]) (rest := []) (lenOf pd_ho rfl) rfl (by show 2 * 0 + _ ≤ _; exact Nat.le_of_eq rfl) (hb hby at_122) (fun _ _ => ⟨rfl, e8, (by decide : 2 + 0 ≤ _), (by decide : 5 + 0 ≤ _)⟩)
  dsimp only [Pt.U, Pt.locs, Pt.cells, Pt.slots] at X9 l9 y9 z9 st9 hQ9
  subst l9 y9 z9
  obtain ⟨rfl, N9q, e9⟩ := hQ9
  have N9 := Fr.app N8 N9q
  have j2 : ∀ t, Steps p.tables e below (T9.setTop (mkF m 134 #[.val (.long q1), .second, .val (.long q2), .second, .val (.int p3), .val (.int p4), .val (.int p5), .val (.int p6), .val (.int (own_H p6)), .val (.int (3 : Int32)), .val (.int (p3 &&& (127 : Int32))), .val (.int (p4 &&& (127 : Int32))), .val (.int (p5 &&& (127 : Int32))), .val (.ref b1), .val (.ref b5), .val (.int (own_fa (own_H p6) q1 q2 [(p3 &&& (127 : Int32)), (p4 &&& (127 : Int32)), (p5 &&& (127 : Int32))])), .val (.int (own_ix (own_H p6) q1 q2 (p5 &&& (127 : Int32)) (-1 : Int32)))] [])) t → Steps p.tables e below (T9.setTop (mkF m 125 #[.val (.long q1), .second, .val (.long q2), .second, .val (.int p3), .val (.int p4), .val (.int p5), .val (.int p6), .val (.int (own_H p6)), .val (.int (3 : Int32)), .val (.int (p3 &&& (127 : Int32))), .val (.int (p4 &&& (127 : Int32))), .val (.int (p5 &&& (127 : Int32))), .val (.ref b1), .val (.ref b5), .val (.int (own_fa (own_H p6) q1 q2 [(p3 &&& (127 : Int32)), (p4 &&& (127 : Int32)), (p5 &&& (127 : Int32))])), .val (.int (-1 : Int32))] [(.int (own_hold q1 q2 (p5 &&& (127 : Int32))))])) t := by
    intro t kt
    show Steps p.tables e below (T9.setTop (mkF m 125 #[.val (.long q1), .second, .val (.long q2), .second, .val (.int p3), .val (.int p4), .val (.int p5), .val (.int p6), .val (.int (own_H p6)), .val (.int (3 : Int32)), .val (.int (p3 &&& (127 : Int32))), .val (.int (p4 &&& (127 : Int32))), .val (.int (p5 &&& (127 : Int32))), .val (.ref b1), .val (.ref b5), .val (.int (own_fa (own_H p6) q1 q2 [(p3 &&& (127 : Int32)), (p4 &&& (127 : Int32)), (p5 &&& (127 : Int32))])), .val (.int (-1 : Int32))] [(.int (own_hold q1 q2 (p5 &&& (127 : Int32))))])) _
    refine XS.iload X9.here hx rfl (hb hby at_125) rfl ?_
    show Steps p.tables e below (T9.setTop (mkF m 127 #[.val (.long q1), .second, .val (.long q2), .second, .val (.int p3), .val (.int p4), .val (.int p5), .val (.int p6), .val (.int (own_H p6)), .val (.int (3 : Int32)), .val (.int (p3 &&& (127 : Int32))), .val (.int (p4 &&& (127 : Int32))), .val (.int (p5 &&& (127 : Int32))), .val (.ref b1), .val (.ref b5), .val (.int (own_fa (own_H p6) q1 q2 [(p3 &&& (127 : Int32)), (p4 &&& (127 : Int32)), (p5 &&& (127 : Int32))])), .val (.int (-1 : Int32))] [(.int (own_H p6)), (.int (own_hold q1 q2 (p5 &&& (127 : Int32))))])) _
    by_cases ck : own_hold q1 q2 (p5 &&& (127 : Int32)) = (own_H p6)
    · refine XS.icmpNo X9.here hx rfl (hb hby at_127) rfl (teq ck).2 ?_
      show Steps p.tables e below (T9.setTop (mkF m 130 #[.val (.long q1), .second, .val (.long q2), .second, .val (.int p3), .val (.int p4), .val (.int p5), .val (.int p6), .val (.int (own_H p6)), .val (.int (3 : Int32)), .val (.int (p3 &&& (127 : Int32))), .val (.int (p4 &&& (127 : Int32))), .val (.int (p5 &&& (127 : Int32))), .val (.ref b1), .val (.ref b5), .val (.int (own_fa (own_H p6) q1 q2 [(p3 &&& (127 : Int32)), (p4 &&& (127 : Int32)), (p5 &&& (127 : Int32))])), .val (.int (-1 : Int32))] [])) _
      refine XS.iload X9.here hx rfl (hb hby at_130) rfl ?_
      show Steps p.tables e below (T9.setTop (mkF m 132 #[.val (.long q1), .second, .val (.long q2), .second, .val (.int p3), .val (.int p4), .val (.int p5), .val (.int p6), .val (.int (own_H p6)), .val (.int (3 : Int32)), .val (.int (p3 &&& (127 : Int32))), .val (.int (p4 &&& (127 : Int32))), .val (.int (p5 &&& (127 : Int32))), .val (.ref b1), .val (.ref b5), .val (.int (own_fa (own_H p6) q1 q2 [(p3 &&& (127 : Int32)), (p4 &&& (127 : Int32)), (p5 &&& (127 : Int32))])), .val (.int (-1 : Int32))] [(.int (p5 &&& (127 : Int32)))])) _
      refine XS.istore X9.here hx rfl (hb hby at_132) rfl (l' := #[.val (.long q1), .second, .val (.long q2), .second, .val (.int p3), .val (.int p4), .val (.int p5), .val (.int p6), .val (.int (own_H p6)), .val (.int (3 : Int32)), .val (.int (p3 &&& (127 : Int32))), .val (.int (p4 &&& (127 : Int32))), .val (.int (p5 &&& (127 : Int32))), .val (.ref b1), .val (.ref b5), .val (.int (own_fa (own_H p6) q1 q2 [(p3 &&& (127 : Int32)), (p4 &&& (127 : Int32)), (p5 &&& (127 : Int32))])), .val (.int (p5 &&& (127 : Int32)))]) rfl ?_
      show Steps p.tables e below (T9.setTop (mkF m 134 #[.val (.long q1), .second, .val (.long q2), .second, .val (.int p3), .val (.int p4), .val (.int p5), .val (.int p6), .val (.int (own_H p6)), .val (.int (3 : Int32)), .val (.int (p3 &&& (127 : Int32))), .val (.int (p4 &&& (127 : Int32))), .val (.int (p5 &&& (127 : Int32))), .val (.ref b1), .val (.ref b5), .val (.int (own_fa (own_H p6) q1 q2 [(p3 &&& (127 : Int32)), (p4 &&& (127 : Int32)), (p5 &&& (127 : Int32))])), .val (.int (p5 &&& (127 : Int32)))] [])) _
      have em : (own_ix (own_H p6) q1 q2 (p5 &&& (127 : Int32)) (-1 : Int32)) = (p5 &&& (127 : Int32)) := by rw [own_ix, if_pos ck]
      rw [em] at kt
      exact kt
    · refine XS.icmpYes X9.here hx rfl (pc0 := 127) (pc' := 134) rfl (hb hby at_127) rfl (feq ck).2 (by decide) (by decide) ?_
      show Steps p.tables e below (T9.setTop (mkF m 134 #[.val (.long q1), .second, .val (.long q2), .second, .val (.int p3), .val (.int p4), .val (.int p5), .val (.int p6), .val (.int (own_H p6)), .val (.int (3 : Int32)), .val (.int (p3 &&& (127 : Int32))), .val (.int (p4 &&& (127 : Int32))), .val (.int (p5 &&& (127 : Int32))), .val (.ref b1), .val (.ref b5), .val (.int (own_fa (own_H p6) q1 q2 [(p3 &&& (127 : Int32)), (p4 &&& (127 : Int32)), (p5 &&& (127 : Int32))])), .val (.int (-1 : Int32))] [])) _
      have em : (own_ix (own_H p6) q1 q2 (p5 &&& (127 : Int32)) (-1 : Int32)) = (-1 : Int32) := by rw [own_ix, if_neg ck]
      rw [em] at kt
      exact kt
  obtain ⟨_, _, ⟨T10, L10, k10, n10⟩, -, X10, ⟨Lc10, hQ10, l10, y10, z10⟩, st10⟩ := Jvm.LawKit.callS X9 hx (y := (⟨"com/example/ilmarinen/ilmarinen/search/GroundTaskFirstAtomPinLaw", "holds", "(JJI)Z"⟩ : MethodName)) hown (mvT hZ (hw _ (List.mem_of_getElem? (i := 6) rfl))) (mvT hZ (hw _ (List.mem_of_getElem? (i := 7) rfl))) (mvT hZ (hw _ (List.mem_of_getElem? (i := 8) rfl))) (mvT hZ (hw _ (List.mem_of_getElem? (i := 9) rfl))) (by decide) (backOf (W := 0) (rm2 l Z a0 hw [] q1 q2 (p4 &&& (127 : Int32)) h7 n0 Zs7) hZ (hw _ (List.mem_of_getElem? (i := 9) rfl)) (hw _ (List.mem_of_getElem? (i := 8) rfl)) (by decide) (by decide)) (g := (mkF m 144 #[.val (.long q1), .second, .val (.long q2), .second, .val (.int p3), .val (.int p4), .val (.int p5), .val (.int p6), .val (.int (own_H p6)), .val (.int (3 : Int32)), .val (.int (p3 &&& (127 : Int32))), .val (.int (p4 &&& (127 : Int32))), .val (.int (p5 &&& (127 : Int32))), .val (.ref b1), .val (.ref b5), .val (.int (own_fa (own_H p6) q1 q2 [(p3 &&& (127 : Int32)), (p4 &&& (127 : Int32)), (p5 &&& (127 : Int32))])), .val (.int (own_ix (own_H p6) q1 q2 (p5 &&& (127 : Int32)) (-1 : Int32)))] [(.int (p4 &&& (127 : Int32))), (.long q2), (.long q1)])) rfl (by rw [hml]; rfl) (argsL := [(.long q1), (.long q2), (.int (p4 &&& (127 : Int32)))]) (rest := []) (lenOf pd_ho rfl) rfl (by show 2 * 0 + _ ≤ _; exact Nat.le_of_eq rfl) (hb hby at_144) (fun _ _ => ⟨rfl, e9, (by decide : 2 + 0 ≤ _), (by decide : 5 + 0 ≤ _)⟩)
  dsimp only [Pt.U, Pt.locs, Pt.cells, Pt.slots] at X10 l10 y10 z10 st10 hQ10
  subst l10 y10 z10
  obtain ⟨rfl, N10q, e10⟩ := hQ10
  have N10 := Fr.app N9 N10q
  have j1 : ∀ t, Steps p.tables e below (T10.setTop (mkF m 156 #[.val (.long q1), .second, .val (.long q2), .second, .val (.int p3), .val (.int p4), .val (.int p5), .val (.int p6), .val (.int (own_H p6)), .val (.int (3 : Int32)), .val (.int (p3 &&& (127 : Int32))), .val (.int (p4 &&& (127 : Int32))), .val (.int (p5 &&& (127 : Int32))), .val (.ref b1), .val (.ref b5), .val (.int (own_fa (own_H p6) q1 q2 [(p3 &&& (127 : Int32)), (p4 &&& (127 : Int32)), (p5 &&& (127 : Int32))])), .val (.int (own_ix (own_H p6) q1 q2 (p4 &&& (127 : Int32)) (own_ix (own_H p6) q1 q2 (p5 &&& (127 : Int32)) (-1 : Int32))))] [])) t → Steps p.tables e below (T10.setTop (mkF m 147 #[.val (.long q1), .second, .val (.long q2), .second, .val (.int p3), .val (.int p4), .val (.int p5), .val (.int p6), .val (.int (own_H p6)), .val (.int (3 : Int32)), .val (.int (p3 &&& (127 : Int32))), .val (.int (p4 &&& (127 : Int32))), .val (.int (p5 &&& (127 : Int32))), .val (.ref b1), .val (.ref b5), .val (.int (own_fa (own_H p6) q1 q2 [(p3 &&& (127 : Int32)), (p4 &&& (127 : Int32)), (p5 &&& (127 : Int32))])), .val (.int (own_ix (own_H p6) q1 q2 (p5 &&& (127 : Int32)) (-1 : Int32)))] [(.int (own_hold q1 q2 (p4 &&& (127 : Int32))))])) t := by
    intro t kt
    show Steps p.tables e below (T10.setTop (mkF m 147 #[.val (.long q1), .second, .val (.long q2), .second, .val (.int p3), .val (.int p4), .val (.int p5), .val (.int p6), .val (.int (own_H p6)), .val (.int (3 : Int32)), .val (.int (p3 &&& (127 : Int32))), .val (.int (p4 &&& (127 : Int32))), .val (.int (p5 &&& (127 : Int32))), .val (.ref b1), .val (.ref b5), .val (.int (own_fa (own_H p6) q1 q2 [(p3 &&& (127 : Int32)), (p4 &&& (127 : Int32)), (p5 &&& (127 : Int32))])), .val (.int (own_ix (own_H p6) q1 q2 (p5 &&& (127 : Int32)) (-1 : Int32)))] [(.int (own_hold q1 q2 (p4 &&& (127 : Int32))))])) _
    refine XS.iload X10.here hx rfl (hb hby at_147) rfl ?_
    show Steps p.tables e below (T10.setTop (mkF m 149 #[.val (.long q1), .second, .val (.long q2), .second, .val (.int p3), .val (.int p4), .val (.int p5), .val (.int p6), .val (.int (own_H p6)), .val (.int (3 : Int32)), .val (.int (p3 &&& (127 : Int32))), .val (.int (p4 &&& (127 : Int32))), .val (.int (p5 &&& (127 : Int32))), .val (.ref b1), .val (.ref b5), .val (.int (own_fa (own_H p6) q1 q2 [(p3 &&& (127 : Int32)), (p4 &&& (127 : Int32)), (p5 &&& (127 : Int32))])), .val (.int (own_ix (own_H p6) q1 q2 (p5 &&& (127 : Int32)) (-1 : Int32)))] [(.int (own_H p6)), (.int (own_hold q1 q2 (p4 &&& (127 : Int32))))])) _
    by_cases ck : own_hold q1 q2 (p4 &&& (127 : Int32)) = (own_H p6)
    · refine XS.icmpNo X10.here hx rfl (hb hby at_149) rfl (teq ck).2 ?_
      show Steps p.tables e below (T10.setTop (mkF m 152 #[.val (.long q1), .second, .val (.long q2), .second, .val (.int p3), .val (.int p4), .val (.int p5), .val (.int p6), .val (.int (own_H p6)), .val (.int (3 : Int32)), .val (.int (p3 &&& (127 : Int32))), .val (.int (p4 &&& (127 : Int32))), .val (.int (p5 &&& (127 : Int32))), .val (.ref b1), .val (.ref b5), .val (.int (own_fa (own_H p6) q1 q2 [(p3 &&& (127 : Int32)), (p4 &&& (127 : Int32)), (p5 &&& (127 : Int32))])), .val (.int (own_ix (own_H p6) q1 q2 (p5 &&& (127 : Int32)) (-1 : Int32)))] [])) _
      refine XS.iload X10.here hx rfl (hb hby at_152) rfl ?_
      show Steps p.tables e below (T10.setTop (mkF m 154 #[.val (.long q1), .second, .val (.long q2), .second, .val (.int p3), .val (.int p4), .val (.int p5), .val (.int p6), .val (.int (own_H p6)), .val (.int (3 : Int32)), .val (.int (p3 &&& (127 : Int32))), .val (.int (p4 &&& (127 : Int32))), .val (.int (p5 &&& (127 : Int32))), .val (.ref b1), .val (.ref b5), .val (.int (own_fa (own_H p6) q1 q2 [(p3 &&& (127 : Int32)), (p4 &&& (127 : Int32)), (p5 &&& (127 : Int32))])), .val (.int (own_ix (own_H p6) q1 q2 (p5 &&& (127 : Int32)) (-1 : Int32)))] [(.int (p4 &&& (127 : Int32)))])) _
      refine XS.istore X10.here hx rfl (hb hby at_154) rfl (l' := #[.val (.long q1), .second, .val (.long q2), .second, .val (.int p3), .val (.int p4), .val (.int p5), .val (.int p6), .val (.int (own_H p6)), .val (.int (3 : Int32)), .val (.int (p3 &&& (127 : Int32))), .val (.int (p4 &&& (127 : Int32))), .val (.int (p5 &&& (127 : Int32))), .val (.ref b1), .val (.ref b5), .val (.int (own_fa (own_H p6) q1 q2 [(p3 &&& (127 : Int32)), (p4 &&& (127 : Int32)), (p5 &&& (127 : Int32))])), .val (.int (p4 &&& (127 : Int32)))]) rfl ?_
      show Steps p.tables e below (T10.setTop (mkF m 156 #[.val (.long q1), .second, .val (.long q2), .second, .val (.int p3), .val (.int p4), .val (.int p5), .val (.int p6), .val (.int (own_H p6)), .val (.int (3 : Int32)), .val (.int (p3 &&& (127 : Int32))), .val (.int (p4 &&& (127 : Int32))), .val (.int (p5 &&& (127 : Int32))), .val (.ref b1), .val (.ref b5), .val (.int (own_fa (own_H p6) q1 q2 [(p3 &&& (127 : Int32)), (p4 &&& (127 : Int32)), (p5 &&& (127 : Int32))])), .val (.int (p4 &&& (127 : Int32)))] [])) _
      have em : (own_ix (own_H p6) q1 q2 (p4 &&& (127 : Int32)) (own_ix (own_H p6) q1 q2 (p5 &&& (127 : Int32)) (-1 : Int32))) = (p4 &&& (127 : Int32)) := by rw [own_ix, if_pos ck]
      rw [em] at kt
      exact kt
    · refine XS.icmpYes X10.here hx rfl (pc0 := 149) (pc' := 156) rfl (hb hby at_149) rfl (feq ck).2 (by decide) (by decide) ?_
      show Steps p.tables e below (T10.setTop (mkF m 156 #[.val (.long q1), .second, .val (.long q2), .second, .val (.int p3), .val (.int p4), .val (.int p5), .val (.int p6), .val (.int (own_H p6)), .val (.int (3 : Int32)), .val (.int (p3 &&& (127 : Int32))), .val (.int (p4 &&& (127 : Int32))), .val (.int (p5 &&& (127 : Int32))), .val (.ref b1), .val (.ref b5), .val (.int (own_fa (own_H p6) q1 q2 [(p3 &&& (127 : Int32)), (p4 &&& (127 : Int32)), (p5 &&& (127 : Int32))])), .val (.int (own_ix (own_H p6) q1 q2 (p5 &&& (127 : Int32)) (-1 : Int32)))] [])) _
      have em : (own_ix (own_H p6) q1 q2 (p4 &&& (127 : Int32)) (own_ix (own_H p6) q1 q2 (p5 &&& (127 : Int32)) (-1 : Int32))) = (own_ix (own_H p6) q1 q2 (p5 &&& (127 : Int32)) (-1 : Int32)) := by rw [own_ix, if_neg ck]
      rw [em] at kt
      exact kt
  obtain ⟨_, _, ⟨T11, L11, k11, n11⟩, -, X11, ⟨Lc11, hQ11, l11, y11, z11⟩, st11⟩ := Jvm.LawKit.callS X10 hx (y := (⟨"com/example/ilmarinen/ilmarinen/search/GroundTaskFirstAtomPinLaw", "holds", "(JJI)Z"⟩ : MethodName)) hown (mvT hZ (hw _ (List.mem_of_getElem? (i := 6) rfl))) (mvT hZ (hw _ (List.mem_of_getElem? (i := 7) rfl))) (mvT hZ (hw _ (List.mem_of_getElem? (i := 8) rfl))) (mvT hZ (hw _ (List.mem_of_getElem? (i := 9) rfl))) (by decide) (backOf (W := 0) (rm2 l Z a0 hw [] q1 q2 (p3 &&& (127 : Int32)) h7 n0 Zs7) hZ (hw _ (List.mem_of_getElem? (i := 9) rfl)) (hw _ (List.mem_of_getElem? (i := 8) rfl)) (by decide) (by decide)) (g := (mkF m 166 #[.val (.long q1), .second, .val (.long q2), .second, .val (.int p3), .val (.int p4), .val (.int p5), .val (.int p6), .val (.int (own_H p6)), .val (.int (3 : Int32)), .val (.int (p3 &&& (127 : Int32))), .val (.int (p4 &&& (127 : Int32))), .val (.int (p5 &&& (127 : Int32))), .val (.ref b1), .val (.ref b5), .val (.int (own_fa (own_H p6) q1 q2 [(p3 &&& (127 : Int32)), (p4 &&& (127 : Int32)), (p5 &&& (127 : Int32))])), .val (.int (own_ix (own_H p6) q1 q2 (p4 &&& (127 : Int32)) (own_ix (own_H p6) q1 q2 (p5 &&& (127 : Int32)) (-1 : Int32))))] [(.int (p3 &&& (127 : Int32))), (.long q2), (.long q1)])) rfl (by rw [hml]; rfl) (argsL := [(.long q1), (.long q2), (.int (p3 &&& (127 : Int32)))]) (rest := []) (lenOf pd_ho rfl) rfl (by show 2 * 0 + _ ≤ _; exact Nat.le_of_eq rfl) (hb hby at_166) (fun _ _ => ⟨rfl, e10, (by decide : 2 + 0 ≤ _), (by decide : 5 + 0 ≤ _)⟩)
  dsimp only [Pt.U, Pt.locs, Pt.cells, Pt.slots] at X11 l11 y11 z11 st11 hQ11
  subst l11 y11 z11
  obtain ⟨rfl, N11q, e11⟩ := hQ11
  have N11 := Fr.app N10 N11q
  have j0 : ∀ t, Steps p.tables e below (T11.setTop (mkF m 178 #[.val (.long q1), .second, .val (.long q2), .second, .val (.int p3), .val (.int p4), .val (.int p5), .val (.int p6), .val (.int (own_H p6)), .val (.int (3 : Int32)), .val (.int (p3 &&& (127 : Int32))), .val (.int (p4 &&& (127 : Int32))), .val (.int (p5 &&& (127 : Int32))), .val (.ref b1), .val (.ref b5), .val (.int (own_fa (own_H p6) q1 q2 [(p3 &&& (127 : Int32)), (p4 &&& (127 : Int32)), (p5 &&& (127 : Int32))])), .val (.int (own_ix (own_H p6) q1 q2 (p3 &&& (127 : Int32)) (own_ix (own_H p6) q1 q2 (p4 &&& (127 : Int32)) (own_ix (own_H p6) q1 q2 (p5 &&& (127 : Int32)) (-1 : Int32)))))] [])) t → Steps p.tables e below (T11.setTop (mkF m 169 #[.val (.long q1), .second, .val (.long q2), .second, .val (.int p3), .val (.int p4), .val (.int p5), .val (.int p6), .val (.int (own_H p6)), .val (.int (3 : Int32)), .val (.int (p3 &&& (127 : Int32))), .val (.int (p4 &&& (127 : Int32))), .val (.int (p5 &&& (127 : Int32))), .val (.ref b1), .val (.ref b5), .val (.int (own_fa (own_H p6) q1 q2 [(p3 &&& (127 : Int32)), (p4 &&& (127 : Int32)), (p5 &&& (127 : Int32))])), .val (.int (own_ix (own_H p6) q1 q2 (p4 &&& (127 : Int32)) (own_ix (own_H p6) q1 q2 (p5 &&& (127 : Int32)) (-1 : Int32))))] [(.int (own_hold q1 q2 (p3 &&& (127 : Int32))))])) t := by
    intro t kt
    show Steps p.tables e below (T11.setTop (mkF m 169 #[.val (.long q1), .second, .val (.long q2), .second, .val (.int p3), .val (.int p4), .val (.int p5), .val (.int p6), .val (.int (own_H p6)), .val (.int (3 : Int32)), .val (.int (p3 &&& (127 : Int32))), .val (.int (p4 &&& (127 : Int32))), .val (.int (p5 &&& (127 : Int32))), .val (.ref b1), .val (.ref b5), .val (.int (own_fa (own_H p6) q1 q2 [(p3 &&& (127 : Int32)), (p4 &&& (127 : Int32)), (p5 &&& (127 : Int32))])), .val (.int (own_ix (own_H p6) q1 q2 (p4 &&& (127 : Int32)) (own_ix (own_H p6) q1 q2 (p5 &&& (127 : Int32)) (-1 : Int32))))] [(.int (own_hold q1 q2 (p3 &&& (127 : Int32))))])) _
    refine XS.iload X11.here hx rfl (hb hby at_169) rfl ?_
    show Steps p.tables e below (T11.setTop (mkF m 171 #[.val (.long q1), .second, .val (.long q2), .second, .val (.int p3), .val (.int p4), .val (.int p5), .val (.int p6), .val (.int (own_H p6)), .val (.int (3 : Int32)), .val (.int (p3 &&& (127 : Int32))), .val (.int (p4 &&& (127 : Int32))), .val (.int (p5 &&& (127 : Int32))), .val (.ref b1), .val (.ref b5), .val (.int (own_fa (own_H p6) q1 q2 [(p3 &&& (127 : Int32)), (p4 &&& (127 : Int32)), (p5 &&& (127 : Int32))])), .val (.int (own_ix (own_H p6) q1 q2 (p4 &&& (127 : Int32)) (own_ix (own_H p6) q1 q2 (p5 &&& (127 : Int32)) (-1 : Int32))))] [(.int (own_H p6)), (.int (own_hold q1 q2 (p3 &&& (127 : Int32))))])) _
    by_cases ck : own_hold q1 q2 (p3 &&& (127 : Int32)) = (own_H p6)
    · refine XS.icmpNo X11.here hx rfl (hb hby at_171) rfl (teq ck).2 ?_
      show Steps p.tables e below (T11.setTop (mkF m 174 #[.val (.long q1), .second, .val (.long q2), .second, .val (.int p3), .val (.int p4), .val (.int p5), .val (.int p6), .val (.int (own_H p6)), .val (.int (3 : Int32)), .val (.int (p3 &&& (127 : Int32))), .val (.int (p4 &&& (127 : Int32))), .val (.int (p5 &&& (127 : Int32))), .val (.ref b1), .val (.ref b5), .val (.int (own_fa (own_H p6) q1 q2 [(p3 &&& (127 : Int32)), (p4 &&& (127 : Int32)), (p5 &&& (127 : Int32))])), .val (.int (own_ix (own_H p6) q1 q2 (p4 &&& (127 : Int32)) (own_ix (own_H p6) q1 q2 (p5 &&& (127 : Int32)) (-1 : Int32))))] [])) _
      refine XS.iload X11.here hx rfl (hb hby at_174) rfl ?_
      show Steps p.tables e below (T11.setTop (mkF m 176 #[.val (.long q1), .second, .val (.long q2), .second, .val (.int p3), .val (.int p4), .val (.int p5), .val (.int p6), .val (.int (own_H p6)), .val (.int (3 : Int32)), .val (.int (p3 &&& (127 : Int32))), .val (.int (p4 &&& (127 : Int32))), .val (.int (p5 &&& (127 : Int32))), .val (.ref b1), .val (.ref b5), .val (.int (own_fa (own_H p6) q1 q2 [(p3 &&& (127 : Int32)), (p4 &&& (127 : Int32)), (p5 &&& (127 : Int32))])), .val (.int (own_ix (own_H p6) q1 q2 (p4 &&& (127 : Int32)) (own_ix (own_H p6) q1 q2 (p5 &&& (127 : Int32)) (-1 : Int32))))] [(.int (p3 &&& (127 : Int32)))])) _
      refine XS.istore X11.here hx rfl (hb hby at_176) rfl (l' := #[.val (.long q1), .second, .val (.long q2), .second, .val (.int p3), .val (.int p4), .val (.int p5), .val (.int p6), .val (.int (own_H p6)), .val (.int (3 : Int32)), .val (.int (p3 &&& (127 : Int32))), .val (.int (p4 &&& (127 : Int32))), .val (.int (p5 &&& (127 : Int32))), .val (.ref b1), .val (.ref b5), .val (.int (own_fa (own_H p6) q1 q2 [(p3 &&& (127 : Int32)), (p4 &&& (127 : Int32)), (p5 &&& (127 : Int32))])), .val (.int (p3 &&& (127 : Int32)))]) rfl ?_
      show Steps p.tables e below (T11.setTop (mkF m 178 #[.val (.long q1), .second, .val (.long q2), .second, .val (.int p3), .val (.int p4), .val (.int p5), .val (.int p6), .val (.int (own_H p6)), .val (.int (3 : Int32)), .val (.int (p3 &&& (127 : Int32))), .val (.int (p4 &&& (127 : Int32))), .val (.int (p5 &&& (127 : Int32))), .val (.ref b1), .val (.ref b5), .val (.int (own_fa (own_H p6) q1 q2 [(p3 &&& (127 : Int32)), (p4 &&& (127 : Int32)), (p5 &&& (127 : Int32))])), .val (.int (p3 &&& (127 : Int32)))] [])) _
      have em : (own_ix (own_H p6) q1 q2 (p3 &&& (127 : Int32)) (own_ix (own_H p6) q1 q2 (p4 &&& (127 : Int32)) (own_ix (own_H p6) q1 q2 (p5 &&& (127 : Int32)) (-1 : Int32)))) = (p3 &&& (127 : Int32)) := by rw [own_ix, if_pos ck]
      rw [em] at kt
      exact kt
    · refine XS.icmpYes X11.here hx rfl (pc0 := 171) (pc' := 178) rfl (hb hby at_171) rfl (feq ck).2 (by decide) (by decide) ?_
      show Steps p.tables e below (T11.setTop (mkF m 178 #[.val (.long q1), .second, .val (.long q2), .second, .val (.int p3), .val (.int p4), .val (.int p5), .val (.int p6), .val (.int (own_H p6)), .val (.int (3 : Int32)), .val (.int (p3 &&& (127 : Int32))), .val (.int (p4 &&& (127 : Int32))), .val (.int (p5 &&& (127 : Int32))), .val (.ref b1), .val (.ref b5), .val (.int (own_fa (own_H p6) q1 q2 [(p3 &&& (127 : Int32)), (p4 &&& (127 : Int32)), (p5 &&& (127 : Int32))])), .val (.int (own_ix (own_H p6) q1 q2 (p4 &&& (127 : Int32)) (own_ix (own_H p6) q1 q2 (p5 &&& (127 : Int32)) (-1 : Int32))))] [])) _
      have em : (own_ix (own_H p6) q1 q2 (p3 &&& (127 : Int32)) (own_ix (own_H p6) q1 q2 (p4 &&& (127 : Int32)) (own_ix (own_H p6) q1 q2 (p5 &&& (127 : Int32)) (-1 : Int32)))) = (own_ix (own_H p6) q1 q2 (p4 &&& (127 : Int32)) (own_ix (own_H p6) q1 q2 (p5 &&& (127 : Int32)) (-1 : Int32))) := by rw [own_ix, if_neg ck]
      rw [em] at kt
      exact kt
  have fin : (own_fa (own_H p6) q1 q2 [(p3 &&& (127 : Int32)), (p4 &&& (127 : Int32)), (p5 &&& (127 : Int32))]) = (own_ix (own_H p6) q1 q2 (p3 &&& (127 : Int32)) (own_ix (own_H p6) q1 q2 (p4 &&& (127 : Int32)) (own_ix (own_H p6) q1 q2 (p5 &&& (127 : Int32)) (-1 : Int32)))) := own_fin _ _ _ _ hxs
  have hJ0 : ¬ ((0 : Int32) < 0 ∨ (((newA k5 .long (2 : Int32)).setSlot ((0 : Int32)).toNatClampNeg (.long q1)).setSlot ((1 : Int32)).toNatClampNeg (.long q2)).slots.size ≤ (0 : Int32).toNatClampNeg) := own_in (n := 2) (k := 0) (by decide) rfl rfl (by decide)
  have hJ1 : ¬ ((1 : Int32) < 0 ∨ (((newA k5 .long (2 : Int32)).setSlot ((0 : Int32)).toNatClampNeg (.long q1)).setSlot ((1 : Int32)).toNatClampNeg (.long q2)).slots.size ≤ (1 : Int32).toNatClampNeg) := own_in (n := 2) (k := 1) (by decide) rfl rfl (by decide)
  obtain ⟨fs, hr, hrun, hended, hW, hsame⟩ := X11.leave (v := some (.int (1 : Int32))) (fun h => by rw [Bd.returns] at h; cases h)
  refine ⟨_, _, pre0 _ ?_, hrun, hended, _, _, rfl, ?_, ⟨_, rfl⟩, hW, hsame.mono (by decide) (by decide)⟩
  · show Steps p.tables e below (s₁.setTop (mkF m 0 #[.val (.long q1), .second, .val (.long q2), .second, .val (.int p3), .val (.int p4), .val (.int p5), .val (.int p6), .unset, .unset, .unset, .unset, .unset, .unset, .unset, .unset, .unset] [])) _
    refine jA _ ?_
    show Steps p.tables e below (s₁.setTop (mkF m 12 #[.val (.long q1), .second, .val (.long q2), .second, .val (.int p3), .val (.int p4), .val (.int p5), .val (.int p6), .unset, .unset, .unset, .unset, .unset, .unset, .unset, .unset, .unset] [(.int (own_H p6))])) _
    refine XS.istore X0.here hx rfl (hb hby at_12) rfl (l' := #[.val (.long q1), .second, .val (.long q2), .second, .val (.int p3), .val (.int p4), .val (.int p5), .val (.int p6), .val (.int (own_H p6)), .unset, .unset, .unset, .unset, .unset, .unset, .unset, .unset]) rfl ?_
    show Steps p.tables e below (s₁.setTop (mkF m 14 #[.val (.long q1), .second, .val (.long q2), .second, .val (.int p3), .val (.int p4), .val (.int p5), .val (.int p6), .val (.int (own_H p6)), .unset, .unset, .unset, .unset, .unset, .unset, .unset, .unset] [])) _
    refine XS.iload X0.here hx rfl (hb hby at_14) rfl ?_
    show Steps p.tables e below (s₁.setTop (mkF m 16 #[.val (.long q1), .second, .val (.long q2), .second, .val (.int p3), .val (.int p4), .val (.int p5), .val (.int p6), .val (.int (own_H p6)), .unset, .unset, .unset, .unset, .unset, .unset, .unset, .unset] [(.int p6)])) _
    refine XS.iconst X0.here hx rfl (hb hby at_16) ?_
    show Steps p.tables e below (s₁.setTop (mkF m 17 #[.val (.long q1), .second, .val (.long q2), .second, .val (.int p3), .val (.int p4), .val (.int p5), .val (.int p6), .val (.int (own_H p6)), .unset, .unset, .unset, .unset, .unset, .unset, .unset, .unset] [(.int (1 : Int32)), (.int p6)])) _
    refine XS.iushr X0.here hx rfl (hb hby at_17) rfl ?_
    show Steps p.tables e below (s₁.setTop (mkF m 18 #[.val (.long q1), .second, .val (.long q2), .second, .val (.int p3), .val (.int p4), .val (.int p5), .val (.int p6), .val (.int (own_H p6)), .unset, .unset, .unset, .unset, .unset, .unset, .unset, .unset] [(.int (own_ushr p6 (1 : Int32)))])) _
    refine XS.iconst X0.here hx rfl (hb hby at_18) ?_
    show Steps p.tables e below (s₁.setTop (mkF m 19 #[.val (.long q1), .second, .val (.long q2), .second, .val (.int p3), .val (.int p4), .val (.int p5), .val (.int p6), .val (.int (own_H p6)), .unset, .unset, .unset, .unset, .unset, .unset, .unset, .unset] [(.int (3 : Int32)), (.int (own_ushr p6 (1 : Int32)))])) _
    refine XS.iand X0.here hx rfl (hb hby at_19) rfl ?_
    show Steps p.tables e below (s₁.setTop (mkF m 20 #[.val (.long q1), .second, .val (.long q2), .second, .val (.int p3), .val (.int p4), .val (.int p5), .val (.int p6), .val (.int (own_H p6)), .unset, .unset, .unset, .unset, .unset, .unset, .unset, .unset] [(.int ((own_ushr p6 (1 : Int32)) &&& (3 : Int32)))])) _
    rw [hn]
    show Steps p.tables e below (s₁.setTop (mkF m 20 #[.val (.long q1), .second, .val (.long q2), .second, .val (.int p3), .val (.int p4), .val (.int p5), .val (.int p6), .val (.int (own_H p6)), .unset, .unset, .unset, .unset, .unset, .unset, .unset, .unset] [(.int (3 : Int32))])) _
    refine XS.istore X0.here hx rfl (hb hby at_20) rfl (l' := #[.val (.long q1), .second, .val (.long q2), .second, .val (.int p3), .val (.int p4), .val (.int p5), .val (.int p6), .val (.int (own_H p6)), .val (.int (3 : Int32)), .unset, .unset, .unset, .unset, .unset, .unset, .unset]) rfl ?_
    show Steps p.tables e below (s₁.setTop (mkF m 22 #[.val (.long q1), .second, .val (.long q2), .second, .val (.int p3), .val (.int p4), .val (.int p5), .val (.int p6), .val (.int (own_H p6)), .val (.int (3 : Int32)), .unset, .unset, .unset, .unset, .unset, .unset, .unset] [])) _
    refine XS.iload X0.here hx rfl (hb hby at_22) rfl ?_
    show Steps p.tables e below (s₁.setTop (mkF m 24 #[.val (.long q1), .second, .val (.long q2), .second, .val (.int p3), .val (.int p4), .val (.int p5), .val (.int p6), .val (.int (own_H p6)), .val (.int (3 : Int32)), .unset, .unset, .unset, .unset, .unset, .unset, .unset] [(.int p3)])) _
    refine XS.bipush X0.here hx rfl (hb hby at_24) ?_
    show Steps p.tables e below (s₁.setTop (mkF m 26 #[.val (.long q1), .second, .val (.long q2), .second, .val (.int p3), .val (.int p4), .val (.int p5), .val (.int p6), .val (.int (own_H p6)), .val (.int (3 : Int32)), .unset, .unset, .unset, .unset, .unset, .unset, .unset] [(.int (127 : Int32)), (.int p3)])) _
    refine XS.iand X0.here hx rfl (hb hby at_26) rfl ?_
    show Steps p.tables e below (s₁.setTop (mkF m 27 #[.val (.long q1), .second, .val (.long q2), .second, .val (.int p3), .val (.int p4), .val (.int p5), .val (.int p6), .val (.int (own_H p6)), .val (.int (3 : Int32)), .unset, .unset, .unset, .unset, .unset, .unset, .unset] [(.int (p3 &&& (127 : Int32)))])) _
    refine XS.istore X0.here hx rfl (hb hby at_27) rfl (l' := #[.val (.long q1), .second, .val (.long q2), .second, .val (.int p3), .val (.int p4), .val (.int p5), .val (.int p6), .val (.int (own_H p6)), .val (.int (3 : Int32)), .val (.int (p3 &&& (127 : Int32))), .unset, .unset, .unset, .unset, .unset, .unset]) rfl ?_
    show Steps p.tables e below (s₁.setTop (mkF m 29 #[.val (.long q1), .second, .val (.long q2), .second, .val (.int p3), .val (.int p4), .val (.int p5), .val (.int p6), .val (.int (own_H p6)), .val (.int (3 : Int32)), .val (.int (p3 &&& (127 : Int32))), .unset, .unset, .unset, .unset, .unset, .unset] [])) _
    refine XS.iload X0.here hx rfl (hb hby at_29) rfl ?_
    show Steps p.tables e below (s₁.setTop (mkF m 31 #[.val (.long q1), .second, .val (.long q2), .second, .val (.int p3), .val (.int p4), .val (.int p5), .val (.int p6), .val (.int (own_H p6)), .val (.int (3 : Int32)), .val (.int (p3 &&& (127 : Int32))), .unset, .unset, .unset, .unset, .unset, .unset] [(.int p4)])) _
    refine XS.bipush X0.here hx rfl (hb hby at_31) ?_
    show Steps p.tables e below (s₁.setTop (mkF m 33 #[.val (.long q1), .second, .val (.long q2), .second, .val (.int p3), .val (.int p4), .val (.int p5), .val (.int p6), .val (.int (own_H p6)), .val (.int (3 : Int32)), .val (.int (p3 &&& (127 : Int32))), .unset, .unset, .unset, .unset, .unset, .unset] [(.int (127 : Int32)), (.int p4)])) _
    refine XS.iand X0.here hx rfl (hb hby at_33) rfl ?_
    show Steps p.tables e below (s₁.setTop (mkF m 34 #[.val (.long q1), .second, .val (.long q2), .second, .val (.int p3), .val (.int p4), .val (.int p5), .val (.int p6), .val (.int (own_H p6)), .val (.int (3 : Int32)), .val (.int (p3 &&& (127 : Int32))), .unset, .unset, .unset, .unset, .unset, .unset] [(.int (p4 &&& (127 : Int32)))])) _
    refine XS.istore X0.here hx rfl (hb hby at_34) rfl (l' := #[.val (.long q1), .second, .val (.long q2), .second, .val (.int p3), .val (.int p4), .val (.int p5), .val (.int p6), .val (.int (own_H p6)), .val (.int (3 : Int32)), .val (.int (p3 &&& (127 : Int32))), .val (.int (p4 &&& (127 : Int32))), .unset, .unset, .unset, .unset, .unset]) rfl ?_
    show Steps p.tables e below (s₁.setTop (mkF m 36 #[.val (.long q1), .second, .val (.long q2), .second, .val (.int p3), .val (.int p4), .val (.int p5), .val (.int p6), .val (.int (own_H p6)), .val (.int (3 : Int32)), .val (.int (p3 &&& (127 : Int32))), .val (.int (p4 &&& (127 : Int32))), .unset, .unset, .unset, .unset, .unset] [])) _
    refine XS.iload X0.here hx rfl (hb hby at_36) rfl ?_
    show Steps p.tables e below (s₁.setTop (mkF m 38 #[.val (.long q1), .second, .val (.long q2), .second, .val (.int p3), .val (.int p4), .val (.int p5), .val (.int p6), .val (.int (own_H p6)), .val (.int (3 : Int32)), .val (.int (p3 &&& (127 : Int32))), .val (.int (p4 &&& (127 : Int32))), .unset, .unset, .unset, .unset, .unset] [(.int p5)])) _
    refine XS.bipush X0.here hx rfl (hb hby at_38) ?_
    show Steps p.tables e below (s₁.setTop (mkF m 40 #[.val (.long q1), .second, .val (.long q2), .second, .val (.int p3), .val (.int p4), .val (.int p5), .val (.int p6), .val (.int (own_H p6)), .val (.int (3 : Int32)), .val (.int (p3 &&& (127 : Int32))), .val (.int (p4 &&& (127 : Int32))), .unset, .unset, .unset, .unset, .unset] [(.int (127 : Int32)), (.int p5)])) _
    refine XS.iand X0.here hx rfl (hb hby at_40) rfl ?_
    show Steps p.tables e below (s₁.setTop (mkF m 41 #[.val (.long q1), .second, .val (.long q2), .second, .val (.int p3), .val (.int p4), .val (.int p5), .val (.int p6), .val (.int (own_H p6)), .val (.int (3 : Int32)), .val (.int (p3 &&& (127 : Int32))), .val (.int (p4 &&& (127 : Int32))), .unset, .unset, .unset, .unset, .unset] [(.int (p5 &&& (127 : Int32)))])) _
    refine XS.istore X0.here hx rfl (hb hby at_41) rfl (l' := #[.val (.long q1), .second, .val (.long q2), .second, .val (.int p3), .val (.int p4), .val (.int p5), .val (.int p6), .val (.int (own_H p6)), .val (.int (3 : Int32)), .val (.int (p3 &&& (127 : Int32))), .val (.int (p4 &&& (127 : Int32))), .val (.int (p5 &&& (127 : Int32))), .unset, .unset, .unset, .unset]) rfl ?_
    show Steps p.tables e below (s₁.setTop (mkF m 43 #[.val (.long q1), .second, .val (.long q2), .second, .val (.int p3), .val (.int p4), .val (.int p5), .val (.int p6), .val (.int (own_H p6)), .val (.int (3 : Int32)), .val (.int (p3 &&& (127 : Int32))), .val (.int (p4 &&& (127 : Int32))), .val (.int (p5 &&& (127 : Int32))), .unset, .unset, .unset, .unset] [])) _
    refine XS.iload X0.here hx rfl (hb hby at_43) rfl ?_
    show Steps p.tables e below (s₁.setTop (mkF m 45 #[.val (.long q1), .second, .val (.long q2), .second, .val (.int p3), .val (.int p4), .val (.int p5), .val (.int p6), .val (.int (own_H p6)), .val (.int (3 : Int32)), .val (.int (p3 &&& (127 : Int32))), .val (.int (p4 &&& (127 : Int32))), .val (.int (p5 &&& (127 : Int32))), .unset, .unset, .unset, .unset] [(.int (3 : Int32))])) _
    refine st1 _ ?_
    show Steps p.tables e below (T1.setTop (mkF m 47 #[.val (.long q1), .second, .val (.long q2), .second, .val (.int p3), .val (.int p4), .val (.int p5), .val (.int p6), .val (.int (own_H p6)), .val (.int (3 : Int32)), .val (.int (p3 &&& (127 : Int32))), .val (.int (p4 &&& (127 : Int32))), .val (.int (p5 &&& (127 : Int32))), .unset, .unset, .unset, .unset] [(.ref b1)])) _
    refine XS.astore X1.here hx rfl (hb hby at_47) rfl rfl (l' := #[.val (.long q1), .second, .val (.long q2), .second, .val (.int p3), .val (.int p4), .val (.int p5), .val (.int p6), .val (.int (own_H p6)), .val (.int (3 : Int32)), .val (.int (p3 &&& (127 : Int32))), .val (.int (p4 &&& (127 : Int32))), .val (.int (p5 &&& (127 : Int32))), .val (.ref b1), .unset, .unset, .unset]) rfl ?_
    show Steps p.tables e below (T1.setTop (mkF m 49 #[.val (.long q1), .second, .val (.long q2), .second, .val (.int p3), .val (.int p4), .val (.int p5), .val (.int p6), .val (.int (own_H p6)), .val (.int (3 : Int32)), .val (.int (p3 &&& (127 : Int32))), .val (.int (p4 &&& (127 : Int32))), .val (.int (p5 &&& (127 : Int32))), .val (.ref b1), .unset, .unset, .unset] [])) _
    refine XS.iload X1.here hx rfl (hb hby at_49) rfl ?_
    show Steps p.tables e below (T1.setTop (mkF m 51 #[.val (.long q1), .second, .val (.long q2), .second, .val (.int p3), .val (.int p4), .val (.int p5), .val (.int p6), .val (.int (own_H p6)), .val (.int (3 : Int32)), .val (.int (p3 &&& (127 : Int32))), .val (.int (p4 &&& (127 : Int32))), .val (.int (p5 &&& (127 : Int32))), .val (.ref b1), .unset, .unset, .unset] [(.int (3 : Int32))])) _
    refine XS.iconst X1.here hx rfl (hb hby at_51) ?_
    show Steps p.tables e below (T1.setTop (mkF m 52 #[.val (.long q1), .second, .val (.long q2), .second, .val (.int p3), .val (.int p4), .val (.int p5), .val (.int p6), .val (.int (own_H p6)), .val (.int (3 : Int32)), .val (.int (p3 &&& (127 : Int32))), .val (.int (p4 &&& (127 : Int32))), .val (.int (p5 &&& (127 : Int32))), .val (.ref b1), .unset, .unset, .unset] [(.int (1 : Int32)), (.int (3 : Int32))])) _
    refine XS.icmpNo X1.here hx rfl (hb hby at_52) rfl (flt (by decide)).1 ?_
    show Steps p.tables e below (T1.setTop (mkF m 55 #[.val (.long q1), .second, .val (.long q2), .second, .val (.int p3), .val (.int p4), .val (.int p5), .val (.int p6), .val (.int (own_H p6)), .val (.int (3 : Int32)), .val (.int (p3 &&& (127 : Int32))), .val (.int (p4 &&& (127 : Int32))), .val (.int (p5 &&& (127 : Int32))), .val (.ref b1), .unset, .unset, .unset] [])) _
    refine XS.aload X1.here hx rfl (hb hby at_55) rfl rfl ?_
    show Steps p.tables e below (T1.setTop (mkF m 57 #[.val (.long q1), .second, .val (.long q2), .second, .val (.int p3), .val (.int p4), .val (.int p5), .val (.int p6), .val (.int (own_H p6)), .val (.int (3 : Int32)), .val (.int (p3 &&& (127 : Int32))), .val (.int (p4 &&& (127 : Int32))), .val (.int (p5 &&& (127 : Int32))), .val (.ref b1), .unset, .unset, .unset] [(.ref b1)])) _
    refine XS.iconst X1.here hx rfl (hb hby at_57) ?_
    show Steps p.tables e below (T1.setTop (mkF m 58 #[.val (.long q1), .second, .val (.long q2), .second, .val (.int p3), .val (.int p4), .val (.int p5), .val (.int p6), .val (.int (own_H p6)), .val (.int (3 : Int32)), .val (.int (p3 &&& (127 : Int32))), .val (.int (p4 &&& (127 : Int32))), .val (.int (p5 &&& (127 : Int32))), .val (.ref b1), .unset, .unset, .unset] [(.int (0 : Int32)), (.ref b1)])) _
    refine XS.iload X1.here hx rfl (hb hby at_58) rfl ?_
    show Steps p.tables e below (T1.setTop (mkF m 60 #[.val (.long q1), .second, .val (.long q2), .second, .val (.int p3), .val (.int p4), .val (.int p5), .val (.int p6), .val (.int (own_H p6)), .val (.int (3 : Int32)), .val (.int (p3 &&& (127 : Int32))), .val (.int (p4 &&& (127 : Int32))), .val (.int (p5 &&& (127 : Int32))), .val (.ref b1), .unset, .unset, .unset] [(.int (p3 &&& (127 : Int32))), (.int (0 : Int32)), (.ref b1)])) _
    refine st2 _ ?_
    show Steps p.tables e below (T2.setTop (mkF m 61 #[.val (.long q1), .second, .val (.long q2), .second, .val (.int p3), .val (.int p4), .val (.int p5), .val (.int p6), .val (.int (own_H p6)), .val (.int (3 : Int32)), .val (.int (p3 &&& (127 : Int32))), .val (.int (p4 &&& (127 : Int32))), .val (.int (p5 &&& (127 : Int32))), .val (.ref b1), .unset, .unset, .unset] [])) _
    refine XS.iload X2.here hx rfl (hb hby at_61) rfl ?_
    show Steps p.tables e below (T2.setTop (mkF m 63 #[.val (.long q1), .second, .val (.long q2), .second, .val (.int p3), .val (.int p4), .val (.int p5), .val (.int p6), .val (.int (own_H p6)), .val (.int (3 : Int32)), .val (.int (p3 &&& (127 : Int32))), .val (.int (p4 &&& (127 : Int32))), .val (.int (p5 &&& (127 : Int32))), .val (.ref b1), .unset, .unset, .unset] [(.int (3 : Int32))])) _
    refine XS.iconst X2.here hx rfl (hb hby at_63) ?_
    show Steps p.tables e below (T2.setTop (mkF m 64 #[.val (.long q1), .second, .val (.long q2), .second, .val (.int p3), .val (.int p4), .val (.int p5), .val (.int p6), .val (.int (own_H p6)), .val (.int (3 : Int32)), .val (.int (p3 &&& (127 : Int32))), .val (.int (p4 &&& (127 : Int32))), .val (.int (p5 &&& (127 : Int32))), .val (.ref b1), .unset, .unset, .unset] [(.int (2 : Int32)), (.int (3 : Int32))])) _
    refine XS.icmpNo X2.here hx rfl (hb hby at_64) rfl (flt (by decide)).1 ?_
    show Steps p.tables e below (T2.setTop (mkF m 67 #[.val (.long q1), .second, .val (.long q2), .second, .val (.int p3), .val (.int p4), .val (.int p5), .val (.int p6), .val (.int (own_H p6)), .val (.int (3 : Int32)), .val (.int (p3 &&& (127 : Int32))), .val (.int (p4 &&& (127 : Int32))), .val (.int (p5 &&& (127 : Int32))), .val (.ref b1), .unset, .unset, .unset] [])) _
    refine XS.aload X2.here hx rfl (hb hby at_67) rfl rfl ?_
    show Steps p.tables e below (T2.setTop (mkF m 69 #[.val (.long q1), .second, .val (.long q2), .second, .val (.int p3), .val (.int p4), .val (.int p5), .val (.int p6), .val (.int (own_H p6)), .val (.int (3 : Int32)), .val (.int (p3 &&& (127 : Int32))), .val (.int (p4 &&& (127 : Int32))), .val (.int (p5 &&& (127 : Int32))), .val (.ref b1), .unset, .unset, .unset] [(.ref b1)])) _
    refine XS.iconst X2.here hx rfl (hb hby at_69) ?_
    show Steps p.tables e below (T2.setTop (mkF m 70 #[.val (.long q1), .second, .val (.long q2), .second, .val (.int p3), .val (.int p4), .val (.int p5), .val (.int p6), .val (.int (own_H p6)), .val (.int (3 : Int32)), .val (.int (p3 &&& (127 : Int32))), .val (.int (p4 &&& (127 : Int32))), .val (.int (p5 &&& (127 : Int32))), .val (.ref b1), .unset, .unset, .unset] [(.int (1 : Int32)), (.ref b1)])) _
    refine XS.iload X2.here hx rfl (hb hby at_70) rfl ?_
    show Steps p.tables e below (T2.setTop (mkF m 72 #[.val (.long q1), .second, .val (.long q2), .second, .val (.int p3), .val (.int p4), .val (.int p5), .val (.int p6), .val (.int (own_H p6)), .val (.int (3 : Int32)), .val (.int (p3 &&& (127 : Int32))), .val (.int (p4 &&& (127 : Int32))), .val (.int (p5 &&& (127 : Int32))), .val (.ref b1), .unset, .unset, .unset] [(.int (p4 &&& (127 : Int32))), (.int (1 : Int32)), (.ref b1)])) _
    refine st3 _ ?_
    show Steps p.tables e below (T3.setTop (mkF m 73 #[.val (.long q1), .second, .val (.long q2), .second, .val (.int p3), .val (.int p4), .val (.int p5), .val (.int p6), .val (.int (own_H p6)), .val (.int (3 : Int32)), .val (.int (p3 &&& (127 : Int32))), .val (.int (p4 &&& (127 : Int32))), .val (.int (p5 &&& (127 : Int32))), .val (.ref b1), .unset, .unset, .unset] [])) _
    refine XS.iload X3.here hx rfl (hb hby at_73) rfl ?_
    show Steps p.tables e below (T3.setTop (mkF m 75 #[.val (.long q1), .second, .val (.long q2), .second, .val (.int p3), .val (.int p4), .val (.int p5), .val (.int p6), .val (.int (own_H p6)), .val (.int (3 : Int32)), .val (.int (p3 &&& (127 : Int32))), .val (.int (p4 &&& (127 : Int32))), .val (.int (p5 &&& (127 : Int32))), .val (.ref b1), .unset, .unset, .unset] [(.int (3 : Int32))])) _
    refine XS.iconst X3.here hx rfl (hb hby at_75) ?_
    show Steps p.tables e below (T3.setTop (mkF m 76 #[.val (.long q1), .second, .val (.long q2), .second, .val (.int p3), .val (.int p4), .val (.int p5), .val (.int p6), .val (.int (own_H p6)), .val (.int (3 : Int32)), .val (.int (p3 &&& (127 : Int32))), .val (.int (p4 &&& (127 : Int32))), .val (.int (p5 &&& (127 : Int32))), .val (.ref b1), .unset, .unset, .unset] [(.int (3 : Int32)), (.int (3 : Int32))])) _
    refine XS.icmpNo X3.here hx rfl (hb hby at_76) rfl (flt (by decide)).1 ?_
    show Steps p.tables e below (T3.setTop (mkF m 79 #[.val (.long q1), .second, .val (.long q2), .second, .val (.int p3), .val (.int p4), .val (.int p5), .val (.int p6), .val (.int (own_H p6)), .val (.int (3 : Int32)), .val (.int (p3 &&& (127 : Int32))), .val (.int (p4 &&& (127 : Int32))), .val (.int (p5 &&& (127 : Int32))), .val (.ref b1), .unset, .unset, .unset] [])) _
    refine XS.aload X3.here hx rfl (hb hby at_79) rfl rfl ?_
    show Steps p.tables e below (T3.setTop (mkF m 81 #[.val (.long q1), .second, .val (.long q2), .second, .val (.int p3), .val (.int p4), .val (.int p5), .val (.int p6), .val (.int (own_H p6)), .val (.int (3 : Int32)), .val (.int (p3 &&& (127 : Int32))), .val (.int (p4 &&& (127 : Int32))), .val (.int (p5 &&& (127 : Int32))), .val (.ref b1), .unset, .unset, .unset] [(.ref b1)])) _
    refine XS.iconst X3.here hx rfl (hb hby at_81) ?_
    show Steps p.tables e below (T3.setTop (mkF m 82 #[.val (.long q1), .second, .val (.long q2), .second, .val (.int p3), .val (.int p4), .val (.int p5), .val (.int p6), .val (.int (own_H p6)), .val (.int (3 : Int32)), .val (.int (p3 &&& (127 : Int32))), .val (.int (p4 &&& (127 : Int32))), .val (.int (p5 &&& (127 : Int32))), .val (.ref b1), .unset, .unset, .unset] [(.int (2 : Int32)), (.ref b1)])) _
    refine XS.iload X3.here hx rfl (hb hby at_82) rfl ?_
    show Steps p.tables e below (T3.setTop (mkF m 84 #[.val (.long q1), .second, .val (.long q2), .second, .val (.int p3), .val (.int p4), .val (.int p5), .val (.int p6), .val (.int (own_H p6)), .val (.int (3 : Int32)), .val (.int (p3 &&& (127 : Int32))), .val (.int (p4 &&& (127 : Int32))), .val (.int (p5 &&& (127 : Int32))), .val (.ref b1), .unset, .unset, .unset] [(.int (p5 &&& (127 : Int32))), (.int (2 : Int32)), (.ref b1)])) _
    refine st4 _ ?_
    show Steps p.tables e below (T4.setTop (mkF m 85 #[.val (.long q1), .second, .val (.long q2), .second, .val (.int p3), .val (.int p4), .val (.int p5), .val (.int p6), .val (.int (own_H p6)), .val (.int (3 : Int32)), .val (.int (p3 &&& (127 : Int32))), .val (.int (p4 &&& (127 : Int32))), .val (.int (p5 &&& (127 : Int32))), .val (.ref b1), .unset, .unset, .unset] [])) _
    refine XS.iconst X4.here hx rfl (hb hby at_85) ?_
    show Steps p.tables e below (T4.setTop (mkF m 86 #[.val (.long q1), .second, .val (.long q2), .second, .val (.int p3), .val (.int p4), .val (.int p5), .val (.int p6), .val (.int (own_H p6)), .val (.int (3 : Int32)), .val (.int (p3 &&& (127 : Int32))), .val (.int (p4 &&& (127 : Int32))), .val (.int (p5 &&& (127 : Int32))), .val (.ref b1), .unset, .unset, .unset] [(.int (2 : Int32))])) _
    refine st5 _ ?_
    show Steps p.tables e below (T5.setTop (mkF m 88 #[.val (.long q1), .second, .val (.long q2), .second, .val (.int p3), .val (.int p4), .val (.int p5), .val (.int p6), .val (.int (own_H p6)), .val (.int (3 : Int32)), .val (.int (p3 &&& (127 : Int32))), .val (.int (p4 &&& (127 : Int32))), .val (.int (p5 &&& (127 : Int32))), .val (.ref b1), .unset, .unset, .unset] [(.ref b5)])) _
    refine XS.dup X5.here hx rfl (hb hby at_88) rfl rfl ?_
    show Steps p.tables e below (T5.setTop (mkF m 89 #[.val (.long q1), .second, .val (.long q2), .second, .val (.int p3), .val (.int p4), .val (.int p5), .val (.int p6), .val (.int (own_H p6)), .val (.int (3 : Int32)), .val (.int (p3 &&& (127 : Int32))), .val (.int (p4 &&& (127 : Int32))), .val (.int (p5 &&& (127 : Int32))), .val (.ref b1), .unset, .unset, .unset] [(.ref b5), (.ref b5)])) _
    refine XS.iconst X5.here hx rfl (hb hby at_89) ?_
    show Steps p.tables e below (T5.setTop (mkF m 90 #[.val (.long q1), .second, .val (.long q2), .second, .val (.int p3), .val (.int p4), .val (.int p5), .val (.int p6), .val (.int (own_H p6)), .val (.int (3 : Int32)), .val (.int (p3 &&& (127 : Int32))), .val (.int (p4 &&& (127 : Int32))), .val (.int (p5 &&& (127 : Int32))), .val (.ref b1), .unset, .unset, .unset] [(.int (0 : Int32)), (.ref b5), (.ref b5)])) _
    refine XS.lloadN X5.here hx rfl (hb hby at_90) rfl ?_
    show Steps p.tables e below (T5.setTop (mkF m 91 #[.val (.long q1), .second, .val (.long q2), .second, .val (.int p3), .val (.int p4), .val (.int p5), .val (.int p6), .val (.int (own_H p6)), .val (.int (3 : Int32)), .val (.int (p3 &&& (127 : Int32))), .val (.int (p4 &&& (127 : Int32))), .val (.int (p5 &&& (127 : Int32))), .val (.ref b1), .unset, .unset, .unset] [(.long q1), (.int (0 : Int32)), (.ref b5), (.ref b5)])) _
    refine st6 _ ?_
    show Steps p.tables e below (T6.setTop (mkF m 92 #[.val (.long q1), .second, .val (.long q2), .second, .val (.int p3), .val (.int p4), .val (.int p5), .val (.int p6), .val (.int (own_H p6)), .val (.int (3 : Int32)), .val (.int (p3 &&& (127 : Int32))), .val (.int (p4 &&& (127 : Int32))), .val (.int (p5 &&& (127 : Int32))), .val (.ref b1), .unset, .unset, .unset] [(.ref b5)])) _
    refine XS.dup X6.here hx rfl (hb hby at_92) rfl rfl ?_
    show Steps p.tables e below (T6.setTop (mkF m 93 #[.val (.long q1), .second, .val (.long q2), .second, .val (.int p3), .val (.int p4), .val (.int p5), .val (.int p6), .val (.int (own_H p6)), .val (.int (3 : Int32)), .val (.int (p3 &&& (127 : Int32))), .val (.int (p4 &&& (127 : Int32))), .val (.int (p5 &&& (127 : Int32))), .val (.ref b1), .unset, .unset, .unset] [(.ref b5), (.ref b5)])) _
    refine XS.iconst X6.here hx rfl (hb hby at_93) ?_
    show Steps p.tables e below (T6.setTop (mkF m 94 #[.val (.long q1), .second, .val (.long q2), .second, .val (.int p3), .val (.int p4), .val (.int p5), .val (.int p6), .val (.int (own_H p6)), .val (.int (3 : Int32)), .val (.int (p3 &&& (127 : Int32))), .val (.int (p4 &&& (127 : Int32))), .val (.int (p5 &&& (127 : Int32))), .val (.ref b1), .unset, .unset, .unset] [(.int (1 : Int32)), (.ref b5), (.ref b5)])) _
    refine XS.lloadN X6.here hx rfl (hb hby at_94) rfl ?_
    show Steps p.tables e below (T6.setTop (mkF m 95 #[.val (.long q1), .second, .val (.long q2), .second, .val (.int p3), .val (.int p4), .val (.int p5), .val (.int p6), .val (.int (own_H p6)), .val (.int (3 : Int32)), .val (.int (p3 &&& (127 : Int32))), .val (.int (p4 &&& (127 : Int32))), .val (.int (p5 &&& (127 : Int32))), .val (.ref b1), .unset, .unset, .unset] [(.long q2), (.int (1 : Int32)), (.ref b5), (.ref b5)])) _
    refine st7 _ ?_
    show Steps p.tables e below (T7.setTop (mkF m 96 #[.val (.long q1), .second, .val (.long q2), .second, .val (.int p3), .val (.int p4), .val (.int p5), .val (.int p6), .val (.int (own_H p6)), .val (.int (3 : Int32)), .val (.int (p3 &&& (127 : Int32))), .val (.int (p4 &&& (127 : Int32))), .val (.int (p5 &&& (127 : Int32))), .val (.ref b1), .unset, .unset, .unset] [(.ref b5)])) _
    refine XS.astore X7.here hx rfl (hb hby at_96) rfl rfl (l' := #[.val (.long q1), .second, .val (.long q2), .second, .val (.int p3), .val (.int p4), .val (.int p5), .val (.int p6), .val (.int (own_H p6)), .val (.int (3 : Int32)), .val (.int (p3 &&& (127 : Int32))), .val (.int (p4 &&& (127 : Int32))), .val (.int (p5 &&& (127 : Int32))), .val (.ref b1), .val (.ref b5), .unset, .unset]) rfl ?_
    show Steps p.tables e below (T7.setTop (mkF m 98 #[.val (.long q1), .second, .val (.long q2), .second, .val (.int p3), .val (.int p4), .val (.int p5), .val (.int p6), .val (.int (own_H p6)), .val (.int (3 : Int32)), .val (.int (p3 &&& (127 : Int32))), .val (.int (p4 &&& (127 : Int32))), .val (.int (p5 &&& (127 : Int32))), .val (.ref b1), .val (.ref b5), .unset, .unset] [])) _
    refine XS.aload X7.here hx rfl (hb hby at_98) rfl rfl ?_
    show Steps p.tables e below (T7.setTop (mkF m 100 #[.val (.long q1), .second, .val (.long q2), .second, .val (.int p3), .val (.int p4), .val (.int p5), .val (.int p6), .val (.int (own_H p6)), .val (.int (3 : Int32)), .val (.int (p3 &&& (127 : Int32))), .val (.int (p4 &&& (127 : Int32))), .val (.int (p5 &&& (127 : Int32))), .val (.ref b1), .val (.ref b5), .unset, .unset] [(.ref b1)])) _
    refine XS.aload X7.here hx rfl (hb hby at_100) rfl rfl ?_
    show Steps p.tables e below (T7.setTop (mkF m 102 #[.val (.long q1), .second, .val (.long q2), .second, .val (.int p3), .val (.int p4), .val (.int p5), .val (.int p6), .val (.int (own_H p6)), .val (.int (3 : Int32)), .val (.int (p3 &&& (127 : Int32))), .val (.int (p4 &&& (127 : Int32))), .val (.int (p5 &&& (127 : Int32))), .val (.ref b1), .val (.ref b5), .unset, .unset] [(.ref b5), (.ref b1)])) _
    refine XS.iload X7.here hx rfl (hb hby at_102) rfl ?_
    show Steps p.tables e below (T7.setTop (mkF m 104 #[.val (.long q1), .second, .val (.long q2), .second, .val (.int p3), .val (.int p4), .val (.int p5), .val (.int p6), .val (.int (own_H p6)), .val (.int (3 : Int32)), .val (.int (p3 &&& (127 : Int32))), .val (.int (p4 &&& (127 : Int32))), .val (.int (p5 &&& (127 : Int32))), .val (.ref b1), .val (.ref b5), .unset, .unset] [(.int (own_H p6)), (.ref b5), (.ref b1)])) _
    refine st8 _ ?_
    show Steps p.tables e below (T8.setTop (mkF m 107 #[.val (.long q1), .second, .val (.long q2), .second, .val (.int p3), .val (.int p4), .val (.int p5), .val (.int p6), .val (.int (own_H p6)), .val (.int (3 : Int32)), .val (.int (p3 &&& (127 : Int32))), .val (.int (p4 &&& (127 : Int32))), .val (.int (p5 &&& (127 : Int32))), .val (.ref b1), .val (.ref b5), .unset, .unset] [(.int (own_fa (own_H p6) q1 q2 [(p3 &&& (127 : Int32)), (p4 &&& (127 : Int32)), (p5 &&& (127 : Int32))]))])) _
    refine XS.istore X8.here hx rfl (hb hby at_107) rfl (l' := #[.val (.long q1), .second, .val (.long q2), .second, .val (.int p3), .val (.int p4), .val (.int p5), .val (.int p6), .val (.int (own_H p6)), .val (.int (3 : Int32)), .val (.int (p3 &&& (127 : Int32))), .val (.int (p4 &&& (127 : Int32))), .val (.int (p5 &&& (127 : Int32))), .val (.ref b1), .val (.ref b5), .val (.int (own_fa (own_H p6) q1 q2 [(p3 &&& (127 : Int32)), (p4 &&& (127 : Int32)), (p5 &&& (127 : Int32))])), .unset]) rfl ?_
    show Steps p.tables e below (T8.setTop (mkF m 109 #[.val (.long q1), .second, .val (.long q2), .second, .val (.int p3), .val (.int p4), .val (.int p5), .val (.int p6), .val (.int (own_H p6)), .val (.int (3 : Int32)), .val (.int (p3 &&& (127 : Int32))), .val (.int (p4 &&& (127 : Int32))), .val (.int (p5 &&& (127 : Int32))), .val (.ref b1), .val (.ref b5), .val (.int (own_fa (own_H p6) q1 q2 [(p3 &&& (127 : Int32)), (p4 &&& (127 : Int32)), (p5 &&& (127 : Int32))])), .unset] [])) _
    refine XS.iconst X8.here hx rfl (hb hby at_109) ?_
    show Steps p.tables e below (T8.setTop (mkF m 110 #[.val (.long q1), .second, .val (.long q2), .second, .val (.int p3), .val (.int p4), .val (.int p5), .val (.int p6), .val (.int (own_H p6)), .val (.int (3 : Int32)), .val (.int (p3 &&& (127 : Int32))), .val (.int (p4 &&& (127 : Int32))), .val (.int (p5 &&& (127 : Int32))), .val (.ref b1), .val (.ref b5), .val (.int (own_fa (own_H p6) q1 q2 [(p3 &&& (127 : Int32)), (p4 &&& (127 : Int32)), (p5 &&& (127 : Int32))])), .unset] [(.int (-1 : Int32))])) _
    refine XS.istore X8.here hx rfl (hb hby at_110) rfl (l' := #[.val (.long q1), .second, .val (.long q2), .second, .val (.int p3), .val (.int p4), .val (.int p5), .val (.int p6), .val (.int (own_H p6)), .val (.int (3 : Int32)), .val (.int (p3 &&& (127 : Int32))), .val (.int (p4 &&& (127 : Int32))), .val (.int (p5 &&& (127 : Int32))), .val (.ref b1), .val (.ref b5), .val (.int (own_fa (own_H p6) q1 q2 [(p3 &&& (127 : Int32)), (p4 &&& (127 : Int32)), (p5 &&& (127 : Int32))])), .val (.int (-1 : Int32))]) rfl ?_
    show Steps p.tables e below (T8.setTop (mkF m 112 #[.val (.long q1), .second, .val (.long q2), .second, .val (.int p3), .val (.int p4), .val (.int p5), .val (.int p6), .val (.int (own_H p6)), .val (.int (3 : Int32)), .val (.int (p3 &&& (127 : Int32))), .val (.int (p4 &&& (127 : Int32))), .val (.int (p5 &&& (127 : Int32))), .val (.ref b1), .val (.ref b5), .val (.int (own_fa (own_H p6) q1 q2 [(p3 &&& (127 : Int32)), (p4 &&& (127 : Int32)), (p5 &&& (127 : Int32))])), .val (.int (-1 : Int32))] [])) _
    refine XS.iload X8.here hx rfl (hb hby at_112) rfl ?_
    show Steps p.tables e below (T8.setTop (mkF m 114 #[.val (.long q1), .second, .val (.long q2), .second, .val (.int p3), .val (.int p4), .val (.int p5), .val (.int p6), .val (.int (own_H p6)), .val (.int (3 : Int32)), .val (.int (p3 &&& (127 : Int32))), .val (.int (p4 &&& (127 : Int32))), .val (.int (p5 &&& (127 : Int32))), .val (.ref b1), .val (.ref b5), .val (.int (own_fa (own_H p6) q1 q2 [(p3 &&& (127 : Int32)), (p4 &&& (127 : Int32)), (p5 &&& (127 : Int32))])), .val (.int (-1 : Int32))] [(.int (3 : Int32))])) _
    refine XS.iconst X8.here hx rfl (hb hby at_114) ?_
    show Steps p.tables e below (T8.setTop (mkF m 115 #[.val (.long q1), .second, .val (.long q2), .second, .val (.int p3), .val (.int p4), .val (.int p5), .val (.int p6), .val (.int (own_H p6)), .val (.int (3 : Int32)), .val (.int (p3 &&& (127 : Int32))), .val (.int (p4 &&& (127 : Int32))), .val (.int (p5 &&& (127 : Int32))), .val (.ref b1), .val (.ref b5), .val (.int (own_fa (own_H p6) q1 q2 [(p3 &&& (127 : Int32)), (p4 &&& (127 : Int32)), (p5 &&& (127 : Int32))])), .val (.int (-1 : Int32))] [(.int (3 : Int32)), (.int (3 : Int32))])) _
    refine XS.icmpNo X8.here hx rfl (hb hby at_115) rfl (flt (by decide)).1 ?_
    show Steps p.tables e below (T8.setTop (mkF m 118 #[.val (.long q1), .second, .val (.long q2), .second, .val (.int p3), .val (.int p4), .val (.int p5), .val (.int p6), .val (.int (own_H p6)), .val (.int (3 : Int32)), .val (.int (p3 &&& (127 : Int32))), .val (.int (p4 &&& (127 : Int32))), .val (.int (p5 &&& (127 : Int32))), .val (.ref b1), .val (.ref b5), .val (.int (own_fa (own_H p6) q1 q2 [(p3 &&& (127 : Int32)), (p4 &&& (127 : Int32)), (p5 &&& (127 : Int32))])), .val (.int (-1 : Int32))] [])) _
    refine XS.lloadN X8.here hx rfl (hb hby at_118) rfl ?_
    show Steps p.tables e below (T8.setTop (mkF m 119 #[.val (.long q1), .second, .val (.long q2), .second, .val (.int p3), .val (.int p4), .val (.int p5), .val (.int p6), .val (.int (own_H p6)), .val (.int (3 : Int32)), .val (.int (p3 &&& (127 : Int32))), .val (.int (p4 &&& (127 : Int32))), .val (.int (p5 &&& (127 : Int32))), .val (.ref b1), .val (.ref b5), .val (.int (own_fa (own_H p6) q1 q2 [(p3 &&& (127 : Int32)), (p4 &&& (127 : Int32)), (p5 &&& (127 : Int32))])), .val (.int (-1 : Int32))] [(.long q1)])) _
    refine XS.lloadN X8.here hx rfl (hb hby at_119) rfl ?_
    show Steps p.tables e below (T8.setTop (mkF m 120 #[.val (.long q1), .second, .val (.long q2), .second, .val (.int p3), .val (.int p4), .val (.int p5), .val (.int p6), .val (.int (own_H p6)), .val (.int (3 : Int32)), .val (.int (p3 &&& (127 : Int32))), .val (.int (p4 &&& (127 : Int32))), .val (.int (p5 &&& (127 : Int32))), .val (.ref b1), .val (.ref b5), .val (.int (own_fa (own_H p6) q1 q2 [(p3 &&& (127 : Int32)), (p4 &&& (127 : Int32)), (p5 &&& (127 : Int32))])), .val (.int (-1 : Int32))] [(.long q2), (.long q1)])) _
    refine XS.iload X8.here hx rfl (hb hby at_120) rfl ?_
    show Steps p.tables e below (T8.setTop (mkF m 122 #[.val (.long q1), .second, .val (.long q2), .second, .val (.int p3), .val (.int p4), .val (.int p5), .val (.int p6), .val (.int (own_H p6)), .val (.int (3 : Int32)), .val (.int (p3 &&& (127 : Int32))), .val (.int (p4 &&& (127 : Int32))), .val (.int (p5 &&& (127 : Int32))), .val (.ref b1), .val (.ref b5), .val (.int (own_fa (own_H p6) q1 q2 [(p3 &&& (127 : Int32)), (p4 &&& (127 : Int32)), (p5 &&& (127 : Int32))])), .val (.int (-1 : Int32))] [(.int (p5 &&& (127 : Int32))), (.long q2), (.long q1)])) _
    refine st9 _ ?_
    show Steps p.tables e below (T9.setTop (mkF m 125 #[.val (.long q1), .second, .val (.long q2), .second, .val (.int p3), .val (.int p4), .val (.int p5), .val (.int p6), .val (.int (own_H p6)), .val (.int (3 : Int32)), .val (.int (p3 &&& (127 : Int32))), .val (.int (p4 &&& (127 : Int32))), .val (.int (p5 &&& (127 : Int32))), .val (.ref b1), .val (.ref b5), .val (.int (own_fa (own_H p6) q1 q2 [(p3 &&& (127 : Int32)), (p4 &&& (127 : Int32)), (p5 &&& (127 : Int32))])), .val (.int (-1 : Int32))] [(.int (own_hold q1 q2 (p5 &&& (127 : Int32))))])) _
    refine j2 _ ?_
    show Steps p.tables e below (T9.setTop (mkF m 134 #[.val (.long q1), .second, .val (.long q2), .second, .val (.int p3), .val (.int p4), .val (.int p5), .val (.int p6), .val (.int (own_H p6)), .val (.int (3 : Int32)), .val (.int (p3 &&& (127 : Int32))), .val (.int (p4 &&& (127 : Int32))), .val (.int (p5 &&& (127 : Int32))), .val (.ref b1), .val (.ref b5), .val (.int (own_fa (own_H p6) q1 q2 [(p3 &&& (127 : Int32)), (p4 &&& (127 : Int32)), (p5 &&& (127 : Int32))])), .val (.int (own_ix (own_H p6) q1 q2 (p5 &&& (127 : Int32)) (-1 : Int32)))] [])) _
    refine XS.iload X9.here hx rfl (hb hby at_134) rfl ?_
    show Steps p.tables e below (T9.setTop (mkF m 136 #[.val (.long q1), .second, .val (.long q2), .second, .val (.int p3), .val (.int p4), .val (.int p5), .val (.int p6), .val (.int (own_H p6)), .val (.int (3 : Int32)), .val (.int (p3 &&& (127 : Int32))), .val (.int (p4 &&& (127 : Int32))), .val (.int (p5 &&& (127 : Int32))), .val (.ref b1), .val (.ref b5), .val (.int (own_fa (own_H p6) q1 q2 [(p3 &&& (127 : Int32)), (p4 &&& (127 : Int32)), (p5 &&& (127 : Int32))])), .val (.int (own_ix (own_H p6) q1 q2 (p5 &&& (127 : Int32)) (-1 : Int32)))] [(.int (3 : Int32))])) _
    refine XS.iconst X9.here hx rfl (hb hby at_136) ?_
    show Steps p.tables e below (T9.setTop (mkF m 137 #[.val (.long q1), .second, .val (.long q2), .second, .val (.int p3), .val (.int p4), .val (.int p5), .val (.int p6), .val (.int (own_H p6)), .val (.int (3 : Int32)), .val (.int (p3 &&& (127 : Int32))), .val (.int (p4 &&& (127 : Int32))), .val (.int (p5 &&& (127 : Int32))), .val (.ref b1), .val (.ref b5), .val (.int (own_fa (own_H p6) q1 q2 [(p3 &&& (127 : Int32)), (p4 &&& (127 : Int32)), (p5 &&& (127 : Int32))])), .val (.int (own_ix (own_H p6) q1 q2 (p5 &&& (127 : Int32)) (-1 : Int32)))] [(.int (2 : Int32)), (.int (3 : Int32))])) _
    refine XS.icmpNo X9.here hx rfl (hb hby at_137) rfl (flt (by decide)).1 ?_
    show Steps p.tables e below (T9.setTop (mkF m 140 #[.val (.long q1), .second, .val (.long q2), .second, .val (.int p3), .val (.int p4), .val (.int p5), .val (.int p6), .val (.int (own_H p6)), .val (.int (3 : Int32)), .val (.int (p3 &&& (127 : Int32))), .val (.int (p4 &&& (127 : Int32))), .val (.int (p5 &&& (127 : Int32))), .val (.ref b1), .val (.ref b5), .val (.int (own_fa (own_H p6) q1 q2 [(p3 &&& (127 : Int32)), (p4 &&& (127 : Int32)), (p5 &&& (127 : Int32))])), .val (.int (own_ix (own_H p6) q1 q2 (p5 &&& (127 : Int32)) (-1 : Int32)))] [])) _
    refine XS.lloadN X9.here hx rfl (hb hby at_140) rfl ?_
    show Steps p.tables e below (T9.setTop (mkF m 141 #[.val (.long q1), .second, .val (.long q2), .second, .val (.int p3), .val (.int p4), .val (.int p5), .val (.int p6), .val (.int (own_H p6)), .val (.int (3 : Int32)), .val (.int (p3 &&& (127 : Int32))), .val (.int (p4 &&& (127 : Int32))), .val (.int (p5 &&& (127 : Int32))), .val (.ref b1), .val (.ref b5), .val (.int (own_fa (own_H p6) q1 q2 [(p3 &&& (127 : Int32)), (p4 &&& (127 : Int32)), (p5 &&& (127 : Int32))])), .val (.int (own_ix (own_H p6) q1 q2 (p5 &&& (127 : Int32)) (-1 : Int32)))] [(.long q1)])) _
    refine XS.lloadN X9.here hx rfl (hb hby at_141) rfl ?_
    show Steps p.tables e below (T9.setTop (mkF m 142 #[.val (.long q1), .second, .val (.long q2), .second, .val (.int p3), .val (.int p4), .val (.int p5), .val (.int p6), .val (.int (own_H p6)), .val (.int (3 : Int32)), .val (.int (p3 &&& (127 : Int32))), .val (.int (p4 &&& (127 : Int32))), .val (.int (p5 &&& (127 : Int32))), .val (.ref b1), .val (.ref b5), .val (.int (own_fa (own_H p6) q1 q2 [(p3 &&& (127 : Int32)), (p4 &&& (127 : Int32)), (p5 &&& (127 : Int32))])), .val (.int (own_ix (own_H p6) q1 q2 (p5 &&& (127 : Int32)) (-1 : Int32)))] [(.long q2), (.long q1)])) _
    refine XS.iload X9.here hx rfl (hb hby at_142) rfl ?_
    show Steps p.tables e below (T9.setTop (mkF m 144 #[.val (.long q1), .second, .val (.long q2), .second, .val (.int p3), .val (.int p4), .val (.int p5), .val (.int p6), .val (.int (own_H p6)), .val (.int (3 : Int32)), .val (.int (p3 &&& (127 : Int32))), .val (.int (p4 &&& (127 : Int32))), .val (.int (p5 &&& (127 : Int32))), .val (.ref b1), .val (.ref b5), .val (.int (own_fa (own_H p6) q1 q2 [(p3 &&& (127 : Int32)), (p4 &&& (127 : Int32)), (p5 &&& (127 : Int32))])), .val (.int (own_ix (own_H p6) q1 q2 (p5 &&& (127 : Int32)) (-1 : Int32)))] [(.int (p4 &&& (127 : Int32))), (.long q2), (.long q1)])) _
    refine st10 _ ?_
    show Steps p.tables e below (T10.setTop (mkF m 147 #[.val (.long q1), .second, .val (.long q2), .second, .val (.int p3), .val (.int p4), .val (.int p5), .val (.int p6), .val (.int (own_H p6)), .val (.int (3 : Int32)), .val (.int (p3 &&& (127 : Int32))), .val (.int (p4 &&& (127 : Int32))), .val (.int (p5 &&& (127 : Int32))), .val (.ref b1), .val (.ref b5), .val (.int (own_fa (own_H p6) q1 q2 [(p3 &&& (127 : Int32)), (p4 &&& (127 : Int32)), (p5 &&& (127 : Int32))])), .val (.int (own_ix (own_H p6) q1 q2 (p5 &&& (127 : Int32)) (-1 : Int32)))] [(.int (own_hold q1 q2 (p4 &&& (127 : Int32))))])) _
    refine j1 _ ?_
    show Steps p.tables e below (T10.setTop (mkF m 156 #[.val (.long q1), .second, .val (.long q2), .second, .val (.int p3), .val (.int p4), .val (.int p5), .val (.int p6), .val (.int (own_H p6)), .val (.int (3 : Int32)), .val (.int (p3 &&& (127 : Int32))), .val (.int (p4 &&& (127 : Int32))), .val (.int (p5 &&& (127 : Int32))), .val (.ref b1), .val (.ref b5), .val (.int (own_fa (own_H p6) q1 q2 [(p3 &&& (127 : Int32)), (p4 &&& (127 : Int32)), (p5 &&& (127 : Int32))])), .val (.int (own_ix (own_H p6) q1 q2 (p4 &&& (127 : Int32)) (own_ix (own_H p6) q1 q2 (p5 &&& (127 : Int32)) (-1 : Int32))))] [])) _
    refine XS.iload X10.here hx rfl (hb hby at_156) rfl ?_
    show Steps p.tables e below (T10.setTop (mkF m 158 #[.val (.long q1), .second, .val (.long q2), .second, .val (.int p3), .val (.int p4), .val (.int p5), .val (.int p6), .val (.int (own_H p6)), .val (.int (3 : Int32)), .val (.int (p3 &&& (127 : Int32))), .val (.int (p4 &&& (127 : Int32))), .val (.int (p5 &&& (127 : Int32))), .val (.ref b1), .val (.ref b5), .val (.int (own_fa (own_H p6) q1 q2 [(p3 &&& (127 : Int32)), (p4 &&& (127 : Int32)), (p5 &&& (127 : Int32))])), .val (.int (own_ix (own_H p6) q1 q2 (p4 &&& (127 : Int32)) (own_ix (own_H p6) q1 q2 (p5 &&& (127 : Int32)) (-1 : Int32))))] [(.int (3 : Int32))])) _
    refine XS.iconst X10.here hx rfl (hb hby at_158) ?_
    show Steps p.tables e below (T10.setTop (mkF m 159 #[.val (.long q1), .second, .val (.long q2), .second, .val (.int p3), .val (.int p4), .val (.int p5), .val (.int p6), .val (.int (own_H p6)), .val (.int (3 : Int32)), .val (.int (p3 &&& (127 : Int32))), .val (.int (p4 &&& (127 : Int32))), .val (.int (p5 &&& (127 : Int32))), .val (.ref b1), .val (.ref b5), .val (.int (own_fa (own_H p6) q1 q2 [(p3 &&& (127 : Int32)), (p4 &&& (127 : Int32)), (p5 &&& (127 : Int32))])), .val (.int (own_ix (own_H p6) q1 q2 (p4 &&& (127 : Int32)) (own_ix (own_H p6) q1 q2 (p5 &&& (127 : Int32)) (-1 : Int32))))] [(.int (1 : Int32)), (.int (3 : Int32))])) _
    refine XS.icmpNo X10.here hx rfl (hb hby at_159) rfl (flt (by decide)).1 ?_
    show Steps p.tables e below (T10.setTop (mkF m 162 #[.val (.long q1), .second, .val (.long q2), .second, .val (.int p3), .val (.int p4), .val (.int p5), .val (.int p6), .val (.int (own_H p6)), .val (.int (3 : Int32)), .val (.int (p3 &&& (127 : Int32))), .val (.int (p4 &&& (127 : Int32))), .val (.int (p5 &&& (127 : Int32))), .val (.ref b1), .val (.ref b5), .val (.int (own_fa (own_H p6) q1 q2 [(p3 &&& (127 : Int32)), (p4 &&& (127 : Int32)), (p5 &&& (127 : Int32))])), .val (.int (own_ix (own_H p6) q1 q2 (p4 &&& (127 : Int32)) (own_ix (own_H p6) q1 q2 (p5 &&& (127 : Int32)) (-1 : Int32))))] [])) _
    refine XS.lloadN X10.here hx rfl (hb hby at_162) rfl ?_
    show Steps p.tables e below (T10.setTop (mkF m 163 #[.val (.long q1), .second, .val (.long q2), .second, .val (.int p3), .val (.int p4), .val (.int p5), .val (.int p6), .val (.int (own_H p6)), .val (.int (3 : Int32)), .val (.int (p3 &&& (127 : Int32))), .val (.int (p4 &&& (127 : Int32))), .val (.int (p5 &&& (127 : Int32))), .val (.ref b1), .val (.ref b5), .val (.int (own_fa (own_H p6) q1 q2 [(p3 &&& (127 : Int32)), (p4 &&& (127 : Int32)), (p5 &&& (127 : Int32))])), .val (.int (own_ix (own_H p6) q1 q2 (p4 &&& (127 : Int32)) (own_ix (own_H p6) q1 q2 (p5 &&& (127 : Int32)) (-1 : Int32))))] [(.long q1)])) _
    refine XS.lloadN X10.here hx rfl (hb hby at_163) rfl ?_
    show Steps p.tables e below (T10.setTop (mkF m 164 #[.val (.long q1), .second, .val (.long q2), .second, .val (.int p3), .val (.int p4), .val (.int p5), .val (.int p6), .val (.int (own_H p6)), .val (.int (3 : Int32)), .val (.int (p3 &&& (127 : Int32))), .val (.int (p4 &&& (127 : Int32))), .val (.int (p5 &&& (127 : Int32))), .val (.ref b1), .val (.ref b5), .val (.int (own_fa (own_H p6) q1 q2 [(p3 &&& (127 : Int32)), (p4 &&& (127 : Int32)), (p5 &&& (127 : Int32))])), .val (.int (own_ix (own_H p6) q1 q2 (p4 &&& (127 : Int32)) (own_ix (own_H p6) q1 q2 (p5 &&& (127 : Int32)) (-1 : Int32))))] [(.long q2), (.long q1)])) _
    refine XS.iload X10.here hx rfl (hb hby at_164) rfl ?_
    show Steps p.tables e below (T10.setTop (mkF m 166 #[.val (.long q1), .second, .val (.long q2), .second, .val (.int p3), .val (.int p4), .val (.int p5), .val (.int p6), .val (.int (own_H p6)), .val (.int (3 : Int32)), .val (.int (p3 &&& (127 : Int32))), .val (.int (p4 &&& (127 : Int32))), .val (.int (p5 &&& (127 : Int32))), .val (.ref b1), .val (.ref b5), .val (.int (own_fa (own_H p6) q1 q2 [(p3 &&& (127 : Int32)), (p4 &&& (127 : Int32)), (p5 &&& (127 : Int32))])), .val (.int (own_ix (own_H p6) q1 q2 (p4 &&& (127 : Int32)) (own_ix (own_H p6) q1 q2 (p5 &&& (127 : Int32)) (-1 : Int32))))] [(.int (p3 &&& (127 : Int32))), (.long q2), (.long q1)])) _
    refine st11 _ ?_
    show Steps p.tables e below (T11.setTop (mkF m 169 #[.val (.long q1), .second, .val (.long q2), .second, .val (.int p3), .val (.int p4), .val (.int p5), .val (.int p6), .val (.int (own_H p6)), .val (.int (3 : Int32)), .val (.int (p3 &&& (127 : Int32))), .val (.int (p4 &&& (127 : Int32))), .val (.int (p5 &&& (127 : Int32))), .val (.ref b1), .val (.ref b5), .val (.int (own_fa (own_H p6) q1 q2 [(p3 &&& (127 : Int32)), (p4 &&& (127 : Int32)), (p5 &&& (127 : Int32))])), .val (.int (own_ix (own_H p6) q1 q2 (p4 &&& (127 : Int32)) (own_ix (own_H p6) q1 q2 (p5 &&& (127 : Int32)) (-1 : Int32))))] [(.int (own_hold q1 q2 (p3 &&& (127 : Int32))))])) _
    refine j0 _ ?_
    show Steps p.tables e below (T11.setTop (mkF m 178 #[.val (.long q1), .second, .val (.long q2), .second, .val (.int p3), .val (.int p4), .val (.int p5), .val (.int p6), .val (.int (own_H p6)), .val (.int (3 : Int32)), .val (.int (p3 &&& (127 : Int32))), .val (.int (p4 &&& (127 : Int32))), .val (.int (p5 &&& (127 : Int32))), .val (.ref b1), .val (.ref b5), .val (.int (own_fa (own_H p6) q1 q2 [(p3 &&& (127 : Int32)), (p4 &&& (127 : Int32)), (p5 &&& (127 : Int32))])), .val (.int (own_ix (own_H p6) q1 q2 (p3 &&& (127 : Int32)) (own_ix (own_H p6) q1 q2 (p4 &&& (127 : Int32)) (own_ix (own_H p6) q1 q2 (p5 &&& (127 : Int32)) (-1 : Int32)))))] [])) _
    refine XS.iload X11.here hx rfl (hb hby at_178) rfl ?_
    show Steps p.tables e below (T11.setTop (mkF m 180 #[.val (.long q1), .second, .val (.long q2), .second, .val (.int p3), .val (.int p4), .val (.int p5), .val (.int p6), .val (.int (own_H p6)), .val (.int (3 : Int32)), .val (.int (p3 &&& (127 : Int32))), .val (.int (p4 &&& (127 : Int32))), .val (.int (p5 &&& (127 : Int32))), .val (.ref b1), .val (.ref b5), .val (.int (own_fa (own_H p6) q1 q2 [(p3 &&& (127 : Int32)), (p4 &&& (127 : Int32)), (p5 &&& (127 : Int32))])), .val (.int (own_ix (own_H p6) q1 q2 (p3 &&& (127 : Int32)) (own_ix (own_H p6) q1 q2 (p4 &&& (127 : Int32)) (own_ix (own_H p6) q1 q2 (p5 &&& (127 : Int32)) (-1 : Int32)))))] [(.int (own_fa (own_H p6) q1 q2 [(p3 &&& (127 : Int32)), (p4 &&& (127 : Int32)), (p5 &&& (127 : Int32))]))])) _
    refine XS.iload X11.here hx rfl (hb hby at_180) rfl ?_
    show Steps p.tables e below (T11.setTop (mkF m 182 #[.val (.long q1), .second, .val (.long q2), .second, .val (.int p3), .val (.int p4), .val (.int p5), .val (.int p6), .val (.int (own_H p6)), .val (.int (3 : Int32)), .val (.int (p3 &&& (127 : Int32))), .val (.int (p4 &&& (127 : Int32))), .val (.int (p5 &&& (127 : Int32))), .val (.ref b1), .val (.ref b5), .val (.int (own_fa (own_H p6) q1 q2 [(p3 &&& (127 : Int32)), (p4 &&& (127 : Int32)), (p5 &&& (127 : Int32))])), .val (.int (own_ix (own_H p6) q1 q2 (p3 &&& (127 : Int32)) (own_ix (own_H p6) q1 q2 (p4 &&& (127 : Int32)) (own_ix (own_H p6) q1 q2 (p5 &&& (127 : Int32)) (-1 : Int32)))))] [(.int (own_ix (own_H p6) q1 q2 (p3 &&& (127 : Int32)) (own_ix (own_H p6) q1 q2 (p4 &&& (127 : Int32)) (own_ix (own_H p6) q1 q2 (p5 &&& (127 : Int32)) (-1 : Int32))))), (.int (own_fa (own_H p6) q1 q2 [(p3 &&& (127 : Int32)), (p4 &&& (127 : Int32)), (p5 &&& (127 : Int32))]))])) _
    refine XS.icmpNo X11.here hx rfl (hb hby at_182) rfl (teq fin).2 ?_
    show Steps p.tables e below (T11.setTop (mkF m 185 #[.val (.long q1), .second, .val (.long q2), .second, .val (.int p3), .val (.int p4), .val (.int p5), .val (.int p6), .val (.int (own_H p6)), .val (.int (3 : Int32)), .val (.int (p3 &&& (127 : Int32))), .val (.int (p4 &&& (127 : Int32))), .val (.int (p5 &&& (127 : Int32))), .val (.ref b1), .val (.ref b5), .val (.int (own_fa (own_H p6) q1 q2 [(p3 &&& (127 : Int32)), (p4 &&& (127 : Int32)), (p5 &&& (127 : Int32))])), .val (.int (own_ix (own_H p6) q1 q2 (p3 &&& (127 : Int32)) (own_ix (own_H p6) q1 q2 (p4 &&& (127 : Int32)) (own_ix (own_H p6) q1 q2 (p5 &&& (127 : Int32)) (-1 : Int32)))))] [])) _
    refine XS.aload X11.here hx rfl (hb hby at_185) rfl rfl ?_
    show Steps p.tables e below (T11.setTop (mkF m 187 #[.val (.long q1), .second, .val (.long q2), .second, .val (.int p3), .val (.int p4), .val (.int p5), .val (.int p6), .val (.int (own_H p6)), .val (.int (3 : Int32)), .val (.int (p3 &&& (127 : Int32))), .val (.int (p4 &&& (127 : Int32))), .val (.int (p5 &&& (127 : Int32))), .val (.ref b1), .val (.ref b5), .val (.int (own_fa (own_H p6) q1 q2 [(p3 &&& (127 : Int32)), (p4 &&& (127 : Int32)), (p5 &&& (127 : Int32))])), .val (.int (own_ix (own_H p6) q1 q2 (p3 &&& (127 : Int32)) (own_ix (own_H p6) q1 q2 (p4 &&& (127 : Int32)) (own_ix (own_H p6) q1 q2 (p5 &&& (127 : Int32)) (-1 : Int32)))))] [(.ref b5)])) _
    refine XS.iconst X11.here hx rfl (hb hby at_187) ?_
    show Steps p.tables e below (T11.setTop (mkF m 188 #[.val (.long q1), .second, .val (.long q2), .second, .val (.int p3), .val (.int p4), .val (.int p5), .val (.int p6), .val (.int (own_H p6)), .val (.int (3 : Int32)), .val (.int (p3 &&& (127 : Int32))), .val (.int (p4 &&& (127 : Int32))), .val (.int (p5 &&& (127 : Int32))), .val (.ref b1), .val (.ref b5), .val (.int (own_fa (own_H p6) q1 q2 [(p3 &&& (127 : Int32)), (p4 &&& (127 : Int32)), (p5 &&& (127 : Int32))])), .val (.int (own_ix (own_H p6) q1 q2 (p3 &&& (127 : Int32)) (own_ix (own_H p6) q1 q2 (p4 &&& (127 : Int32)) (own_ix (own_H p6) q1 q2 (p5 &&& (127 : Int32)) (-1 : Int32)))))] [(.int (0 : Int32)), (.ref b5)])) _
    refine X11.laload hx (j := (0 : Int32)) (v := (.long q1)) (by rw [e11]; exact A7.1) (State.isArrayOf_alike hZ.alike A7.2.1) A7.2.2 hJ0 rfl (g := (mkF m 188 #[.val (.long q1), .second, .val (.long q2), .second, .val (.int p3), .val (.int p4), .val (.int p5), .val (.int p6), .val (.int (own_H p6)), .val (.int (3 : Int32)), .val (.int (p3 &&& (127 : Int32))), .val (.int (p4 &&& (127 : Int32))), .val (.int (p5 &&& (127 : Int32))), .val (.ref b1), .val (.ref b5), .val (.int (own_fa (own_H p6) q1 q2 [(p3 &&& (127 : Int32)), (p4 &&& (127 : Int32)), (p5 &&& (127 : Int32))])), .val (.int (own_ix (own_H p6) q1 q2 (p3 &&& (127 : Int32)) (own_ix (own_H p6) q1 q2 (p4 &&& (127 : Int32)) (own_ix (own_H p6) q1 q2 (p5 &&& (127 : Int32)) (-1 : Int32)))))] [(.int (0 : Int32)), (.ref b5)])) rfl rfl (hb hby at_188) _ ?_
    show Steps p.tables e below (T11.setTop (mkF m 189 #[.val (.long q1), .second, .val (.long q2), .second, .val (.int p3), .val (.int p4), .val (.int p5), .val (.int p6), .val (.int (own_H p6)), .val (.int (3 : Int32)), .val (.int (p3 &&& (127 : Int32))), .val (.int (p4 &&& (127 : Int32))), .val (.int (p5 &&& (127 : Int32))), .val (.ref b1), .val (.ref b5), .val (.int (own_fa (own_H p6) q1 q2 [(p3 &&& (127 : Int32)), (p4 &&& (127 : Int32)), (p5 &&& (127 : Int32))])), .val (.int (own_ix (own_H p6) q1 q2 (p3 &&& (127 : Int32)) (own_ix (own_H p6) q1 q2 (p4 &&& (127 : Int32)) (own_ix (own_H p6) q1 q2 (p5 &&& (127 : Int32)) (-1 : Int32)))))] [(.long q1)])) _
    refine XS.lloadN X11.here hx rfl (hb hby at_189) rfl ?_
    show Steps p.tables e below (T11.setTop (mkF m 190 #[.val (.long q1), .second, .val (.long q2), .second, .val (.int p3), .val (.int p4), .val (.int p5), .val (.int p6), .val (.int (own_H p6)), .val (.int (3 : Int32)), .val (.int (p3 &&& (127 : Int32))), .val (.int (p4 &&& (127 : Int32))), .val (.int (p5 &&& (127 : Int32))), .val (.ref b1), .val (.ref b5), .val (.int (own_fa (own_H p6) q1 q2 [(p3 &&& (127 : Int32)), (p4 &&& (127 : Int32)), (p5 &&& (127 : Int32))])), .val (.int (own_ix (own_H p6) q1 q2 (p3 &&& (127 : Int32)) (own_ix (own_H p6) q1 q2 (p4 &&& (127 : Int32)) (own_ix (own_H p6) q1 q2 (p5 &&& (127 : Int32)) (-1 : Int32)))))] [(.long q1), (.long q1)])) _
    refine XS.lcmp X11.here hx rfl (hb hby at_190) rfl ?_
    show Steps p.tables e below (T11.setTop (mkF m 191 #[.val (.long q1), .second, .val (.long q2), .second, .val (.int p3), .val (.int p4), .val (.int p5), .val (.int p6), .val (.int (own_H p6)), .val (.int (3 : Int32)), .val (.int (p3 &&& (127 : Int32))), .val (.int (p4 &&& (127 : Int32))), .val (.int (p5 &&& (127 : Int32))), .val (.ref b1), .val (.ref b5), .val (.int (own_fa (own_H p6) q1 q2 [(p3 &&& (127 : Int32)), (p4 &&& (127 : Int32)), (p5 &&& (127 : Int32))])), .val (.int (own_ix (own_H p6) q1 q2 (p3 &&& (127 : Int32)) (own_ix (own_H p6) q1 q2 (p4 &&& (127 : Int32)) (own_ix (own_H p6) q1 q2 (p5 &&& (127 : Int32)) (-1 : Int32)))))] [(.int (lcmpW q1 q1))])) _
    refine XS.ifNo X11.here hx rfl (hb hby at_191) rfl ((if0 _ _).trans (teq ((lw_eq _ _).mpr rfl)).2) ?_
    show Steps p.tables e below (T11.setTop (mkF m 194 #[.val (.long q1), .second, .val (.long q2), .second, .val (.int p3), .val (.int p4), .val (.int p5), .val (.int p6), .val (.int (own_H p6)), .val (.int (3 : Int32)), .val (.int (p3 &&& (127 : Int32))), .val (.int (p4 &&& (127 : Int32))), .val (.int (p5 &&& (127 : Int32))), .val (.ref b1), .val (.ref b5), .val (.int (own_fa (own_H p6) q1 q2 [(p3 &&& (127 : Int32)), (p4 &&& (127 : Int32)), (p5 &&& (127 : Int32))])), .val (.int (own_ix (own_H p6) q1 q2 (p3 &&& (127 : Int32)) (own_ix (own_H p6) q1 q2 (p4 &&& (127 : Int32)) (own_ix (own_H p6) q1 q2 (p5 &&& (127 : Int32)) (-1 : Int32)))))] [])) _
    refine XS.aload X11.here hx rfl (hb hby at_194) rfl rfl ?_
    show Steps p.tables e below (T11.setTop (mkF m 196 #[.val (.long q1), .second, .val (.long q2), .second, .val (.int p3), .val (.int p4), .val (.int p5), .val (.int p6), .val (.int (own_H p6)), .val (.int (3 : Int32)), .val (.int (p3 &&& (127 : Int32))), .val (.int (p4 &&& (127 : Int32))), .val (.int (p5 &&& (127 : Int32))), .val (.ref b1), .val (.ref b5), .val (.int (own_fa (own_H p6) q1 q2 [(p3 &&& (127 : Int32)), (p4 &&& (127 : Int32)), (p5 &&& (127 : Int32))])), .val (.int (own_ix (own_H p6) q1 q2 (p3 &&& (127 : Int32)) (own_ix (own_H p6) q1 q2 (p4 &&& (127 : Int32)) (own_ix (own_H p6) q1 q2 (p5 &&& (127 : Int32)) (-1 : Int32)))))] [(.ref b5)])) _
    refine XS.iconst X11.here hx rfl (hb hby at_196) ?_
    show Steps p.tables e below (T11.setTop (mkF m 197 #[.val (.long q1), .second, .val (.long q2), .second, .val (.int p3), .val (.int p4), .val (.int p5), .val (.int p6), .val (.int (own_H p6)), .val (.int (3 : Int32)), .val (.int (p3 &&& (127 : Int32))), .val (.int (p4 &&& (127 : Int32))), .val (.int (p5 &&& (127 : Int32))), .val (.ref b1), .val (.ref b5), .val (.int (own_fa (own_H p6) q1 q2 [(p3 &&& (127 : Int32)), (p4 &&& (127 : Int32)), (p5 &&& (127 : Int32))])), .val (.int (own_ix (own_H p6) q1 q2 (p3 &&& (127 : Int32)) (own_ix (own_H p6) q1 q2 (p4 &&& (127 : Int32)) (own_ix (own_H p6) q1 q2 (p5 &&& (127 : Int32)) (-1 : Int32)))))] [(.int (1 : Int32)), (.ref b5)])) _
    refine X11.laload hx (j := (1 : Int32)) (v := (.long q2)) (by rw [e11]; exact A7.1) (State.isArrayOf_alike hZ.alike A7.2.1) A7.2.2 hJ1 rfl (g := (mkF m 197 #[.val (.long q1), .second, .val (.long q2), .second, .val (.int p3), .val (.int p4), .val (.int p5), .val (.int p6), .val (.int (own_H p6)), .val (.int (3 : Int32)), .val (.int (p3 &&& (127 : Int32))), .val (.int (p4 &&& (127 : Int32))), .val (.int (p5 &&& (127 : Int32))), .val (.ref b1), .val (.ref b5), .val (.int (own_fa (own_H p6) q1 q2 [(p3 &&& (127 : Int32)), (p4 &&& (127 : Int32)), (p5 &&& (127 : Int32))])), .val (.int (own_ix (own_H p6) q1 q2 (p3 &&& (127 : Int32)) (own_ix (own_H p6) q1 q2 (p4 &&& (127 : Int32)) (own_ix (own_H p6) q1 q2 (p5 &&& (127 : Int32)) (-1 : Int32)))))] [(.int (1 : Int32)), (.ref b5)])) rfl rfl (hb hby at_197) _ ?_
    show Steps p.tables e below (T11.setTop (mkF m 198 #[.val (.long q1), .second, .val (.long q2), .second, .val (.int p3), .val (.int p4), .val (.int p5), .val (.int p6), .val (.int (own_H p6)), .val (.int (3 : Int32)), .val (.int (p3 &&& (127 : Int32))), .val (.int (p4 &&& (127 : Int32))), .val (.int (p5 &&& (127 : Int32))), .val (.ref b1), .val (.ref b5), .val (.int (own_fa (own_H p6) q1 q2 [(p3 &&& (127 : Int32)), (p4 &&& (127 : Int32)), (p5 &&& (127 : Int32))])), .val (.int (own_ix (own_H p6) q1 q2 (p3 &&& (127 : Int32)) (own_ix (own_H p6) q1 q2 (p4 &&& (127 : Int32)) (own_ix (own_H p6) q1 q2 (p5 &&& (127 : Int32)) (-1 : Int32)))))] [(.long q2)])) _
    refine XS.lloadN X11.here hx rfl (hb hby at_198) rfl ?_
    show Steps p.tables e below (T11.setTop (mkF m 199 #[.val (.long q1), .second, .val (.long q2), .second, .val (.int p3), .val (.int p4), .val (.int p5), .val (.int p6), .val (.int (own_H p6)), .val (.int (3 : Int32)), .val (.int (p3 &&& (127 : Int32))), .val (.int (p4 &&& (127 : Int32))), .val (.int (p5 &&& (127 : Int32))), .val (.ref b1), .val (.ref b5), .val (.int (own_fa (own_H p6) q1 q2 [(p3 &&& (127 : Int32)), (p4 &&& (127 : Int32)), (p5 &&& (127 : Int32))])), .val (.int (own_ix (own_H p6) q1 q2 (p3 &&& (127 : Int32)) (own_ix (own_H p6) q1 q2 (p4 &&& (127 : Int32)) (own_ix (own_H p6) q1 q2 (p5 &&& (127 : Int32)) (-1 : Int32)))))] [(.long q2), (.long q2)])) _
    refine XS.lcmp X11.here hx rfl (hb hby at_199) rfl ?_
    show Steps p.tables e below (T11.setTop (mkF m 200 #[.val (.long q1), .second, .val (.long q2), .second, .val (.int p3), .val (.int p4), .val (.int p5), .val (.int p6), .val (.int (own_H p6)), .val (.int (3 : Int32)), .val (.int (p3 &&& (127 : Int32))), .val (.int (p4 &&& (127 : Int32))), .val (.int (p5 &&& (127 : Int32))), .val (.ref b1), .val (.ref b5), .val (.int (own_fa (own_H p6) q1 q2 [(p3 &&& (127 : Int32)), (p4 &&& (127 : Int32)), (p5 &&& (127 : Int32))])), .val (.int (own_ix (own_H p6) q1 q2 (p3 &&& (127 : Int32)) (own_ix (own_H p6) q1 q2 (p4 &&& (127 : Int32)) (own_ix (own_H p6) q1 q2 (p5 &&& (127 : Int32)) (-1 : Int32)))))] [(.int (lcmpW q2 q2))])) _
    refine XS.ifNo X11.here hx rfl (hb hby at_200) rfl ((if0 _ _).trans (teq ((lw_eq _ _).mpr rfl)).2) ?_
    show Steps p.tables e below (T11.setTop (mkF m 203 #[.val (.long q1), .second, .val (.long q2), .second, .val (.int p3), .val (.int p4), .val (.int p5), .val (.int p6), .val (.int (own_H p6)), .val (.int (3 : Int32)), .val (.int (p3 &&& (127 : Int32))), .val (.int (p4 &&& (127 : Int32))), .val (.int (p5 &&& (127 : Int32))), .val (.ref b1), .val (.ref b5), .val (.int (own_fa (own_H p6) q1 q2 [(p3 &&& (127 : Int32)), (p4 &&& (127 : Int32)), (p5 &&& (127 : Int32))])), .val (.int (own_ix (own_H p6) q1 q2 (p3 &&& (127 : Int32)) (own_ix (own_H p6) q1 q2 (p4 &&& (127 : Int32)) (own_ix (own_H p6) q1 q2 (p5 &&& (127 : Int32)) (-1 : Int32)))))] [])) _
    refine XS.iconst X11.here hx rfl (hb hby at_203) ?_
    show Steps p.tables e below (T11.setTop (mkF m 204 #[.val (.long q1), .second, .val (.long q2), .second, .val (.int p3), .val (.int p4), .val (.int p5), .val (.int p6), .val (.int (own_H p6)), .val (.int (3 : Int32)), .val (.int (p3 &&& (127 : Int32))), .val (.int (p4 &&& (127 : Int32))), .val (.int (p5 &&& (127 : Int32))), .val (.ref b1), .val (.ref b5), .val (.int (own_fa (own_H p6) q1 q2 [(p3 &&& (127 : Int32)), (p4 &&& (127 : Int32)), (p5 &&& (127 : Int32))])), .val (.int (own_ix (own_H p6) q1 q2 (p3 &&& (127 : Int32)) (own_ix (own_H p6) q1 q2 (p4 &&& (127 : Int32)) (own_ix (own_H p6) q1 q2 (p5 &&& (127 : Int32)) (-1 : Int32)))))] [(.int (1 : Int32))])) _
    refine XS.goto X11.here hx rfl (pc0 := 204) (pc' := 208) rfl (hb hby at_204) (by decide) (by decide) ?_
    show Steps p.tables e below (T11.setTop (mkF m 208 #[.val (.long q1), .second, .val (.long q2), .second, .val (.int p3), .val (.int p4), .val (.int p5), .val (.int p6), .val (.int (own_H p6)), .val (.int (3 : Int32)), .val (.int (p3 &&& (127 : Int32))), .val (.int (p4 &&& (127 : Int32))), .val (.int (p5 &&& (127 : Int32))), .val (.ref b1), .val (.ref b5), .val (.int (own_fa (own_H p6) q1 q2 [(p3 &&& (127 : Int32)), (p4 &&& (127 : Int32)), (p5 &&& (127 : Int32))])), .val (.int (own_ix (own_H p6) q1 q2 (p3 &&& (127 : Int32)) (own_ix (own_H p6) q1 q2 (p4 &&& (127 : Int32)) (own_ix (own_H p6) q1 q2 (p5 &&& (127 : Int32)) (-1 : Int32)))))] [(.int (1 : Int32))])) _
    exact retN X11 hx (t := .boolean) Bd.returns (by simp) (hb hby at_208) hr
  · show Q0 Z q1 q2 p3 p4 p5 p6 h0 n0 _ T11.heap _
    exact ⟨rfl, N11⟩
set_option maxRecDepth 65536 in
set_option maxHeartbeats 40000000 in
theorem rm0 (l : Launch) (Z : State) (a0 : Array Value) (hw : ∀ d ∈ tables_1, d.before a0 Z = true) (ws : List Jvm.Cond) (q1 : Int64) (q2 : Int64) (p3 : Int32) (p4 : Int32) (p5 : Int32) (p6 : Int32) (h0 : Heap) (n0 : Nat) (Z0 : n0 ≤ h0.size) :
    MetFree l x (head1 (Jvm.Cond.code x code maxLocals ret :: ws) room_1) (fun a U => a = #[(.long q1), (.long q2), (.int p3), (.int p4), (.int p5), (.int p6)] ∧ Z.Warmed39 U.vm ∧ U.heap = h0) (fun _ _ _ _ _ => True) (fun _ U o U' => ∃ v L, o = .returned v ∧ Q0 Z q1 q2 p3 p4 p5 p6 h0 n0 v U'.heap L ∧ FrameEnd U o U' L (room_1).cells (room_1).slots) := by
  rcases own_3 (own_ushr p6 1) with hn | hn | hn | hn
  · exact rm0_0 l Z a0 hw ws q1 q2 p3 p4 p5 p6 h0 n0 Z0 hn
  · exact rm0_1 l Z a0 hw ws q1 q2 p3 p4 p5 p6 h0 n0 Z0 hn
  · exact rm0_2 l Z a0 hw ws q1 q2 p3 p4 p5 p6 h0 n0 Z0 hn
  · exact rm0_3 l Z a0 hw ws q1 q2 p3 p4 p5 p6 h0 n0 Z0 hn
set_option maxRecDepth 65536 in
set_option maxHeartbeats 40000000 in
theorem comes_1 {Post : Tables → Env → Array Value → State → Outcome → State → Prop} (hpost : ∀ tb e args s v u, (limb_1_1.after args s (.returned v) u = true ∧ limb_1_2.after args s (.returned v) u = true ∧ True) → FrameEnd s (.returned v) u (Jvm.fieldLocs frame_1_writes args s ++ Jvm.arrayLocs frame_1_arrays args s ++ Jvm.staticLocs frame_1_statics s) 16 128 → Post tb e args s (.returned v) u) :
    ArmFor flags0 classFile x code maxLocals ret World_1 tables_1 room_1 Calls_1 rest_1 Pre_1 Post := by
  intro l hfl _ _ p e ha hc hk s m args below hf hA hF happ hP
  obtain ⟨hcalls, hrest, hpre⟩ := hP
  obtain ⟨-, -, -, hnamed, -, -, -, hat⟩ := (Spec.applies_iff hf).mp happ
  obtain ⟨hg, hn⟩ := and_e (Cond.before_iff.mp (show (Jvm.Cond.and given_1 narrow_1).before args s = true from hpre))
  obtain ⟨gc, q0⟩ := and_e hg
  obtain ⟨g0, q1⟩ := and_e q0
  obtain ⟨g1, q2⟩ := and_e q1
  obtain ⟨g2, q3⟩ := and_e q2
  obtain ⟨g3, q4⟩ := and_e q3
  obtain ⟨g4, q5⟩ := and_e q4
  have g5 := q5
  obtain ⟨w0, w1, w2, w3, w4, w5, rfl⟩ : ∃ w0 w1 w2 w3 w4 w5 : Value, args = #[w0, w1, w2, w3, w4, w5] := by
    have hs : args.size = 6 := by simpa [Cond.value, given_1] using gc
    obtain ⟨L⟩ := args
    match L, hs with
    | [w0, w1, w2, w3, w4, w5], _ => exact ⟨w0, w1, w2, w3, w4, w5, rfl⟩
  have hw := fun d (hd : d ∈ tables_1) => atoms_spec (ws := Jvm.Cond.code x code maxLocals ret :: tables_1) hat d (List.mem_cons_of_mem _ hd)
  obtain ⟨i0, ei0⟩ := isL_v g0
  obtain rfl : w0 = (.long i0) := Option.some.inj ei0
  obtain ⟨i1, ei1⟩ := isL_v g1
  obtain rfl : w1 = (.long i1) := Option.some.inj ei1
  obtain ⟨i2, ei2⟩ := is_v g2
  obtain rfl : w2 = (.int i2) := Option.some.inj ei2
  obtain ⟨i3, ei3⟩ := is_v g3
  obtain rfl : w3 = (.int i3) := Option.some.inj ei3
  obtain ⟨i4, ei4⟩ := is_v g4
  obtain rfl : w4 = (.int i4) := Option.some.inj ei4
  obtain ⟨i5, ei5⟩ := is_v g5
  obtain rfl : w5 = (.int i5) := Option.some.inj ei5
  obtain ⟨n, o, h1, h2, h3, _, L, rfl, ⟨rfl, N⟩, hq⟩ := rm0 l s _ hw tables_1 i0 i1 i2 i3 i4 i5 s.heap s.heap.size (Nat.le_refl _) p e ha hc hk s m _ below hf ((Spec.applies_iff_loose hf).mp happ).1 ⟨rfl, State.Warmed39.refl s, rfl⟩ trivial
  refine ⟨n, _, h1, h2, h3, hpost _ _ _ _ _ _ ⟨Cond.after_iff.mpr rfl, Cond.after_iff.mpr (eq_i res_at (Term.int_eval (1)) rfl), trivial⟩ ⟨hq.1, hq.2.1, (hq.2.2.sift fun y hy => Or.inr (N y hy)).mono (by decide) (by decide)⟩⟩
theorem main_1_1 : Claimed_1_1 := comes_1 fun _ _ _ _ _ _ h hF => ⟨h.1, hF⟩
theorem main_1_2 : Claimed_1_2 := comes_1 fun _ _ _ _ _ _ h hF => ⟨h.2.1, hF⟩
end Jvm.Pilot.@@N@@
namespace Jvm.Pilot.@@N@@
open Jvm Jvm.ClassFile Sem Op Lib Jvm.Free Jvm.Stand Jvm.Pilot.@@N@@.Jvm.D
/-! MADE BY PROGRAM (witnessworld.py) out of the Statement's table words and the real class files: 11 classes; the members and pool entries that the words name. The judged class is class 1, her method 1. -/
namespace start1
open Jvm.ClassFile
def u (s : String) : CpInfo := .utf8 (stringToUtf16 s)
/-- a pool by its gaps: so many unusable entries, then the entry; so many at the end -/
def gap : Nat → List CpInfo → List CpInfo
  | 0, r => r
  | n + 1, r => .unusable :: gap n r
def poolList (es : List (Nat × CpInfo)) (last : Nat) : List CpInfo := es.foldr (fun e r => gap e.1 (e.2 :: r)) (gap last [])
def pool (es : List (Nat × CpInfo)) (last : Nat) : Array CpInfo := ⟨poolList es last⟩
def fileOf (pool : Array CpInfo) (this : Nat) (attrs : Array Attribute := #[]) (ms : Array MethodInfo := #[]) (fl : Nat := 33) (sup : Nat := 0) (ifs : Array Nat := #[]) (fds : Array FieldInfo := #[]) : ClassFile where
  minorVersion := 0
  majorVersion := 65
  constantPool := pool
  accessFlags := fl
  thisClass := this
  superClass := sup
  interfaces := ifs
  fields := fds
  methods := ms
  attributes := attrs
def plain (name : String) (sup : Option ClassId) : Class where
  name := name
  kind := .ordinary
  loader := none
  accessFlags := 33
  super := sup
  interfaces := #[]
  cf := none
  fields := #[]
  methods := #[]
  instanceTypes := #[]
  staticTypes := #[]
  resolved := #[]
  callSites := []
  init := .initialized
  statics := none
  mirror := none

def pool0 : Array CpInfo := pool [(5, u "<init>"), (0, u "()V"), (1, .class_ 10), (1, u "java/lang/Object")] 113

def k0m0 : Method := { name := "<init>", desc := "()V", sig := { parameters := [], returnType := none }, accessFlags := 1, code := none }
/-- java/lang/Object -/
def k0 : Class := { plain "java/lang/Object" none with
  accessFlags := 33
  interfaces := #[]
  cf := some (fileOf pool0 8 #[] #[{ accessFlags := 1, nameIndex := 5, descriptorIndex := 6, attributes := #[] }] 33 0 #[] #[])
  fields := #[]
  methods := #[k0m0]
  instanceTypes := #[]
  staticTypes := #[]
  resolved := Array.replicate 124 none
  statics := none }

def pool1 : Array CpInfo := pool [(2, .class_ 4), (1, u "java/lang/Object"), (0, u "<init>"), (0, u "()V"), (0, .methodref 8 9), (0, .class_ 10), (0, .nameAndType 11 12), (0, u "com/example/ilmarinen/ilmarinen/search/GroundTask"), (0, u "firstAtom"), (0, u "([I[JZ)I"), (0, .methodref 14 15), (0, .class_ 16), (0, .nameAndType 17 18), (0, u "com/example/ilmarinen/ilmarinen/search/GroundTaskFirstAtomPinLaw"), (0, u "holds"), (0, u "(JJI)Z"), (2, u "law"), (0, u "(JJIIII)Z")] 7

def k1m0 : Method := { name := "<init>", desc := "()V", sig := { parameters := [], returnType := none }, accessFlags := 1, code := none }
def k1c1 : Code := { maxStack := 5, maxLocals := 17, code := code, exceptionTable := #[], attributes := #[] }
def k1m1 : Method := { name := "law", desc := "(JJIIII)Z", sig := { parameters := [.long, .long, .int, .int, .int, .int], returnType := some .boolean }, accessFlags := 9, code := some k1c1 }
def k1c2 : Code := { maxStack := 4, maxLocals := 8, code := method_3_code, exceptionTable := #[], attributes := #[] }
def k1m2 : Method := { name := "holds", desc := "(JJI)Z", sig := { parameters := [.long, .long, .int], returnType := some .boolean }, accessFlags := 10, code := some k1c2 }
/-- com/example/ilmarinen/ilmarinen/search/GroundTaskFirstAtomPinLaw -/
def k1 : Class := { plain "com/example/ilmarinen/ilmarinen/search/GroundTaskFirstAtomPinLaw" (some 0) with
  accessFlags := 49
  interfaces := #[]
  cf := some (fileOf pool1 14 #[] #[{ accessFlags := 1, nameIndex := 5, descriptorIndex := 6, attributes := #[] }, { accessFlags := 9, nameIndex := 21, descriptorIndex := 22, attributes := #[] }, { accessFlags := 10, nameIndex := 17, descriptorIndex := 18, attributes := #[] }] 49 2 #[] #[])
  fields := #[]
  methods := #[k1m0, k1m1, k1m2]
  instanceTypes := #[]
  staticTypes := #[]
  resolved := Array.replicate 30 none
  statics := none }

def pool2 : Array CpInfo := pool [(2, .class_ 4), (1, u "java/lang/Object"), (9, .class_ 16), (1, u "com/example/ilmarinen/ilmarinen/search/GroundTask"), (0, u "atoms"), (0, u "Ljava/util/List;"), (2, u "words"), (0, u "I"), (2, u "initialState"), (0, u "[J"), (2, u "goal"), (0, u "[I"), (2, u "unreachableGoal"), (2, u "actions"), (2, u "interfering"), (0, u "[[I"), (2, u "costScale"), (197, u "firstAtom"), (0, u "([I[JZ)I")] 153

def k2c0 : Code := { maxStack := 5, maxLocals := 6, code := prog_41_method_4_code, exceptionTable := #[], attributes := #[] }
def k2m0 : Method := { name := "firstAtom", desc := "([I[JZ)I", sig := { parameters := [(.array .int), (.array .long), .boolean], returnType := some .int }, accessFlags := 8, code := some k2c0 }
/-- com/example/ilmarinen/ilmarinen/search/GroundTask -/
def k2 : Class := { plain "com/example/ilmarinen/ilmarinen/search/GroundTask" (some 0) with
  accessFlags := 48
  interfaces := #[]
  cf := some (fileOf pool2 14 #[] #[{ accessFlags := 8, nameIndex := 241, descriptorIndex := 242, attributes := #[] }] 48 2 #[] #[{ accessFlags := 16, nameIndex := 17, descriptorIndex := 18, attributes := #[] }, { accessFlags := 16, nameIndex := 21, descriptorIndex := 22, attributes := #[] }, { accessFlags := 16, nameIndex := 25, descriptorIndex := 26, attributes := #[] }, { accessFlags := 16, nameIndex := 29, descriptorIndex := 30, attributes := #[] }, { accessFlags := 16, nameIndex := 33, descriptorIndex := 18, attributes := #[] }, { accessFlags := 16, nameIndex := 36, descriptorIndex := 18, attributes := #[] }, { accessFlags := 16, nameIndex := 39, descriptorIndex := 40, attributes := #[] }, { accessFlags := 16, nameIndex := 43, descriptorIndex := 22, attributes := #[] }])
  fields := #[{ name := "atoms", type := (.object "java/util/List"), accessFlags := 16, slot := 0, constantValue := 0 }, { name := "words", type := .int, accessFlags := 16, slot := 1, constantValue := 0 }, { name := "initialState", type := (.array .long), accessFlags := 16, slot := 2, constantValue := 0 }, { name := "goal", type := (.array .int), accessFlags := 16, slot := 3, constantValue := 0 }, { name := "unreachableGoal", type := (.object "java/util/List"), accessFlags := 16, slot := 4, constantValue := 0 }, { name := "actions", type := (.object "java/util/List"), accessFlags := 16, slot := 5, constantValue := 0 }, { name := "interfering", type := (.array (.array .int)), accessFlags := 16, slot := 6, constantValue := 0 }, { name := "costScale", type := .int, accessFlags := 16, slot := 7, constantValue := 0 }]
  methods := #[k2m0]
  instanceTypes := #[(.object "java/util/List"), .int, (.array .long), (.array .int), (.object "java/util/List"), (.object "java/util/List"), (.array (.array .int)), .int]
  staticTypes := #[]
  resolved := Array.replicate 396 none
  statics := none }

def pool3 : Array CpInfo := pool [(1, u "java/lang/Cloneable"), (0, .class_ 1), (0, u "java/lang/Object"), (0, .class_ 3)] 3

/-- java/lang/Cloneable -/
def k3 : Class := { plain "java/lang/Cloneable" (some 0) with
  accessFlags := 1537
  interfaces := #[]
  cf := some (fileOf pool3 2 #[] #[] 1537 4 #[] #[])
  fields := #[]
  methods := #[]
  instanceTypes := #[]
  staticTypes := #[]
  resolved := Array.replicate 8 none
  statics := none }

def pool4 : Array CpInfo := pool [(1, u "java/io/Serializable"), (0, .class_ 1), (0, u "java/lang/Object"), (0, .class_ 3)] 3

/-- java/io/Serializable -/
def k4 : Class := { plain "java/io/Serializable" (some 0) with
  accessFlags := 1537
  interfaces := #[]
  cf := some (fileOf pool4 2 #[] #[] 1537 4 #[] #[])
  fields := #[]
  methods := #[]
  instanceTypes := #[]
  staticTypes := #[]
  resolved := Array.replicate 8 none
  statics := none }

/-- the primitive byte -/
def k5 : Class := { plain "byte" none with kind := .primitive 'B', accessFlags := 0x411 }
/-- [B -/
def k6 : Class := { plain "[B" (some 0) with kind := .array 5 .byte, interfaces := #[3, 4], accessFlags := 1041 }

/-- the primitive int -/
def k7 : Class := { plain "int" none with kind := .primitive 'I', accessFlags := 0x411 }
/-- [I -/
def k8 : Class := { plain "[I" (some 0) with kind := .array 7 .int, interfaces := #[3, 4], accessFlags := 1041 }

/-- the primitive long -/
def k9 : Class := { plain "long" none with kind := .primitive 'J', accessFlags := 0x411 }
/-- [J -/
def k10 : Class := { plain "[J" (some 0) with kind := .array 9 .long, interfaces := #[3, 4], accessFlags := 1041 }

def heap : Heap := #[]
def classes : Array Class := #[k0, k1, k2, k3, k4, k5, k6, k7, k8, k9, k10]
def interned : List (Array UInt16 × Addr) := []
def slotsUsed : Nat := 0
def theMethod : MethodId := ⟨1, 1⟩
def args0 : Array Value := #[.long 5, .long 300, .int 1, .int 2, .int 66, .int 7]
def aboutOver (below : List Frame) : State where
  vm := { classes := classes, interned := interned.toArray }
  heap := heap
  slotsUsed := slotsUsed
  threads := #[{ frames := .invoking theMethod args0 :: below }]
def below0 : List Frame := [.native { method := ⟨0, 0⟩, args := #[] }]
def about1 : State := aboutOver below0
def p0 : Program := .bare "" "" ""
def e0 : Env := launch0.env 0 0 0
theorem w_frames : about1.frames = Frame.invoking theMethod args0 :: below0 := rfl
set_option maxRecDepth 65536 in
theorem w_args : argsFit about1.vm theMethod args0 = true := by decide +kernel
set_option maxRecDepth 65536 in
theorem w_heap : heapFits about1 = true := by decide +kernel
set_option maxRecDepth 65536 in
theorem w_runnable : about1.curStatus? = some .runnable := by decide +kernel
set_option maxRecDepth 65536 in
theorem w_alone : about1.alone = true := by decide +kernel
set_option maxRecDepth 65536 in
theorem w_named : about1.methodNamed? x = some theMethod := by decide +kernel
set_option maxRecDepth 65536 in
theorem w_hears : about1.hears theMethod below0 = true := by decide +kernel
set_option maxRecDepth 65536 in
theorem w_ripe : about1.ripe theMethod args0 below0 = true := by decide +kernel
theorem w_running : about1.status = .running := rfl
set_option maxRecDepth 65536 in
theorem w_room : about1.hasRoom e0.platform room_1 = true :=
  launch0.hasRoom_least _ room_1 (by decide +kernel) (by decide +kernel) (by decide +kernel) (by decide +kernel) (by decide +kernel) (by decide +kernel)
theorem allAtoms_all (ts : List Jvm.Cond) (a : Array Jvm.Value) (st : Jvm.State) : (allAtoms ts).before a st = ts.all (fun c => c.before a st) := by
  induction ts with
  | nil => rfl
  | cons c t ih =>
    show (Jvm.Cond.and c (allAtoms t)).before a st = _
    rw [Jvm.Cond.before_and, ih, List.all_cons]
def words1 : List Jvm.Cond := Jvm.Cond.code x code maxLocals ret :: tables_1
/-- a 'code' word, met by the world's own term for the bytes: nothing is compared byte by byte -/
theorem code_word {y : MethodName} {bytes : ByteArray} {mx : Nat} {rt : Option FieldType} {a : Array Value} {s : State} {m : MethodId} {meth : Method} {c : Code} (h1 : s.methodNamed? y = some m) (h2 : s.vm.method? m = some meth) (h3 : meth.code = some c) (h4 : c.code = bytes)
    (h5 : (c.maxLocals == mx && c.exceptionTable.isEmpty && decide (c.maxStack ≤ mostOperands) && decide (meth.sig.returnType = rt) && !meth.locks && decide (parseMethodDescriptor y.desc = some meth.sig)) = true) : (Jvm.Cond.code y bytes mx rt).before a s = true := by
  simp only [Bool.and_eq_true, beq_iff_eq, Bool.not_eq_true', decide_eq_true_eq] at h5
  obtain ⟨⟨⟨⟨⟨g1, g2⟩, g3⟩, g4⟩, g5⟩, g6⟩ := h5
  simp [Cond.before, Cond.holds, Cond.value, h1, h2, h3, h4, g1, g2, g3, g4, g5, g6]
def isCode : Jvm.Cond → Bool
  | .code _ _ _ _ => true
  | _ => false
theorem all_split {L : List Jvm.Cond} {P : Jvm.Cond → Bool} (h1 : L.all (fun c => isCode c || P c) = true) (h2 : ∀ c ∈ L.filter isCode, P c = true) : L.all P = true := by
  refine List.all_eq_true.mpr fun c hc => ?_
  have h := List.all_eq_true.mp h1 c hc
  rcases Bool.eq_false_or_eq_true (isCode c) with hi | hi
  · exact h2 c (List.mem_filter.mpr ⟨hc, hi⟩)
  · simpa [hi] using h
set_option maxRecDepth 65536 in
theorem w_c0 : (Jvm.Cond.code x code maxLocals ret).before args0 about1 = true := code_word (m := ⟨1, 1⟩) (meth := k1m1) (c := k1c1) (by decide +kernel) rfl rfl rfl (by decide +kernel)
set_option maxRecDepth 65536 in
theorem w_c1 : (Jvm.Cond.code ({ cls := "com/example/ilmarinen/ilmarinen/search/GroundTask", name := "firstAtom", desc := "([I[JZ)I" } : Jvm.MethodName) prog_41_method_4_code (6 : Nat) (Option.some Jvm.ClassFile.FieldType.int)).before args0 about1 = true := code_word (m := ⟨2, 0⟩) (meth := k2m0) (c := k2c0) (by decide +kernel) rfl rfl rfl (by decide +kernel)
set_option maxRecDepth 65536 in
theorem w_c2 : (Jvm.Cond.code ({ cls := "com/example/ilmarinen/ilmarinen/search/GroundTaskFirstAtomPinLaw", name := "holds", desc := "(JJI)Z" } : Jvm.MethodName) method_3_code (8 : Nat) (Option.some Jvm.ClassFile.FieldType.boolean)).before args0 about1 = true := code_word (m := ⟨1, 2⟩) (meth := k1m2) (c := k1c2) (by decide +kernel) rfl rfl rfl (by decide +kernel)
def codes1 : List Jvm.Cond := [Jvm.Cond.code x code maxLocals ret, Jvm.Cond.code ({ cls := "com/example/ilmarinen/ilmarinen/search/GroundTask", name := "firstAtom", desc := "([I[JZ)I" } : Jvm.MethodName) prog_41_method_4_code (6 : Nat) (Option.some Jvm.ClassFile.FieldType.int), Jvm.Cond.code ({ cls := "com/example/ilmarinen/ilmarinen/search/GroundTaskFirstAtomPinLaw", name := "holds", desc := "(JJI)Z" } : Jvm.MethodName) method_3_code (8 : Nat) (Option.some Jvm.ClassFile.FieldType.boolean)]
set_option maxRecDepth 65536 in
theorem codes_eq : words1.filter isCode = codes1 := rfl
theorem w_codes : ∀ c ∈ words1.filter isCode, c.before args0 about1 = true := by
  rw [codes_eq]
  intro c hc
  simp only [codes1, List.mem_cons, List.not_mem_nil, or_false] at hc
  rcases hc with rfl | rfl | rfl
  · exact w_c0
  · exact w_c1
  · exact w_c2
set_option maxRecDepth 65536 in
theorem w_t1 : words1.all (fun c => isCode c || c.before args0 about1) = true := by decide +kernel
theorem w_tables : (allAtoms (Jvm.Cond.code x code maxLocals ret :: tables_1)).before args0 about1 = true := by
  rw [allAtoms_all]
  show words1.all (fun c => c.before args0 about1) = true
  refine all_split ?_ w_codes
  rw [w_t1]
set_option maxRecDepth 65536 in
theorem w_case : (Jvm.Cond.and given_1 narrow_1).before args0 about1 = true := by decide +kernel
theorem w_applies : (headSpec (Jvm.Cond.code x code maxLocals ret :: tables_1) room_1).applies x e0.platform about1 = true :=
  (Spec.applies_iff w_frames).mpr ⟨w_running, w_runnable, w_alone, w_named, w_hears, w_ripe, w_room, w_tables⟩
theorem atStart : AtStart classFile x code maxLocals ret World_1 tables_1 room_1 Calls_1 rest_1 Pre_1 launch0 p0 e0 about1 theMethod args0 below0 :=
  ⟨lists_1, trivial, launch0.admits_env _ _ _, launch0.least_env, fairChoices_fair.cas, fairChoices_fair.clock, w_frames, w_args, w_heap, w_applies, trivial, trivial, w_case⟩
end start1
theorem witness_1 : WitnessClaimed_1 := ⟨start1.p0, start1.e0, start1.about1, start1.theMethod, start1.args0, start1.below0, start1.atStart⟩
end Jvm.Pilot.@@N@@
