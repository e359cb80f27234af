import JvmDerived
import JvmDerived.Pilot.@@N@@Statement
import JvmDerived.Pilot.@@N@@Code
set_option linter.unusedVariables false
set_option linter.unusedSimpArgs false
namespace Jvm.RoadKit
open Sem ClassFile Op Lib Jvm.Stand Jvm.Free Jvm.LawKit
section New
variable {p : Program} {l : Launch} {e : Env} {R : Room} {s : State} {m : MethodId} {args : Array Value} {below : List Frame} {meth : Method} {c : Code} {T : State} {locs : List Loc} {cells slots : Nat}
theorem retI (X : Stand p l e R s m args below meth c T locs cells slots) (hx : p.tables.exec = Jvm.exec) {pc : Nat} {Ls : Array Slot} {z : Int32} {rest : List Value} (hret : meth.sig.returnType = some .int) (hd : decode c.code pc = .ok (.ireturn, 1)) {fs : List Frame}
    (hl : ∀ (f : JFrame) (acts : List Action), f.method = m → f.locked = none → f.entered = [] → (doReturn e (T.setTop f) acts (some (.int z))).1 = T.setFrames fs) : Steps p.tables e below (T.setTop (mkF m pc Ls (.int z :: rest))) (T.setFrames fs) := by
  have hm' : T.vm.method? m = some meth := X.method'
  have hn : narrow .int (.int z) = .int z := rfl
  show Steps p.tables e below (T.setTop { method := m, pc := pc, locals := Ls, stack := _ :: rest, locked := none }) _
  jvm_step X.here [X.here.top, hx, hd, hm', hret, hn]
  first | (intro acts; rw [hl _ acts rfl rfl rfl]) | rw [hl _ _ rfl rfl rfl]
  exact Steps.refl _
end New
end Jvm.RoadKit
namespace Jvm.Pilot.@@N@@
open Jvm Jvm.ClassFile Sem Op Lib Jvm.Free Jvm.Stand Jvm.LawKit Jvm.RoadKit Bundle Jvm.Pilot.@@N@@.Jvm.D
theorem own_split (q M : Nat) {r m : Nat} (hr : r < 256) (hm : m < 256) : (256 * q + r) &&& (256 * M + m) = 256 * (q &&& M) + (r &&& m) := by
  have hrm : r &&& m < 256 := Nat.lt_of_le_of_lt Nat.and_le_left hr
  apply Nat.eq_of_testBit_eq
  intro j
  have a := Nat.testBit_two_pow_mul_add q (b := r) (i := 8) hr j
  have b := Nat.testBit_two_pow_mul_add M (b := m) (i := 8) hm j
  have c := Nat.testBit_two_pow_mul_add (q &&& M) (b := r &&& m) (i := 8) hrm j
  simp only [Nat.reducePow] at a b c
  rw [Nat.testBit_and, a, b, c]
  by_cases h : j < 8 <;> simp [h, Nat.testBit_and]

def own_m1 : Nat → Nat | 0 => 0 | k + 1 => 256 * own_m1 k + 0x55
def own_m2 : Nat → Nat | 0 => 0 | k + 1 => 256 * own_m2 k + 0x33
def own_m3 : Nat → Nat | 0 => 0 | k + 1 => 256 * own_m3 k + 0x0f
def own_a (k x : Nat) : Nat := x - ((x / 2) &&& own_m1 k)
def own_b (k a : Nat) : Nat := (a &&& own_m2 k) + ((a / 4) &&& own_m2 k)
def own_c (k b : Nat) : Nat := (b + b / 16) &&& own_m3 k
def own_p (k x : Nat) : Nat := own_c k (own_b k (own_a k x))

theorem own_d1 : ∀ t : Fin 2, ∀ r : Fin 256, (128 * t.val + r.val / 2) &&& 0x55 = (r.val / 2) &&& 0x55 := by decide +kernel
theorem own_d2 : ∀ t : Fin 4, ∀ r : Fin 256, (64 * t.val + r.val / 4) &&& 0x33 = (r.val / 4) &&& 0x33 := by decide +kernel
theorem own_d3 : ∀ r : Fin 256, own_p 1 r.val ≤ 8 := by decide +kernel
theorem own_d4 : ∀ r : Fin 256, own_a 1 r.val < 256 := by decide +kernel
theorem own_d5 : ∀ r : Fin 256, own_b 1 r.val ≤ 102 := by decide +kernel
theorem own_low (k z : Nat) : (z &&& own_m2 k) % 16 ≤ 3 := by
  have h := Nat.and_mod_two_pow (a := z) (b := own_m2 k) (n := 4)
  simp only [Nat.reducePow] at h
  rw [h]
  have : own_m2 k % 16 ≤ 3 := by
    cases k with
    | zero => simp [own_m2]
    | succ k => simp only [own_m2]; omega
  exact Nat.le_trans Nat.and_le_right this

theorem own_step (k q : Nat) {r : Nat} (hr : r < 256) : own_p (k + 1) (256 * q + r) = 256 * own_p k q + own_p 1 r := by
  have ha : own_a (k + 1) (256 * q + r) = 256 * own_a k q + own_a 1 r := by
    unfold own_a
    have e1 : (256 * q + r) / 2 = 256 * (q / 2) + (128 * (q % 2) + r / 2) := by omega
    have e2 := own_split (q / 2) (own_m1 k) (r := 128 * (q % 2) + r / 2) (m := 0x55) (by omega) (by omega)
    have e3 := own_d1 ⟨q % 2, by omega⟩ ⟨r, hr⟩
    have e4 : (q / 2) &&& own_m1 k ≤ q / 2 := Nat.and_le_left
    have e5 : (r / 2) &&& 0x55 ≤ r / 2 := Nat.and_le_left
    simp only [own_m1] at *
    rw [e1, e2, e3]
    simp only [Nat.mul_zero, Nat.zero_add]
    omega
  have har : own_a 1 r < 256 := own_d4 ⟨r, hr⟩
  have hb : ∀ A R, R < 256 → own_b (k + 1) (256 * A + R) = 256 * own_b k A + own_b 1 R := by
    intro A R hR
    unfold own_b
    have e1 : (256 * A + R) / 4 = 256 * (A / 4) + (64 * (A % 4) + R / 4) := by omega
    have e2 := own_split (A / 4) (own_m2 k) (r := 64 * (A % 4) + R / 4) (m := 0x33) (by omega) (by omega)
    have e2' := own_split A (own_m2 k) (r := R) (m := 0x33) hR (by omega)
    have e3 := own_d2 ⟨A % 4, by omega⟩ ⟨R, hR⟩
    simp only [own_m2] at *
    rw [e1, e2, e3, e2']
    simp only [Nat.mul_zero, Nat.zero_add]
    omega
  have hbr := own_d5 ⟨own_a 1 r, har⟩
  have hbq : own_b k (own_a k q) % 16 ≤ 6 := by
    unfold own_b
    have := own_low k (own_a k q)
    have := own_low k (own_a k q / 4)
    omega
  unfold own_p
  rw [ha, hb _ _ har]
  generalize own_b k (own_a k q) = B at *
  generalize own_b 1 (own_a 1 r) = R at *
  unfold own_c
  have e1 : (256 * B + R) + (256 * B + R) / 16 = 256 * (B + B / 16) + (R + 16 * (B % 16) + R / 16) := by omega
  have e2 := own_split (B + B / 16) (own_m3 k) (r := R + 16 * (B % 16) + R / 16) (m := 0x0f) (by omega) (by omega)
  have e3 : ∀ z, z &&& 0x0f = z % 16 := fun z => Nat.and_two_pow_sub_one_eq_mod z 4
  simp only [own_m3] at *
  rw [e1, e2]
  simp only [Nat.mul_zero, Nat.zero_add]
  rw [e3, e3]
  omega

theorem own_digits (x : Nat) : ∃ b0 b1 b2 b3 b4 b5 b6 b7 : Nat, b0 ≤ 8 ∧ b1 ≤ 8 ∧ b2 ≤ 8 ∧ b3 ≤ 8 ∧ b4 ≤ 8 ∧ b5 ≤ 8 ∧ b6 ≤ 8 ∧ b7 ≤ 8 ∧
    own_p 8 x = 256 * (256 * (256 * (256 * (256 * (256 * (256 * b7 + b6) + b5) + b4) + b3) + b2) + b1) + b0 := by
  have st : ∀ k x, ∃ b, b ≤ 8 ∧ own_p (k + 1) x = 256 * own_p k (x / 256) + b := by
    intro k x
    refine ⟨own_p 1 (x % 256), own_d3 ⟨x % 256, by omega⟩, ?_⟩
    have := own_step k (x / 256) (r := x % 256) (by omega)
    rw [← this]
    congr 1
    omega
  obtain ⟨b0, h0, e0⟩ := st 7 x
  obtain ⟨b1, h1, e1⟩ := st 6 (x / 256)
  obtain ⟨b2, h2, e2⟩ := st 5 (x / 256 / 256)
  obtain ⟨b3, h3, e3⟩ := st 4 (x / 256 / 256 / 256)
  obtain ⟨b4, h4, e4⟩ := st 3 (x / 256 / 256 / 256 / 256)
  obtain ⟨b5, h5, e5⟩ := st 2 (x / 256 / 256 / 256 / 256 / 256)
  obtain ⟨b6, h6, e6⟩ := st 1 (x / 256 / 256 / 256 / 256 / 256 / 256)
  obtain ⟨b7, h7, e7⟩ := st 0 (x / 256 / 256 / 256 / 256 / 256 / 256 / 256)
  refine ⟨b0, b1, b2, b3, b4, b5, b6, b7, h0, h1, h2, h3, h4, h5, h6, h7, ?_⟩
  have e8 : own_p 0 (x / 256 / 256 / 256 / 256 / 256 / 256 / 256 / 256) = 0 := by simp [own_p, own_c, own_m3]
  rw [e0, e1, e2, e3, e4, e5, e6, e7, e8, Nat.mul_zero, Nat.zero_add]


def own_ushrL (x : Int64) (y : Int32) : Int64 := (x.toUInt64 >>> (y &&& 0x3f).toInt64.toUInt64).toInt64
theorem own_ushr (x : Int64) (y : Int32) {k : Nat} (hk : ((y &&& 0x3f).toInt64.toUInt64).toNat = k) (h : k < 64) : (own_ushrL x y).toBitVec.toNat = x.toBitVec.toNat / 2 ^ k := by
  unfold own_ushrL
  have hk' : ((y &&& 0x3f).toInt64.toUInt64).toBitVec.toNat = k := hk
  generalize (y &&& 0x3f).toInt64.toUInt64 = z at *
  simp only [UInt64.toBitVec_toInt64, UInt64.toBitVec_shiftRight, Int64.toBitVec_toUInt64]
  simp [BitVec.toNat_ushiftRight, Nat.shiftRight_eq_div_pow, hk', Nat.mod_eq_of_lt h]
def own_i1 (x : Int64) : Int64 := x - (own_ushrL x 1 &&& 6148914691236517205)
def own_i2 (x : Int64) : Int64 := (x &&& 3689348814741910323) + (own_ushrL x 2 &&& 3689348814741910323)
def own_i3 (x : Int64) : Int64 := (x + own_ushrL x 4) &&& 1085102592571150095
def own_j (x : Int64) : Int32 := (own_i3 (own_i2 (own_i1 x)) |> fun y => (y + own_ushrL y 8) |> fun y => (y + own_ushrL y 16) |> fun y => (y + own_ushrL y 32)).toInt32 &&& 127
def own_l (x : Int64) : Int32 := (own_ushrL (own_i3 (own_i2 (own_i1 x)) * 72340172838076673) 56).toInt32
def own_h (k : Int32) (y : Int64) : Int64 := y + own_ushrL y k
theorem own_N_and (x y : Int64) : (x &&& y).toBitVec.toNat = x.toBitVec.toNat &&& y.toBitVec.toNat := by simp [Int64.toBitVec_and, BitVec.toNat_and]
theorem own_N_add (x y : Int64) : (x + y).toBitVec.toNat = (x.toBitVec.toNat + y.toBitVec.toNat) % 2 ^ 64 := by simp [Int64.toBitVec_add, BitVec.toNat_add]
theorem own_N_sub (x y : Int64) : (x - y).toBitVec.toNat = (2 ^ 64 - y.toBitVec.toNat + x.toBitVec.toNat) % 2 ^ 64 := by simp [Int64.toBitVec_sub, BitVec.toNat_sub]
theorem own_N_mul (x y : Int64) : (x * y).toBitVec.toNat = (x.toBitVec.toNat * y.toBitVec.toNat) % 2 ^ 64 := by simp [Int64.toBitVec_mul, BitVec.toNat_mul]
theorem own_N3 (x : Int64) : (own_i3 (own_i2 (own_i1 x))).toBitVec.toNat = own_p 8 x.toBitVec.toNat := by
  have hx := x.toBitVec.isLt
  have e1 : (own_i1 x).toBitVec.toNat = own_a 8 x.toBitVec.toNat := by
    have hm : (6148914691236517205 : Int64).toBitVec.toNat = own_m1 8 := by decide +kernel
    unfold own_i1 own_a
    rw [own_N_sub, own_N_and, own_ushr x 1 (k := 1) (by decide) (by decide), hm]
    have : (x.toBitVec.toNat / 2 &&& own_m1 8) ≤ x.toBitVec.toNat / 2 := Nat.and_le_left
    simp only [Nat.pow_one] at *
    omega
  have hA : own_a 8 x.toBitVec.toNat < 2 ^ 64 := by unfold own_a; omega
  unfold own_p
  rw [← e1] at hA ⊢
  generalize own_i1 x = y at *
  have hm2 : (3689348814741910323 : Int64).toBitVec.toNat = own_m2 8 := by decide +kernel
  have hm2' : own_m2 8 = 3689348814741910323 := by decide +kernel
  have e2 : (own_i2 y).toBitVec.toNat = own_b 8 y.toBitVec.toNat := by
    unfold own_i2 own_b
    rw [own_N_add, own_N_and, own_N_and, own_ushr y 2 (k := 2) (by decide) (by decide), hm2]
    have : (y.toBitVec.toNat &&& own_m2 8) ≤ own_m2 8 := Nat.and_le_right
    have : (y.toBitVec.toNat / 2 ^ 2 &&& own_m2 8) ≤ own_m2 8 := Nat.and_le_right
    show _ = (y.toBitVec.toNat &&& own_m2 8) + (y.toBitVec.toNat / 2 ^ 2 &&& own_m2 8)
    omega
  have hB : own_b 8 y.toBitVec.toNat ≤ 2 * 3689348814741910323 := by
    unfold own_b
    have : (y.toBitVec.toNat &&& own_m2 8) ≤ own_m2 8 := Nat.and_le_right
    have : (y.toBitVec.toNat / 4 &&& own_m2 8) ≤ own_m2 8 := Nat.and_le_right
    omega
  rw [← e2] at hB ⊢
  generalize own_i2 y = z at *
  have hm3 : (1085102592571150095 : Int64).toBitVec.toNat = own_m3 8 := by decide +kernel
  unfold own_i3 own_c
  rw [own_N_and, own_N_add, own_ushr z 4 (k := 4) (by decide) (by decide), hm3]
  congr 1
  simp only [Nat.reducePow]
  omega
theorem own_small (x : Int32) (n : Nat) (h : x.toBitVec.toNat = n) (hn : n < 2 ^ 31) : x.toInt = n := by
  have : x.toInt = x.toBitVec.toInt := rfl
  rw [this, BitVec.toInt_eq_toNat_cond, h, if_pos (by omega)]
theorem own_q8 (q b : Nat) (hb : b < 256) : (256 * q + b) / 2 ^ 8 = q := by simp only [Nat.reducePow]; omega
theorem own_q16 (q c b : Nat) (hc : c < 256) (hb : b < 256) : (256 * (256 * q + c) + b) / 2 ^ 16 = q := by simp only [Nat.reducePow]; omega
theorem own_q32 (q e d c b : Nat) (he : e < 256) (hd : d < 256) (hc : c < 256) (hb : b < 256) : (256 * (256 * (256 * (256 * q + e) + d) + c) + b) / 2 ^ 32 = q := by simp only [Nat.reducePow]; omega
theorem own_q56 (H S L : Nat) (hS : S < 256) (hL : L < 2 ^ 56) : (2 ^ 64 * H + (2 ^ 56 * S + L)) % 2 ^ 64 / 2 ^ 56 = S := by simp only [Nat.reducePow] at *; omega
theorem own_q7 (A B c d : Nat) (h : c + d < 128) : (256 * A + c + (256 * B + d)) % 2 ^ 64 % 128 = c + d := by simp only [Nat.reducePow] at *; omega
theorem own_key (b0 b1 b2 b3 b4 b5 b6 b7 : Nat) : (256 * (256 * (256 * (256 * (256 * (256 * (256 * b7 + b6) + b5) + b4) + b3) + b2) + b1) + b0) * 72340172838076673 =
      18446744073709551616 * ((b1 + b2 + b3 + b4 + b5 + b6 + b7) + 256 * (b2 + b3 + b4 + b5 + b6 + b7) + 65536 * (b3 + b4 + b5 + b6 + b7) + 16777216 * (b4 + b5 + b6 + b7) + 4294967296 * (b5 + b6 + b7) + 1099511627776 * (b6 + b7) + 281474976710656 * b7) +
      (72057594037927936 * (b0 + b1 + b2 + b3 + b4 + b5 + b6 + b7) + (b0 + 256 * (b0 + b1) + 65536 * (b0 + b1 + b2) + 16777216 * (b0 + b1 + b2 + b3) + 4294967296 * (b0 + b1 + b2 + b3 + b4) + 1099511627776 * (b0 + b1 + b2 + b3 + b4 + b5) + 281474976710656 * (b0 + b1 + b2 + b3 + b4 + b5 + b6))) := by
  omega
theorem own_kL (b0 b1 b2 b3 b4 b5 b6 b7 : Nat) (h0 : b0 ≤ 8) (h1 : b1 ≤ 8) (h2 : b2 ≤ 8) (h3 : b3 ≤ 8) (h4 : b4 ≤ 8) (h5 : b5 ≤ 8) (h6 : b6 ≤ 8) (h7 : b7 ≤ 8) : b0 + 256 * (b0 + b1) + 65536 * (b0 + b1 + b2) + 16777216 * (b0 + b1 + b2 + b3) + 4294967296 * (b0 + b1 + b2 + b3 + b4) + 1099511627776 * (b0 + b1 + b2 + b3 + b4 + b5) + 281474976710656 * (b0 + b1 + b2 + b3 + b4 + b5 + b6) < 72057594037927936 := by
  omega
theorem own_k4 (b0 b1 b2 b3 b4 b5 b6 b7 : Nat) (h0 : b0 ≤ 8) (h1 : b1 ≤ 8) (h2 : b2 ≤ 8) (h3 : b3 ≤ 8) (h4 : b4 ≤ 8) (h5 : b5 ≤ 8) (h6 : b6 ≤ 8) (h7 : b7 ≤ 8) : (256 * (256 * (256 * (256 * (256 * (256 * (256 * b7 + b6) + b5) + b4) + b3) + b2) + b1) + b0) + (256 * (256 * (256 * (256 * (256 * (256 * b7 + b6) + b5) + b4) + b3) + b2) + b1) = 256 * (256 * (256 * (256 * (256 * (256 * (256 * b7 + (b6 + b7)) + (b5 + b6)) + (b4 + b5)) + (b3 + b4)) + (b2 + b3)) + (b1 + b2)) + (b0 + b1) := by omega
theorem own_k4b (b0 b1 b2 b3 b4 b5 b6 b7 : Nat) (h0 : b0 ≤ 8) (h1 : b1 ≤ 8) (h2 : b2 ≤ 8) (h3 : b3 ≤ 8) (h4 : b4 ≤ 8) (h5 : b5 ≤ 8) (h6 : b6 ≤ 8) (h7 : b7 ≤ 8) : 256 * (256 * (256 * (256 * (256 * (256 * (256 * b7 + (b6 + b7)) + (b5 + b6)) + (b4 + b5)) + (b3 + b4)) + (b2 + b3)) + (b1 + b2)) + (b0 + b1) < 18446744073709551616 := by omega
theorem own_k5 (b0 b1 b2 b3 b4 b5 b6 b7 : Nat) (h0 : b0 ≤ 8) (h1 : b1 ≤ 8) (h2 : b2 ≤ 8) (h3 : b3 ≤ 8) (h4 : b4 ≤ 8) (h5 : b5 ≤ 8) (h6 : b6 ≤ 8) (h7 : b7 ≤ 8) : (256 * (256 * (256 * (256 * (256 * (256 * (256 * b7 + (b6 + b7)) + (b5 + b6)) + (b4 + b5)) + (b3 + b4)) + (b2 + b3)) + (b1 + b2)) + (b0 + b1)) + (256 * (256 * (256 * (256 * (256 * b7 + (b6 + b7)) + (b5 + b6)) + (b4 + b5)) + (b3 + b4)) + (b2 + b3)) = 256 * (256 * (256 * (256 * (256 * (256 * (256 * b7 + (b6 + b7)) + (b5 + b6 + b7)) + (b4 + b5 + b6 + b7)) + (b3 + b4 + b5 + b6)) + (b2 + b3 + b4 + b5)) + (b1 + b2 + b3 + b4)) + (b0 + b1 + b2 + b3) := by omega
theorem own_k5b (b0 b1 b2 b3 b4 b5 b6 b7 : Nat) (h0 : b0 ≤ 8) (h1 : b1 ≤ 8) (h2 : b2 ≤ 8) (h3 : b3 ≤ 8) (h4 : b4 ≤ 8) (h5 : b5 ≤ 8) (h6 : b6 ≤ 8) (h7 : b7 ≤ 8) : 256 * (256 * (256 * (256 * (256 * (256 * (256 * b7 + (b6 + b7)) + (b5 + b6 + b7)) + (b4 + b5 + b6 + b7)) + (b3 + b4 + b5 + b6)) + (b2 + b3 + b4 + b5)) + (b1 + b2 + b3 + b4)) + (b0 + b1 + b2 + b3) < 18446744073709551616 := by omega
theorem own_N32 (x : Int64) : x.toInt32.toBitVec.toNat = x.toBitVec.toNat % 2 ^ 32 := by
  rw [Int64.toBitVec_toInt32, BitVec.signExtend_eq_setWidth_of_le _ (by decide), BitVec.toNat_setWidth]
theorem own_lw (y : Int64) (b0 b1 b2 b3 b4 b5 b6 b7 : Nat) (h0 : b0 ≤ 8) (h1 : b1 ≤ 8) (h2 : b2 ≤ 8) (h3 : b3 ≤ 8) (h4 : b4 ≤ 8) (h5 : b5 ≤ 8) (h6 : b6 ≤ 8) (h7 : b7 ≤ 8) (h : y.toBitVec.toNat = 256 * (256 * (256 * (256 * (256 * (256 * (256 * b7 + b6) + b5) + b4) + b3) + b2) + b1) + b0) : (own_ushrL (y * 72340172838076673) 56).toInt32.toBitVec.toNat = b0 + b1 + b2 + b3 + b4 + b5 + b6 + b7 := by
  have e : (own_ushrL (y * 72340172838076673) 56).toInt32.toBitVec.toNat = (own_ushrL (y * 72340172838076673) 56).toBitVec.toNat % 2 ^ 32 := own_N32 _
  have hc : (72340172838076673 : Int64).toBitVec.toNat = 72340172838076673 := by decide +kernel
  have hS : b0 + b1 + b2 + b3 + b4 + b5 + b6 + b7 < 256 := by clear e hc h; omega
  rw [e, own_ushr _ 56 (k := 56) (by decide) (by decide), own_N_mul, h, hc, own_key]
  rw [show (18446744073709551616 : Nat) = 2 ^ 64 from rfl, show (72057594037927936 : Nat) = 2 ^ 56 from rfl, own_q56 _ _ _ hS (own_kL b0 b1 b2 b3 b4 b5 b6 b7 h0 h1 h2 h3 h4 h5 h6 h7)]
  exact Nat.mod_eq_of_lt (Nat.lt_trans hS (by decide))
theorem own_jw (y : Int64) (b0 b1 b2 b3 b4 b5 b6 b7 : Nat) (h0 : b0 ≤ 8) (h1 : b1 ≤ 8) (h2 : b2 ≤ 8) (h3 : b3 ≤ 8) (h4 : b4 ≤ 8) (h5 : b5 ≤ 8) (h6 : b6 ≤ 8) (h7 : b7 ≤ 8) (h : y.toBitVec.toNat = 256 * (256 * (256 * (256 * (256 * (256 * (256 * b7 + b6) + b5) + b4) + b3) + b2) + b1) + b0) :
    ((y |> fun y => (y + own_ushrL y 8) |> fun y => (y + own_ushrL y 16) |> fun y => (y + own_ushrL y 32)).toInt32 &&& 127).toBitVec.toNat = b0 + b1 + b2 + b3 + b4 + b5 + b6 + b7 := by
  simp only []
  have e4 : (y + own_ushrL y 8).toBitVec.toNat = 256 * (256 * (256 * (256 * (256 * (256 * (256 * b7 + (b6 + b7)) + (b5 + b6)) + (b4 + b5)) + (b3 + b4)) + (b2 + b3)) + (b1 + b2)) + (b0 + b1) := by
    rw [own_N_add, own_ushr _ 8 (k := 8) (by decide) (by decide), h, own_q8 _ _ (Nat.lt_of_le_of_lt h0 (by decide)), own_k4 b0 b1 b2 b3 b4 b5 b6 b7 h0 h1 h2 h3 h4 h5 h6 h7]
    exact Nat.mod_eq_of_lt (own_k4b b0 b1 b2 b3 b4 b5 b6 b7 h0 h1 h2 h3 h4 h5 h6 h7)
  generalize y + own_ushrL y 8 = y4 at *
  have e5 : (y4 + own_ushrL y4 16).toBitVec.toNat = 256 * (256 * (256 * (256 * (256 * (256 * (256 * b7 + (b6 + b7)) + (b5 + b6 + b7)) + (b4 + b5 + b6 + b7)) + (b3 + b4 + b5 + b6)) + (b2 + b3 + b4 + b5)) + (b1 + b2 + b3 + b4)) + (b0 + b1 + b2 + b3) := by
    rw [own_N_add, own_ushr _ 16 (k := 16) (by decide) (by decide), e4, own_q16 _ _ _ (by clear e4 h; omega) (by clear e4 h; omega), own_k5 b0 b1 b2 b3 b4 b5 b6 b7 h0 h1 h2 h3 h4 h5 h6 h7]
    exact Nat.mod_eq_of_lt (own_k5b b0 b1 b2 b3 b4 b5 b6 b7 h0 h1 h2 h3 h4 h5 h6 h7)
  generalize y4 + own_ushrL y4 16 = y5 at *
  have e6 : (y5 + own_ushrL y5 32).toBitVec.toNat % 128 = b0 + b1 + b2 + b3 + b4 + b5 + b6 + b7 := by
    rw [own_N_add, own_ushr _ 32 (k := 32) (by decide) (by decide), e5, own_q32 _ _ _ _ _ (by clear e4 e5 h; omega) (by clear e4 e5 h; omega) (by clear e4 e5 h; omega) (by clear e4 e5 h; omega), own_q7 _ _ _ _ (by clear e4 e5 h; omega)]
    clear e4 e5 h; omega
  generalize y5 + own_ushrL y5 32 = y6 at *
  have e : (y6.toInt32 &&& 127).toBitVec.toNat = (y6.toBitVec.toNat % 2 ^ 32) &&& 127 := by rw [Int32.toBitVec_and, BitVec.toNat_and, own_N32]; rfl
  rw [e, show (127 : Nat) = 2 ^ 7 - 1 from rfl, Nat.and_two_pow_sub_one_eq_mod, ← e6]
  clear e e4 e5 e6 h
  simp only [Nat.reducePow]
  generalize y6.toBitVec.toNat = w
  omega
theorem own_pop (x : Int64) : own_j x = own_l x ∧ 0 ≤ (own_l x).toInt ∧ (own_l x).toInt ≤ 64 := by
  have h3 := own_N3 x
  obtain ⟨b0, b1, b2, b3, b4, b5, b6, b7, h0, h1, h2, h3', h4, h5, h6, h7, hd⟩ := own_digits x.toBitVec.toNat
  rw [hd] at h3
  have hl : (own_l x).toBitVec.toNat = b0 + b1 + b2 + b3 + b4 + b5 + b6 + b7 := own_lw _ b0 b1 b2 b3 b4 b5 b6 b7 h0 h1 h2 h3' h4 h5 h6 h7 h3
  have hj : (own_j x).toBitVec.toNat = b0 + b1 + b2 + b3 + b4 + b5 + b6 + b7 := own_jw _ b0 b1 b2 b3 b4 b5 b6 b7 h0 h1 h2 h3' h4 h5 h6 h7 h3
  have hS : b0 + b1 + b2 + b3 + b4 + b5 + b6 + b7 ≤ 64 := by clear hl hj h3 hd; omega
  have hs := own_small (own_l x) _ hl (Nat.lt_of_le_of_lt hS (by decide))
  refine ⟨?_, by rw [hs]; exact Int.natCast_nonneg _, by rw [hs]; exact Int.ofNat_le.mpr hS⟩
  apply Int32.toBitVec_inj.mp
  apply BitVec.eq_of_toNat_eq
  rw [hj, hl]
theorem d2_0 : decode jdk_30_method_1_code 0 = .ok (.aload_n 0, 1) := by decide +kernel
theorem d2_1 : decode jdk_30_method_1_code 1 = .ok (.invokespecial 1, 3) := by decide +kernel
theorem d2_4 : decode jdk_30_method_1_code 4 = .ok (.return_, 1) := by decide +kernel
theorem pn_2 : plainName "java/lang/Record" = true := by first | (simp [plainName, overriddenIn]; done) | decide +kernel
theorem ef_2 (m : MethodId) (x0 : Addr) : entryFrame m #[(.ref x0)] 1 = mkF m 0 #[.val (.ref x0)] [] := by first | (simp [entryFrame, mkF, argsToLocals, Value.category]; done) | rfl
def Q2 (Z : State) (a1 : Addr) (h0 : Heap) (n0 : Nat) (v : Option Value) (h : Heap) (L : List Loc) : Prop := v = none ∧ Fr n0 L ∧ h = h0
set_option maxRecDepth 65536 in
set_option maxHeartbeats 40000000 in
theorem rm2 (l : Launch) (Z : State) (a0 : Array Value) (hw : ∀ d ∈ tables_1, d.before a0 Z = true) (ws : List Jvm.Cond) (a1 : Addr) (h0 : Heap) (n0 : Nat) (Z0 : n0 ≤ h0.size) :
    MetFree l (⟨"java/lang/Record", "<init>", "()V"⟩ : MethodName) (head1 (Jvm.Cond.code (⟨"java/lang/Record", "<init>", "()V"⟩ : MethodName) jdk_30_method_1_code 1 none :: ws) ({ frames := 1, cells := 0, slots := 0, locals := 12 } : Room)) (fun a U => a = #[(.ref a1)] ∧ Z.Warmed39 U.vm ∧ U.heap = h0) (fun _ _ _ _ _ => True) (fun _ U o U' => ∃ v L, o = .returned v ∧ Q2 Z a1 h0 n0 v U'.heap L ∧ FrameEnd U o U' L ({ frames := 1, cells := 0, slots := 0, locals := 12 } : Room).cells ({ frames := 1, cells := 0, slots := 0, locals := 12 } : Room).slots) := by
  refine MetFree.of_bodySF (plainFor_of_name pn_2) hisR ?_
  intro p e s m args below meth c s₁ Bd hml0 hP hK
  obtain ⟨rfl, hZ, hh⟩ := hP
  have hx := Bd.exec
  have hby := Bd.bytes
  have hml : c.maxLocals = 1 := hml0
  have hown : s.vm.findClass "java/lang/Record" = some m.cls := findClass_of_methodNamed Bd.named
  have hnm := (name_of_methodNamed Bd.named Bd.method).1
  have X0 : Stand p l e ({ frames := 1, cells := 0, slots := 0, locals := 12 } : Room) s m #[(.ref a1)] below meth c s₁ [] 0 0 := Stand.of_body Bd
  have e0 : s₁.heap = h0 := by rw [← hh, Bd.state]; rfl
  have N0 := Fr.nil n0
  have pre0 : ∀ t, Steps p.tables e below (s₁.setTop (mkF m 0 #[.val (.ref a1)] [])) t → Steps p.tables e below (s₁.setTop (entryFrame m #[(.ref a1)] 1)) t := fun t k => castTop (ef_2 m a1) k
  obtain ⟨T2, X2, e2, st2⟩ := initO X0 hx hZ hown (hw _ (List.mem_of_getElem? (i := 11) rfl)) (hw _ (List.mem_of_getElem? (i := 12) rfl)) (hw _ (List.mem_of_getElem? (i := 13) rfl)) e0 (g := (mkF m 1 #[.val (.ref a1)] [(.ref a1)])) rfl (by rw [hml]; rfl) rfl (hb hby d2_1) (by decide) (W := 0) (by show 2 * 0 + _ ≤ _; exact Nat.le_of_eq rfl) (by decide)
  obtain ⟨fs, hr, hrun, hended, hW, hsame⟩ := X2.leave (v := none) (fun _ => rfl)
  refine ⟨_, _, pre0 _ ?_, hrun, hended, _, _, rfl, ?_, ⟨_, rfl⟩, hW, hsame.mono (by decide) (by decide)⟩
  · show Steps p.tables e below (s₁.setTop (mkF m 0 #[.val (.ref a1)] [])) _
    refine XS.aloadN X0.here hx rfl (hb hby d2_0) rfl rfl ?_
    show Steps p.tables e below (s₁.setTop (mkF m 1 #[.val (.ref a1)] [(.ref a1)])) _
    refine st2 _ ?_
    show Steps p.tables e below (T2.setTop (mkF m 4 #[.val (.ref a1)] [])) _
    exact X2.returnOut hx Bd.returns (hb hby d2_4) hr
  · show Q2 Z a1 h0 n0 _ T2.heap _
    rw [e2]
    exact ⟨rfl, N0, rfl⟩
theorem d1_0 : decode prog_7_method_1_code 0 = .ok (.aload_n 0, 1) := by decide +kernel
theorem d1_1 : decode prog_7_method_1_code 1 = .ok (.invokespecial 3, 3) := by decide +kernel
theorem d1_4 : decode prog_7_method_1_code 4 = .ok (.aload_n 0, 1) := by decide +kernel
theorem d1_5 : decode prog_7_method_1_code 5 = .ok (.lload_n 1, 1) := by decide +kernel
theorem d1_6 : decode prog_7_method_1_code 6 = .ok (.putfield 9, 3) := by decide +kernel
theorem d1_9 : decode prog_7_method_1_code 9 = .ok (.return_, 1) := by decide +kernel
theorem pn_1 : plainName "com/example/weighted_fingerprint/weightedfingerprint/Fingerprint" = true := by first | (simp [plainName, overriddenIn]; done) | decide +kernel
theorem pd_1_1 : parseMethodDescriptor "()V" = some ⟨[], none⟩ := by decide +kernel
theorem ef_1 (m : MethodId) (x0 : Addr) (x1 : Int64) : entryFrame m #[(.ref x0), (.long x1)] 3 = mkF m 0 #[.val (.ref x0), .val (.long x1), .second] [] := by first | (simp [entryFrame, mkF, argsToLocals, Value.category]; done) | rfl
def Q1 (Z : State) (a1 : Addr) (q2 : Int64) (u_bits_a1 : Value) (h0 : Heap) (n0 : Nat) (v : Option Value) (h : Heap) (L : List Loc) : Prop := v = none ∧ Fr n0 L ∧ Keep h0 h [a1] ∧ Exa Z h a1 "com/example/weighted_fingerprint/weightedfingerprint/Fingerprint" ∧ Fld Z h a1 "com/example/weighted_fingerprint/weightedfingerprint/Fingerprint" "bits" "J" (.long q2)
set_option maxRecDepth 65536 in
set_option maxHeartbeats 40000000 in
theorem rm1 (l : Launch) (Z : State) (a0 : Array Value) (hw : ∀ d ∈ tables_1, d.before a0 Z = true) (ws : List Jvm.Cond) (a1 : Addr) (q2 : Int64) (u_bits_a1 : Value) (h0 : Heap) (n0 : Nat) (Z0 : n0 ≤ h0.size) (E_a1 : Exa Z h0 a1 "com/example/weighted_fingerprint/weightedfingerprint/Fingerprint") (F_bits_a1 : Fld Z h0 a1 "com/example/weighted_fingerprint/weightedfingerprint/Fingerprint" "bits" "J" u_bits_a1) (g_a1 : n0 ≤ a1) :
    MetFree l (⟨"com/example/weighted_fingerprint/weightedfingerprint/Fingerprint", "<init>", "(J)V"⟩ : MethodName) (head1 (Jvm.Cond.code (⟨"com/example/weighted_fingerprint/weightedfingerprint/Fingerprint", "<init>", "(J)V"⟩ : MethodName) prog_7_method_1_code 3 none :: ws) ({ frames := 2, cells := 0, slots := 0, locals := 24 } : Room)) (fun a U => a = #[(.ref a1), (.long q2)] ∧ Z.Warmed39 U.vm ∧ U.heap = h0) (fun _ _ _ _ _ => True) (fun _ U o U' => ∃ v L, o = .returned v ∧ Q1 Z a1 q2 u_bits_a1 h0 n0 v U'.heap L ∧ FrameEnd U o U' L ({ frames := 2, cells := 0, slots := 0, locals := 24 } : Room).cells ({ frames := 2, cells := 0, slots := 0, locals := 24 } : Room).slots) := by
  refine MetFree.of_bodySF (plainFor_of_name pn_1) hisR ?_
  intro p e s m args below meth c s₁ Bd hml0 hP hK
  obtain ⟨rfl, hZ, hh⟩ := hP
  have hx := Bd.exec
  have hby := Bd.bytes
  have hml : c.maxLocals = 3 := hml0
  have hown : s.vm.findClass "com/example/weighted_fingerprint/weightedfingerprint/Fingerprint" = some m.cls := findClass_of_methodNamed Bd.named
  have hnm := (name_of_methodNamed Bd.named Bd.method).1
  have X0 : Stand p l e ({ frames := 2, cells := 0, slots := 0, locals := 24 } : Room) s m #[(.ref a1), (.long q2)] below meth c s₁ [] 0 0 := Stand.of_body Bd
  have e0 : s₁.heap = h0 := by rw [← hh, Bd.state]; rfl
  have N0 := Fr.nil n0
  have pre0 : ∀ t, Steps p.tables e below (s₁.setTop (mkF m 0 #[.val (.ref a1), .val (.long q2), .second] [])) t → Steps p.tables e below (s₁.setTop (entryFrame m #[(.ref a1), (.long q2)] 3)) t := fun t k => castTop (ef_1 m a1 q2) k
  obtain ⟨_, _, ⟨T3, L3, k3, n3⟩, -, X3, ⟨Lc3, hQ3, l3, y3, z3⟩, st3⟩ := X0.specialBack hx (y := (⟨"java/lang/Record", "<init>", "()V"⟩ : MethodName)) rfl hown (mvT hZ (hw _ (List.mem_of_getElem? (i := 6) rfl))) (mvT hZ (hw _ (List.mem_of_getElem? (i := 7) rfl))) (mvT hZ (hw _ (List.mem_of_getElem? (i := 10) rfl))) (by decide) (backOf (W := 0) (rm2 l Z a0 hw [] a1 h0 n0 Z0) hZ (hw _ (List.mem_of_getElem? (i := 10) rfl)) (hw _ (List.mem_of_getElem? (i := 9) rfl)) (by decide) (by decide)) (g := (mkF m 1 #[.val (.ref a1), .val (.long q2), .second] [(.ref a1)])) rfl (by rw [hml]; rfl) (Steps.refl _) (a := a1) (argsL := []) (rest := []) (lenOf pd_1_1 rfl) rfl (by show 2 * 0 + _ ≤ _; exact Nat.le_of_eq rfl) (hb hby d1_1) (fun _ _ => ⟨rfl, e0, (by decide : 0 + 0 ≤ _), (by decide : 0 + 0 ≤ _)⟩)
  dsimp only [Pt.U, Pt.locs, Pt.cells, Pt.slots] at X3 l3 y3 z3 st3 hQ3
  subst l3 y3 z3
  obtain ⟨rfl, N3q, e3q⟩ := hQ3
  have N3 := Fr.app N0 N3q
  obtain ⟨T4, h4, X4, e4, W4, st4⟩ := putF X3 hx hZ hown (host := "") (Or.inl (hw _ (List.mem_of_getElem? (i := 14) rfl))) Via.refl e3q F_bits_a1 E_a1 (Or.inr ⟨(hw _ (List.mem_of_getElem? (i := 15) rfl)), rfl, hnm⟩) (hw _ (List.mem_of_getElem? (i := 1) rfl)) (ty := .long) (by decide) rfl rfl (g := (mkF m 6 #[.val (.ref a1), .val (.long q2), .second] [(.long q2), (.ref a1)])) rfl rfl (hb hby d1_6)
  have Fw4 := F_bits_a1.same W4
  have K4 : Keep h0 h4 [a1] := (Keep.refl _ _).wr W4 (Or.inl (List.mem_of_getElem? (i := 0) rfl))
  have N4 := Fr.snoc X4 N3 g_a1
  obtain ⟨fs, hr, hrun, hended, hW, hsame⟩ := X4.leave (v := none) (fun _ => rfl)
  refine ⟨_, _, pre0 _ ?_, hrun, hended, _, _, rfl, ?_, ⟨_, rfl⟩, hW, hsame.mono (by decide) (by decide)⟩
  · show Steps p.tables e below (s₁.setTop (mkF m 0 #[.val (.ref a1), .val (.long q2), .second] [])) _
    refine XS.aloadN X0.here hx rfl (hb hby d1_0) rfl rfl ?_
    show Steps p.tables e below (s₁.setTop (mkF m 1 #[.val (.ref a1), .val (.long q2), .second] [(.ref a1)])) _
    refine st3.trans ?_
    show Steps p.tables e below (T3.setTop (mkF m 4 #[.val (.ref a1), .val (.long q2), .second] [])) _
    refine XS.aloadN X3.here hx rfl (hb hby d1_4) rfl rfl ?_
    show Steps p.tables e below (T3.setTop (mkF m 5 #[.val (.ref a1), .val (.long q2), .second] [(.ref a1)])) _
    refine XS.lloadN X3.here hx rfl (hb hby d1_5) rfl ?_
    show Steps p.tables e below (T3.setTop (mkF m 6 #[.val (.ref a1), .val (.long q2), .second] [(.long q2), (.ref a1)])) _
    refine st4 _ ?_
    show Steps p.tables e below (T4.setTop (mkF m 9 #[.val (.ref a1), .val (.long q2), .second] [])) _
    exact X4.returnOut hx Bd.returns (hb hby d1_9) hr
  · show Q1 Z a1 q2 u_bits_a1 h0 n0 _ T4.heap _
    rw [e4]
    exact ⟨rfl, N4, K4, E_a1.wr W4, Fw4⟩
theorem d6_0 : decode jdk_35_method_50_code 0 = .ok (.lload_n 0, 1) := by decide +kernel
theorem d6_1 : decode jdk_35_method_50_code 1 = .ok (.lload_n 0, 1) := by decide +kernel
theorem d6_2 : decode jdk_35_method_50_code 2 = .ok (.iconst 1, 1) := by decide +kernel
theorem d6_3 : decode jdk_35_method_50_code 3 = .ok (.lushr, 1) := by decide +kernel
theorem d6_4 : decode jdk_35_method_50_code 4 = .ok (.ldc2_w 314, 3) := by decide +kernel
theorem d6_7 : decode jdk_35_method_50_code 7 = .ok (.land, 1) := by decide +kernel
theorem d6_8 : decode jdk_35_method_50_code 8 = .ok (.lsub, 1) := by decide +kernel
theorem d6_9 : decode jdk_35_method_50_code 9 = .ok (.lstore_n 0, 1) := by decide +kernel
theorem d6_10 : decode jdk_35_method_50_code 10 = .ok (.lload_n 0, 1) := by decide +kernel
theorem d6_11 : decode jdk_35_method_50_code 11 = .ok (.ldc2_w 316, 3) := by decide +kernel
theorem d6_14 : decode jdk_35_method_50_code 14 = .ok (.land, 1) := by decide +kernel
theorem d6_15 : decode jdk_35_method_50_code 15 = .ok (.lload_n 0, 1) := by decide +kernel
theorem d6_16 : decode jdk_35_method_50_code 16 = .ok (.iconst 2, 1) := by decide +kernel
theorem d6_17 : decode jdk_35_method_50_code 17 = .ok (.lushr, 1) := by decide +kernel
theorem d6_18 : decode jdk_35_method_50_code 18 = .ok (.ldc2_w 316, 3) := by decide +kernel
theorem d6_21 : decode jdk_35_method_50_code 21 = .ok (.land, 1) := by decide +kernel
theorem d6_22 : decode jdk_35_method_50_code 22 = .ok (.ladd, 1) := by decide +kernel
theorem d6_23 : decode jdk_35_method_50_code 23 = .ok (.lstore_n 0, 1) := by decide +kernel
theorem d6_24 : decode jdk_35_method_50_code 24 = .ok (.lload_n 0, 1) := by decide +kernel
theorem d6_25 : decode jdk_35_method_50_code 25 = .ok (.lload_n 0, 1) := by decide +kernel
theorem d6_26 : decode jdk_35_method_50_code 26 = .ok (.iconst 4, 1) := by decide +kernel
theorem d6_27 : decode jdk_35_method_50_code 27 = .ok (.lushr, 1) := by decide +kernel
theorem d6_28 : decode jdk_35_method_50_code 28 = .ok (.ladd, 1) := by decide +kernel
theorem d6_29 : decode jdk_35_method_50_code 29 = .ok (.ldc2_w 318, 3) := by decide +kernel
theorem d6_32 : decode jdk_35_method_50_code 32 = .ok (.land, 1) := by decide +kernel
theorem d6_33 : decode jdk_35_method_50_code 33 = .ok (.lstore_n 0, 1) := by decide +kernel
theorem d6_34 : decode jdk_35_method_50_code 34 = .ok (.lload_n 0, 1) := by decide +kernel
theorem d6_35 : decode jdk_35_method_50_code 35 = .ok (.lload_n 0, 1) := by decide +kernel
theorem d6_36 : decode jdk_35_method_50_code 36 = .ok (.bipush 8, 2) := by decide +kernel
theorem d6_38 : decode jdk_35_method_50_code 38 = .ok (.lushr, 1) := by decide +kernel
theorem d6_39 : decode jdk_35_method_50_code 39 = .ok (.ladd, 1) := by decide +kernel
theorem d6_40 : decode jdk_35_method_50_code 40 = .ok (.lstore_n 0, 1) := by decide +kernel
theorem d6_41 : decode jdk_35_method_50_code 41 = .ok (.lload_n 0, 1) := by decide +kernel
theorem d6_42 : decode jdk_35_method_50_code 42 = .ok (.lload_n 0, 1) := by decide +kernel
theorem d6_43 : decode jdk_35_method_50_code 43 = .ok (.bipush 16, 2) := by decide +kernel
theorem d6_45 : decode jdk_35_method_50_code 45 = .ok (.lushr, 1) := by decide +kernel
theorem d6_46 : decode jdk_35_method_50_code 46 = .ok (.ladd, 1) := by decide +kernel
theorem d6_47 : decode jdk_35_method_50_code 47 = .ok (.lstore_n 0, 1) := by decide +kernel
theorem d6_48 : decode jdk_35_method_50_code 48 = .ok (.lload_n 0, 1) := by decide +kernel
theorem d6_49 : decode jdk_35_method_50_code 49 = .ok (.lload_n 0, 1) := by decide +kernel
theorem d6_50 : decode jdk_35_method_50_code 50 = .ok (.bipush 32, 2) := by decide +kernel
theorem d6_52 : decode jdk_35_method_50_code 52 = .ok (.lushr, 1) := by decide +kernel
theorem d6_53 : decode jdk_35_method_50_code 53 = .ok (.ladd, 1) := by decide +kernel
theorem d6_54 : decode jdk_35_method_50_code 54 = .ok (.lstore_n 0, 1) := by decide +kernel
theorem d6_55 : decode jdk_35_method_50_code 55 = .ok (.lload_n 0, 1) := by decide +kernel
theorem d6_56 : decode jdk_35_method_50_code 56 = .ok (.l2i, 1) := by decide +kernel
theorem d6_57 : decode jdk_35_method_50_code 57 = .ok (.bipush 127, 2) := by decide +kernel
theorem d6_59 : decode jdk_35_method_50_code 59 = .ok (.iand, 1) := by decide +kernel
theorem d6_60 : decode jdk_35_method_50_code 60 = .ok (.ireturn, 1) := by decide +kernel
theorem pn_6 : plainName "java/lang/Long" = true := by first | (simp [plainName, overriddenIn]; done) | decide +kernel
theorem ef_6 (m : MethodId) (x0 : Int64) : entryFrame m #[(.long x0)] 2 = mkF m 0 #[.val (.long x0), .second] [] := by first | (simp [entryFrame, mkF, argsToLocals, Value.category]; done) | rfl
def Q6 (Z : State) (q1 : Int64) (h0 : Heap) (n0 : Nat) (v : Option Value) (h : Heap) (L : List Loc) : Prop := v = some (.int (own_j q1)) ∧ Fr n0 L ∧ h = h0
set_option maxRecDepth 65536 in
set_option maxHeartbeats 40000000 in
theorem rm6 (l : Launch) (Z : State) (a0 : Array Value) (hw : ∀ d ∈ tables_1, d.before a0 Z = true) (ws : List Jvm.Cond) (q1 : Int64) (h0 : Heap) (n0 : Nat) (Z0 : n0 ≤ h0.size) :
    MetFree l (⟨"java/lang/Long", "bitCount", "(J)I"⟩ : MethodName) (head1 (Jvm.Cond.code (⟨"java/lang/Long", "bitCount", "(J)I"⟩ : MethodName) jdk_35_method_50_code 2 (some .int) :: ws) ({ frames := 0, cells := 0, slots := 0, locals := 0 } : Room)) (fun a U => a = #[(.long q1)] ∧ Z.Warmed39 U.vm ∧ U.heap = h0) (fun _ _ _ _ _ => True) (fun _ U o U' => ∃ v L, o = .returned v ∧ Q6 Z q1 h0 n0 v U'.heap L ∧ FrameEnd U o U' L (({ frames := 0, cells := 0, slots := 0, locals := 0 } : Room)).cells (({ frames := 0, cells := 0, slots := 0, locals := 0 } : Room)).slots) := by
  refine MetFree.of_bodySF (plainFor_of_name pn_6) hisR ?_
  intro p e s m args below meth c s₁ Bd hml0 hP hK
  obtain ⟨rfl, hZ, hh⟩ := hP
  have hx := Bd.exec
  have hby := Bd.bytes
  have hml : c.maxLocals = 2 := hml0
  have hown : s.vm.findClass "java/lang/Long" = some m.cls := findClass_of_methodNamed Bd.named
  have hnm := (name_of_methodNamed Bd.named Bd.method).1
  have X0 : Stand p l e ({ frames := 0, cells := 0, slots := 0, locals := 0 } : Room) s m #[(.long q1)] below meth c s₁ [] 0 0 := Stand.of_body Bd
  have e0 : s₁.heap = h0 := by rw [← hh, Bd.state]; rfl
  have N0 := Fr.nil n0
  have pre0 : ∀ t, Steps p.tables e below (s₁.setTop (mkF m 0 #[.val (.long q1), .second] [])) t → Steps p.tables e below (s₁.setTop (entryFrame m #[(.long q1)] 2)) t := fun t k => castTop (ef_6 m q1) k
  obtain ⟨fs, hr, hrun, hended, hW, hsame⟩ := X0.leave (v := some (.int (own_j q1))) (fun h => by rw [Bd.returns] at h; cases h)
  refine ⟨_, _, pre0 _ ?_, hrun, hended, _, _, rfl, ?_, ⟨_, rfl⟩, hW, hsame.mono (by decide) (by decide)⟩
  · show Steps p.tables e below (s₁.setTop (mkF m 0 #[.val (.long q1), .second] [])) _
    refine XS.lloadN X0.here hx rfl (hb hby d6_0) rfl ?_
    show Steps p.tables e below (s₁.setTop (mkF m 1 #[.val (.long q1), .second] [(.long q1)])) _
    refine XS.lloadN X0.here hx rfl (hb hby d6_1) rfl ?_
    show Steps p.tables e below (s₁.setTop (mkF m 2 #[.val (.long q1), .second] [(.long q1), (.long q1)])) _
    refine XS.iconst X0.here hx rfl (hb hby d6_2) ?_
    show Steps p.tables e below (s₁.setTop (mkF m 3 #[.val (.long q1), .second] [(.int (1 : Int32)), (.long q1), (.long q1)])) _
    refine XS.lushr X0.here hx rfl (hb hby d6_3) rfl ?_
    show Steps p.tables e below (s₁.setTop (mkF m 4 #[.val (.long q1), .second] [(.long (own_ushrL q1 (1 : Int32))), (.long q1)])) _
    refine X0.ldc2J hx hown (mvT hZ (hw _ (List.mem_of_getElem? (i := 28) rfl))) rfl (hb hby d6_4) ?_
    show Steps p.tables e below (s₁.setTop (mkF m 7 #[.val (.long q1), .second] [(.long (6148914691236517205 : Int64)), (.long (own_ushrL q1 (1 : Int32))), (.long q1)])) _
    refine XS.land X0.here hx rfl (hb hby d6_7) rfl ?_
    show Steps p.tables e below (s₁.setTop (mkF m 8 #[.val (.long q1), .second] [(.long ((own_ushrL q1 (1 : Int32)) &&& (6148914691236517205 : Int64))), (.long q1)])) _
    refine XS.lsub X0.here hx rfl (hb hby d6_8) rfl ?_
    show Steps p.tables e below (s₁.setTop (mkF m 9 #[.val (.long q1), .second] [(.long (q1 - ((own_ushrL q1 (1 : Int32)) &&& (6148914691236517205 : Int64))))])) _
    refine XS.lstoreN X0.here hx rfl (hb hby d6_9) rfl (l' := #[.val (.long (own_i1 q1)), .second]) rfl ?_
    show Steps p.tables e below (s₁.setTop (mkF m 10 #[.val (.long (own_i1 q1)), .second] [])) _
    refine XS.lloadN X0.here hx rfl (hb hby d6_10) rfl ?_
    show Steps p.tables e below (s₁.setTop (mkF m 11 #[.val (.long (own_i1 q1)), .second] [(.long (own_i1 q1))])) _
    refine X0.ldc2J hx hown (mvT hZ (hw _ (List.mem_of_getElem? (i := 29) rfl))) rfl (hb hby d6_11) ?_
    show Steps p.tables e below (s₁.setTop (mkF m 14 #[.val (.long (own_i1 q1)), .second] [(.long (3689348814741910323 : Int64)), (.long (own_i1 q1))])) _
    refine XS.land X0.here hx rfl (hb hby d6_14) rfl ?_
    show Steps p.tables e below (s₁.setTop (mkF m 15 #[.val (.long (own_i1 q1)), .second] [(.long ((own_i1 q1) &&& (3689348814741910323 : Int64)))])) _
    refine XS.lloadN X0.here hx rfl (hb hby d6_15) rfl ?_
    show Steps p.tables e below (s₁.setTop (mkF m 16 #[.val (.long (own_i1 q1)), .second] [(.long (own_i1 q1)), (.long ((own_i1 q1) &&& (3689348814741910323 : Int64)))])) _
    refine XS.iconst X0.here hx rfl (hb hby d6_16) ?_
    show Steps p.tables e below (s₁.setTop (mkF m 17 #[.val (.long (own_i1 q1)), .second] [(.int (2 : Int32)), (.long (own_i1 q1)), (.long ((own_i1 q1) &&& (3689348814741910323 : Int64)))])) _
    refine XS.lushr X0.here hx rfl (hb hby d6_17) rfl ?_
    show Steps p.tables e below (s₁.setTop (mkF m 18 #[.val (.long (own_i1 q1)), .second] [(.long (own_ushrL (own_i1 q1) (2 : Int32))), (.long ((own_i1 q1) &&& (3689348814741910323 : Int64)))])) _
    refine X0.ldc2J hx hown (mvT hZ (hw _ (List.mem_of_getElem? (i := 29) rfl))) rfl (hb hby d6_18) ?_
    show Steps p.tables e below (s₁.setTop (mkF m 21 #[.val (.long (own_i1 q1)), .second] [(.long (3689348814741910323 : Int64)), (.long (own_ushrL (own_i1 q1) (2 : Int32))), (.long ((own_i1 q1) &&& (3689348814741910323 : Int64)))])) _
    refine XS.land X0.here hx rfl (hb hby d6_21) rfl ?_
    show Steps p.tables e below (s₁.setTop (mkF m 22 #[.val (.long (own_i1 q1)), .second] [(.long ((own_ushrL (own_i1 q1) (2 : Int32)) &&& (3689348814741910323 : Int64))), (.long ((own_i1 q1) &&& (3689348814741910323 : Int64)))])) _
    refine XS.ladd X0.here hx rfl (hb hby d6_22) rfl ?_
    show Steps p.tables e below (s₁.setTop (mkF m 23 #[.val (.long (own_i1 q1)), .second] [(.long (((own_i1 q1) &&& (3689348814741910323 : Int64)) + ((own_ushrL (own_i1 q1) (2 : Int32)) &&& (3689348814741910323 : Int64))))])) _
    refine XS.lstoreN X0.here hx rfl (hb hby d6_23) rfl (l' := #[.val (.long (own_i2 (own_i1 q1))), .second]) rfl ?_
    show Steps p.tables e below (s₁.setTop (mkF m 24 #[.val (.long (own_i2 (own_i1 q1))), .second] [])) _
    refine XS.lloadN X0.here hx rfl (hb hby d6_24) rfl ?_
    show Steps p.tables e below (s₁.setTop (mkF m 25 #[.val (.long (own_i2 (own_i1 q1))), .second] [(.long (own_i2 (own_i1 q1)))])) _
    refine XS.lloadN X0.here hx rfl (hb hby d6_25) rfl ?_
    show Steps p.tables e below (s₁.setTop (mkF m 26 #[.val (.long (own_i2 (own_i1 q1))), .second] [(.long (own_i2 (own_i1 q1))), (.long (own_i2 (own_i1 q1)))])) _
    refine XS.iconst X0.here hx rfl (hb hby d6_26) ?_
    show Steps p.tables e below (s₁.setTop (mkF m 27 #[.val (.long (own_i2 (own_i1 q1))), .second] [(.int (4 : Int32)), (.long (own_i2 (own_i1 q1))), (.long (own_i2 (own_i1 q1)))])) _
    refine XS.lushr X0.here hx rfl (hb hby d6_27) rfl ?_
    show Steps p.tables e below (s₁.setTop (mkF m 28 #[.val (.long (own_i2 (own_i1 q1))), .second] [(.long (own_ushrL (own_i2 (own_i1 q1)) (4 : Int32))), (.long (own_i2 (own_i1 q1)))])) _
    refine XS.ladd X0.here hx rfl (hb hby d6_28) rfl ?_
    show Steps p.tables e below (s₁.setTop (mkF m 29 #[.val (.long (own_i2 (own_i1 q1))), .second] [(.long ((own_i2 (own_i1 q1)) + (own_ushrL (own_i2 (own_i1 q1)) (4 : Int32))))])) _
    refine X0.ldc2J hx hown (mvT hZ (hw _ (List.mem_of_getElem? (i := 30) rfl))) rfl (hb hby d6_29) ?_
    show Steps p.tables e below (s₁.setTop (mkF m 32 #[.val (.long (own_i2 (own_i1 q1))), .second] [(.long (1085102592571150095 : Int64)), (.long ((own_i2 (own_i1 q1)) + (own_ushrL (own_i2 (own_i1 q1)) (4 : Int32))))])) _
    refine XS.land X0.here hx rfl (hb hby d6_32) rfl ?_
    show Steps p.tables e below (s₁.setTop (mkF m 33 #[.val (.long (own_i2 (own_i1 q1))), .second] [(.long (((own_i2 (own_i1 q1)) + (own_ushrL (own_i2 (own_i1 q1)) (4 : Int32))) &&& (1085102592571150095 : Int64)))])) _
    refine XS.lstoreN X0.here hx rfl (hb hby d6_33) rfl (l' := #[.val (.long (own_i3 (own_i2 (own_i1 q1)))), .second]) rfl ?_
    show Steps p.tables e below (s₁.setTop (mkF m 34 #[.val (.long (own_i3 (own_i2 (own_i1 q1)))), .second] [])) _
    refine XS.lloadN X0.here hx rfl (hb hby d6_34) rfl ?_
    show Steps p.tables e below (s₁.setTop (mkF m 35 #[.val (.long (own_i3 (own_i2 (own_i1 q1)))), .second] [(.long (own_i3 (own_i2 (own_i1 q1))))])) _
    refine XS.lloadN X0.here hx rfl (hb hby d6_35) rfl ?_
    show Steps p.tables e below (s₁.setTop (mkF m 36 #[.val (.long (own_i3 (own_i2 (own_i1 q1)))), .second] [(.long (own_i3 (own_i2 (own_i1 q1)))), (.long (own_i3 (own_i2 (own_i1 q1))))])) _
    refine XS.bipush X0.here hx rfl (hb hby d6_36) ?_
    show Steps p.tables e below (s₁.setTop (mkF m 38 #[.val (.long (own_i3 (own_i2 (own_i1 q1)))), .second] [(.int (8 : Int32)), (.long (own_i3 (own_i2 (own_i1 q1)))), (.long (own_i3 (own_i2 (own_i1 q1))))])) _
    refine XS.lushr X0.here hx rfl (hb hby d6_38) rfl ?_
    show Steps p.tables e below (s₁.setTop (mkF m 39 #[.val (.long (own_i3 (own_i2 (own_i1 q1)))), .second] [(.long (own_ushrL (own_i3 (own_i2 (own_i1 q1))) (8 : Int32))), (.long (own_i3 (own_i2 (own_i1 q1))))])) _
    refine XS.ladd X0.here hx rfl (hb hby d6_39) rfl ?_
    show Steps p.tables e below (s₁.setTop (mkF m 40 #[.val (.long (own_i3 (own_i2 (own_i1 q1)))), .second] [(.long ((own_i3 (own_i2 (own_i1 q1))) + (own_ushrL (own_i3 (own_i2 (own_i1 q1))) (8 : Int32))))])) _
    refine XS.lstoreN X0.here hx rfl (hb hby d6_40) rfl (l' := #[.val (.long (own_h 8 (own_i3 (own_i2 (own_i1 q1))))), .second]) rfl ?_
    show Steps p.tables e below (s₁.setTop (mkF m 41 #[.val (.long (own_h 8 (own_i3 (own_i2 (own_i1 q1))))), .second] [])) _
    refine XS.lloadN X0.here hx rfl (hb hby d6_41) rfl ?_
    show Steps p.tables e below (s₁.setTop (mkF m 42 #[.val (.long (own_h 8 (own_i3 (own_i2 (own_i1 q1))))), .second] [(.long (own_h 8 (own_i3 (own_i2 (own_i1 q1)))))])) _
    refine XS.lloadN X0.here hx rfl (hb hby d6_42) rfl ?_
    show Steps p.tables e below (s₁.setTop (mkF m 43 #[.val (.long (own_h 8 (own_i3 (own_i2 (own_i1 q1))))), .second] [(.long (own_h 8 (own_i3 (own_i2 (own_i1 q1))))), (.long (own_h 8 (own_i3 (own_i2 (own_i1 q1)))))])) _
    refine XS.bipush X0.here hx rfl (hb hby d6_43) ?_
    show Steps p.tables e below (s₁.setTop (mkF m 45 #[.val (.long (own_h 8 (own_i3 (own_i2 (own_i1 q1))))), .second] [(.int (16 : Int32)), (.long (own_h 8 (own_i3 (own_i2 (own_i1 q1))))), (.long (own_h 8 (own_i3 (own_i2 (own_i1 q1)))))])) _
    refine XS.lushr X0.here hx rfl (hb hby d6_45) rfl ?_
    show Steps p.tables e below (s₁.setTop (mkF m 46 #[.val (.long (own_h 8 (own_i3 (own_i2 (own_i1 q1))))), .second] [(.long (own_ushrL (own_h 8 (own_i3 (own_i2 (own_i1 q1)))) (16 : Int32))), (.long (own_h 8 (own_i3 (own_i2 (own_i1 q1)))))])) _
    refine XS.ladd X0.here hx rfl (hb hby d6_46) rfl ?_
    show Steps p.tables e below (s₁.setTop (mkF m 47 #[.val (.long (own_h 8 (own_i3 (own_i2 (own_i1 q1))))), .second] [(.long ((own_h 8 (own_i3 (own_i2 (own_i1 q1)))) + (own_ushrL (own_h 8 (own_i3 (own_i2 (own_i1 q1)))) (16 : Int32))))])) _
    refine XS.lstoreN X0.here hx rfl (hb hby d6_47) rfl (l' := #[.val (.long (own_h 16 (own_h 8 (own_i3 (own_i2 (own_i1 q1)))))), .second]) rfl ?_
    show Steps p.tables e below (s₁.setTop (mkF m 48 #[.val (.long (own_h 16 (own_h 8 (own_i3 (own_i2 (own_i1 q1)))))), .second] [])) _
    refine XS.lloadN X0.here hx rfl (hb hby d6_48) rfl ?_
    show Steps p.tables e below (s₁.setTop (mkF m 49 #[.val (.long (own_h 16 (own_h 8 (own_i3 (own_i2 (own_i1 q1)))))), .second] [(.long (own_h 16 (own_h 8 (own_i3 (own_i2 (own_i1 q1))))))])) _
    refine XS.lloadN X0.here hx rfl (hb hby d6_49) rfl ?_
    show Steps p.tables e below (s₁.setTop (mkF m 50 #[.val (.long (own_h 16 (own_h 8 (own_i3 (own_i2 (own_i1 q1)))))), .second] [(.long (own_h 16 (own_h 8 (own_i3 (own_i2 (own_i1 q1)))))), (.long (own_h 16 (own_h 8 (own_i3 (own_i2 (own_i1 q1))))))])) _
    refine XS.bipush X0.here hx rfl (hb hby d6_50) ?_
    show Steps p.tables e below (s₁.setTop (mkF m 52 #[.val (.long (own_h 16 (own_h 8 (own_i3 (own_i2 (own_i1 q1)))))), .second] [(.int (32 : Int32)), (.long (own_h 16 (own_h 8 (own_i3 (own_i2 (own_i1 q1)))))), (.long (own_h 16 (own_h 8 (own_i3 (own_i2 (own_i1 q1))))))])) _
    refine XS.lushr X0.here hx rfl (hb hby d6_52) rfl ?_
    show Steps p.tables e below (s₁.setTop (mkF m 53 #[.val (.long (own_h 16 (own_h 8 (own_i3 (own_i2 (own_i1 q1)))))), .second] [(.long (own_ushrL (own_h 16 (own_h 8 (own_i3 (own_i2 (own_i1 q1))))) (32 : Int32))), (.long (own_h 16 (own_h 8 (own_i3 (own_i2 (own_i1 q1))))))])) _
    refine XS.ladd X0.here hx rfl (hb hby d6_53) rfl ?_
    show Steps p.tables e below (s₁.setTop (mkF m 54 #[.val (.long (own_h 16 (own_h 8 (own_i3 (own_i2 (own_i1 q1)))))), .second] [(.long ((own_h 16 (own_h 8 (own_i3 (own_i2 (own_i1 q1))))) + (own_ushrL (own_h 16 (own_h 8 (own_i3 (own_i2 (own_i1 q1))))) (32 : Int32))))])) _
    refine XS.lstoreN X0.here hx rfl (hb hby d6_54) rfl (l' := #[.val (.long (own_h 32 (own_h 16 (own_h 8 (own_i3 (own_i2 (own_i1 q1))))))), .second]) rfl ?_
    show Steps p.tables e below (s₁.setTop (mkF m 55 #[.val (.long (own_h 32 (own_h 16 (own_h 8 (own_i3 (own_i2 (own_i1 q1))))))), .second] [])) _
    refine XS.lloadN X0.here hx rfl (hb hby d6_55) rfl ?_
    show Steps p.tables e below (s₁.setTop (mkF m 56 #[.val (.long (own_h 32 (own_h 16 (own_h 8 (own_i3 (own_i2 (own_i1 q1))))))), .second] [(.long (own_h 32 (own_h 16 (own_h 8 (own_i3 (own_i2 (own_i1 q1)))))))])) _
    refine XS.l2i X0.here hx rfl (hb hby d6_56) rfl ?_
    show Steps p.tables e below (s₁.setTop (mkF m 57 #[.val (.long (own_h 32 (own_h 16 (own_h 8 (own_i3 (own_i2 (own_i1 q1))))))), .second] [(.int ((own_h 32 (own_h 16 (own_h 8 (own_i3 (own_i2 (own_i1 q1)))))).toInt32))])) _
    refine XS.bipush X0.here hx rfl (hb hby d6_57) ?_
    show Steps p.tables e below (s₁.setTop (mkF m 59 #[.val (.long (own_h 32 (own_h 16 (own_h 8 (own_i3 (own_i2 (own_i1 q1))))))), .second] [(.int (127 : Int32)), (.int ((own_h 32 (own_h 16 (own_h 8 (own_i3 (own_i2 (own_i1 q1)))))).toInt32))])) _
    refine XS.iand X0.here hx rfl (hb hby d6_59) rfl ?_
    show Steps p.tables e below (s₁.setTop (mkF m 60 #[.val (.long (own_h 32 (own_h 16 (own_h 8 (own_i3 (own_i2 (own_i1 q1))))))), .second] [(.int (own_j q1))])) _
    exact retI X0 hx Bd.returns (hb hby d6_60) hr
  · show Q6 Z q1 h0 n0 _ s₁.heap _
    rw [e0]
    exact ⟨rfl, N0, rfl⟩
theorem d7_0 : decode method_2_code 0 = .ok (.lload_n 0, 1) := by decide +kernel
theorem d7_1 : decode method_2_code 1 = .ok (.lstore_n 2, 1) := by decide +kernel
theorem d7_2 : decode method_2_code 2 = .ok (.lload_n 2, 1) := by decide +kernel
theorem d7_3 : decode method_2_code 3 = .ok (.lload_n 2, 1) := by decide +kernel
theorem d7_4 : decode method_2_code 4 = .ok (.iconst 1, 1) := by decide +kernel
theorem d7_5 : decode method_2_code 5 = .ok (.lushr, 1) := by decide +kernel
theorem d7_6 : decode method_2_code 6 = .ok (.ldc2_w 7, 3) := by decide +kernel
theorem d7_9 : decode method_2_code 9 = .ok (.land, 1) := by decide +kernel
theorem d7_10 : decode method_2_code 10 = .ok (.lsub, 1) := by decide +kernel
theorem d7_11 : decode method_2_code 11 = .ok (.lstore_n 2, 1) := by decide +kernel
theorem d7_12 : decode method_2_code 12 = .ok (.lload_n 2, 1) := by decide +kernel
theorem d7_13 : decode method_2_code 13 = .ok (.ldc2_w 9, 3) := by decide +kernel
theorem d7_16 : decode method_2_code 16 = .ok (.land, 1) := by decide +kernel
theorem d7_17 : decode method_2_code 17 = .ok (.lload_n 2, 1) := by decide +kernel
theorem d7_18 : decode method_2_code 18 = .ok (.iconst 2, 1) := by decide +kernel
theorem d7_19 : decode method_2_code 19 = .ok (.lushr, 1) := by decide +kernel
theorem d7_20 : decode method_2_code 20 = .ok (.ldc2_w 9, 3) := by decide +kernel
theorem d7_23 : decode method_2_code 23 = .ok (.land, 1) := by decide +kernel
theorem d7_24 : decode method_2_code 24 = .ok (.ladd, 1) := by decide +kernel
theorem d7_25 : decode method_2_code 25 = .ok (.lstore_n 2, 1) := by decide +kernel
theorem d7_26 : decode method_2_code 26 = .ok (.lload_n 2, 1) := by decide +kernel
theorem d7_27 : decode method_2_code 27 = .ok (.lload_n 2, 1) := by decide +kernel
theorem d7_28 : decode method_2_code 28 = .ok (.iconst 4, 1) := by decide +kernel
theorem d7_29 : decode method_2_code 29 = .ok (.lushr, 1) := by decide +kernel
theorem d7_30 : decode method_2_code 30 = .ok (.ladd, 1) := by decide +kernel
theorem d7_31 : decode method_2_code 31 = .ok (.ldc2_w 11, 3) := by decide +kernel
theorem d7_34 : decode method_2_code 34 = .ok (.land, 1) := by decide +kernel
theorem d7_35 : decode method_2_code 35 = .ok (.lstore_n 2, 1) := by decide +kernel
theorem d7_36 : decode method_2_code 36 = .ok (.lload_n 2, 1) := by decide +kernel
theorem d7_37 : decode method_2_code 37 = .ok (.ldc2_w 13, 3) := by decide +kernel
theorem d7_40 : decode method_2_code 40 = .ok (.lmul, 1) := by decide +kernel
theorem d7_41 : decode method_2_code 41 = .ok (.bipush 56, 2) := by decide +kernel
theorem d7_43 : decode method_2_code 43 = .ok (.lushr, 1) := by decide +kernel
theorem d7_44 : decode method_2_code 44 = .ok (.l2i, 1) := by decide +kernel
theorem d7_45 : decode method_2_code 45 = .ok (.ireturn, 1) := by decide +kernel
theorem pn_7 : plainName "com/example/weighted_fingerprint/weightedfingerprint/FingerprintDistancePinLaw" = true := by first | (simp [plainName, overriddenIn]; done) | decide +kernel
theorem ef_7 (m : MethodId) (x0 : Int64) : entryFrame m #[(.long x0)] 4 = mkF m 0 #[.val (.long x0), .second, .unset, .unset] [] := by first | (simp [entryFrame, mkF, argsToLocals, Value.category]; done) | rfl
def Q7 (Z : State) (q1 : Int64) (h0 : Heap) (n0 : Nat) (v : Option Value) (h : Heap) (L : List Loc) : Prop := v = some (.int (own_l q1)) ∧ Fr n0 L ∧ h = h0
set_option maxRecDepth 65536 in
set_option maxHeartbeats 40000000 in
theorem rm7 (l : Launch) (Z : State) (a0 : Array Value) (hw : ∀ d ∈ tables_1, d.before a0 Z = true) (ws : List Jvm.Cond) (q1 : Int64) (h0 : Heap) (n0 : Nat) (Z0 : n0 ≤ h0.size) :
    MetFree l (⟨"com/example/weighted_fingerprint/weightedfingerprint/FingerprintDistancePinLaw", "popcount", "(J)I"⟩ : MethodName) (head1 (Jvm.Cond.code (⟨"com/example/weighted_fingerprint/weightedfingerprint/FingerprintDistancePinLaw", "popcount", "(J)I"⟩ : MethodName) method_2_code 4 (some .int) :: ws) ({ frames := 0, cells := 0, slots := 0, locals := 0 } : Room)) (fun a U => a = #[(.long q1)] ∧ Z.Warmed39 U.vm ∧ U.heap = h0) (fun _ _ _ _ _ => True) (fun _ U o U' => ∃ v L, o = .returned v ∧ Q7 Z q1 h0 n0 v U'.heap L ∧ FrameEnd U o U' L (({ frames := 0, cells := 0, slots := 0, locals := 0 } : Room)).cells (({ frames := 0, cells := 0, slots := 0, locals := 0 } : Room)).slots) := by
  refine MetFree.of_bodySF (plainFor_of_name pn_7) hisR ?_
  intro p e s m args below meth c s₁ Bd hml0 hP hK
  obtain ⟨rfl, hZ, hh⟩ := hP
  have hx := Bd.exec
  have hby := Bd.bytes
  have hml : c.maxLocals = 4 := hml0
  have hown : s.vm.findClass "com/example/weighted_fingerprint/weightedfingerprint/FingerprintDistancePinLaw" = some m.cls := findClass_of_methodNamed Bd.named
  have hnm := (name_of_methodNamed Bd.named Bd.method).1
  have X0 : Stand p l e ({ frames := 0, cells := 0, slots := 0, locals := 0 } : Room) s m #[(.long q1)] below meth c s₁ [] 0 0 := Stand.of_body Bd
  have e0 : s₁.heap = h0 := by rw [← hh, Bd.state]; rfl
  have N0 := Fr.nil n0
  have pre0 : ∀ t, Steps p.tables e below (s₁.setTop (mkF m 0 #[.val (.long q1), .second, .unset, .unset] [])) t → Steps p.tables e below (s₁.setTop (entryFrame m #[(.long q1)] 4)) t := fun t k => castTop (ef_7 m q1) k
  obtain ⟨fs, hr, hrun, hended, hW, hsame⟩ := X0.leave (v := some (.int (own_l q1))) (fun h => by rw [Bd.returns] at h; cases h)
  refine ⟨_, _, pre0 _ ?_, hrun, hended, _, _, rfl, ?_, ⟨_, rfl⟩, hW, hsame.mono (by decide) (by decide)⟩
  · show Steps p.tables e below (s₁.setTop (mkF m 0 #[.val (.long q1), .second, .unset, .unset] [])) _
    refine XS.lloadN X0.here hx rfl (hb hby d7_0) rfl ?_
    show Steps p.tables e below (s₁.setTop (mkF m 1 #[.val (.long q1), .second, .unset, .unset] [(.long q1)])) _
    refine XS.lstoreN X0.here hx rfl (hb hby d7_1) rfl (l' := #[.val (.long q1), .second, .val (.long q1), .second]) rfl ?_
    show Steps p.tables e below (s₁.setTop (mkF m 2 #[.val (.long q1), .second, .val (.long q1), .second] [])) _
    refine XS.lloadN X0.here hx rfl (hb hby d7_2) rfl ?_
    show Steps p.tables e below (s₁.setTop (mkF m 3 #[.val (.long q1), .second, .val (.long q1), .second] [(.long q1)])) _
    refine XS.lloadN X0.here hx rfl (hb hby d7_3) rfl ?_
    show Steps p.tables e below (s₁.setTop (mkF m 4 #[.val (.long q1), .second, .val (.long q1), .second] [(.long q1), (.long q1)])) _
    refine XS.iconst X0.here hx rfl (hb hby d7_4) ?_
    show Steps p.tables e below (s₁.setTop (mkF m 5 #[.val (.long q1), .second, .val (.long q1), .second] [(.int (1 : Int32)), (.long q1), (.long q1)])) _
    refine XS.lushr X0.here hx rfl (hb hby d7_5) rfl ?_
    show Steps p.tables e below (s₁.setTop (mkF m 6 #[.val (.long q1), .second, .val (.long q1), .second] [(.long (own_ushrL q1 (1 : Int32))), (.long q1)])) _
    refine X0.ldc2J hx hown (mvT hZ (hw _ (List.mem_of_getElem? (i := 35) rfl))) rfl (hb hby d7_6) ?_
    show Steps p.tables e below (s₁.setTop (mkF m 9 #[.val (.long q1), .second, .val (.long q1), .second] [(.long (6148914691236517205 : Int64)), (.long (own_ushrL q1 (1 : Int32))), (.long q1)])) _
    refine XS.land X0.here hx rfl (hb hby d7_9) rfl ?_
    show Steps p.tables e below (s₁.setTop (mkF m 10 #[.val (.long q1), .second, .val (.long q1), .second] [(.long ((own_ushrL q1 (1 : Int32)) &&& (6148914691236517205 : Int64))), (.long q1)])) _
    refine XS.lsub X0.here hx rfl (hb hby d7_10) rfl ?_
    show Steps p.tables e below (s₁.setTop (mkF m 11 #[.val (.long q1), .second, .val (.long q1), .second] [(.long (q1 - ((own_ushrL q1 (1 : Int32)) &&& (6148914691236517205 : Int64))))])) _
    refine XS.lstoreN X0.here hx rfl (hb hby d7_11) rfl (l' := #[.val (.long q1), .second, .val (.long (own_i1 q1)), .second]) rfl ?_
    show Steps p.tables e below (s₁.setTop (mkF m 12 #[.val (.long q1), .second, .val (.long (own_i1 q1)), .second] [])) _
    refine XS.lloadN X0.here hx rfl (hb hby d7_12) rfl ?_
    show Steps p.tables e below (s₁.setTop (mkF m 13 #[.val (.long q1), .second, .val (.long (own_i1 q1)), .second] [(.long (own_i1 q1))])) _
    refine X0.ldc2J hx hown (mvT hZ (hw _ (List.mem_of_getElem? (i := 36) rfl))) rfl (hb hby d7_13) ?_
    show Steps p.tables e below (s₁.setTop (mkF m 16 #[.val (.long q1), .second, .val (.long (own_i1 q1)), .second] [(.long (3689348814741910323 : Int64)), (.long (own_i1 q1))])) _
    refine XS.land X0.here hx rfl (hb hby d7_16) rfl ?_
    show Steps p.tables e below (s₁.setTop (mkF m 17 #[.val (.long q1), .second, .val (.long (own_i1 q1)), .second] [(.long ((own_i1 q1) &&& (3689348814741910323 : Int64)))])) _
    refine XS.lloadN X0.here hx rfl (hb hby d7_17) rfl ?_
    show Steps p.tables e below (s₁.setTop (mkF m 18 #[.val (.long q1), .second, .val (.long (own_i1 q1)), .second] [(.long (own_i1 q1)), (.long ((own_i1 q1) &&& (3689348814741910323 : Int64)))])) _
    refine XS.iconst X0.here hx rfl (hb hby d7_18) ?_
    show Steps p.tables e below (s₁.setTop (mkF m 19 #[.val (.long q1), .second, .val (.long (own_i1 q1)), .second] [(.int (2 : Int32)), (.long (own_i1 q1)), (.long ((own_i1 q1) &&& (3689348814741910323 : Int64)))])) _
    refine XS.lushr X0.here hx rfl (hb hby d7_19) rfl ?_
    show Steps p.tables e below (s₁.setTop (mkF m 20 #[.val (.long q1), .second, .val (.long (own_i1 q1)), .second] [(.long (own_ushrL (own_i1 q1) (2 : Int32))), (.long ((own_i1 q1) &&& (3689348814741910323 : Int64)))])) _
    refine X0.ldc2J hx hown (mvT hZ (hw _ (List.mem_of_getElem? (i := 36) rfl))) rfl (hb hby d7_20) ?_
    show Steps p.tables e below (s₁.setTop (mkF m 23 #[.val (.long q1), .second, .val (.long (own_i1 q1)), .second] [(.long (3689348814741910323 : Int64)), (.long (own_ushrL (own_i1 q1) (2 : Int32))), (.long ((own_i1 q1) &&& (3689348814741910323 : Int64)))])) _
    refine XS.land X0.here hx rfl (hb hby d7_23) rfl ?_
    show Steps p.tables e below (s₁.setTop (mkF m 24 #[.val (.long q1), .second, .val (.long (own_i1 q1)), .second] [(.long ((own_ushrL (own_i1 q1) (2 : Int32)) &&& (3689348814741910323 : Int64))), (.long ((own_i1 q1) &&& (3689348814741910323 : Int64)))])) _
    refine XS.ladd X0.here hx rfl (hb hby d7_24) rfl ?_
    show Steps p.tables e below (s₁.setTop (mkF m 25 #[.val (.long q1), .second, .val (.long (own_i1 q1)), .second] [(.long (((own_i1 q1) &&& (3689348814741910323 : Int64)) + ((own_ushrL (own_i1 q1) (2 : Int32)) &&& (3689348814741910323 : Int64))))])) _
    refine XS.lstoreN X0.here hx rfl (hb hby d7_25) rfl (l' := #[.val (.long q1), .second, .val (.long (own_i2 (own_i1 q1))), .second]) rfl ?_
    show Steps p.tables e below (s₁.setTop (mkF m 26 #[.val (.long q1), .second, .val (.long (own_i2 (own_i1 q1))), .second] [])) _
    refine XS.lloadN X0.here hx rfl (hb hby d7_26) rfl ?_
    show Steps p.tables e below (s₁.setTop (mkF m 27 #[.val (.long q1), .second, .val (.long (own_i2 (own_i1 q1))), .second] [(.long (own_i2 (own_i1 q1)))])) _
    refine XS.lloadN X0.here hx rfl (hb hby d7_27) rfl ?_
    show Steps p.tables e below (s₁.setTop (mkF m 28 #[.val (.long q1), .second, .val (.long (own_i2 (own_i1 q1))), .second] [(.long (own_i2 (own_i1 q1))), (.long (own_i2 (own_i1 q1)))])) _
    refine XS.iconst X0.here hx rfl (hb hby d7_28) ?_
    show Steps p.tables e below (s₁.setTop (mkF m 29 #[.val (.long q1), .second, .val (.long (own_i2 (own_i1 q1))), .second] [(.int (4 : Int32)), (.long (own_i2 (own_i1 q1))), (.long (own_i2 (own_i1 q1)))])) _
    refine XS.lushr X0.here hx rfl (hb hby d7_29) rfl ?_
    show Steps p.tables e below (s₁.setTop (mkF m 30 #[.val (.long q1), .second, .val (.long (own_i2 (own_i1 q1))), .second] [(.long (own_ushrL (own_i2 (own_i1 q1)) (4 : Int32))), (.long (own_i2 (own_i1 q1)))])) _
    refine XS.ladd X0.here hx rfl (hb hby d7_30) rfl ?_
    show Steps p.tables e below (s₁.setTop (mkF m 31 #[.val (.long q1), .second, .val (.long (own_i2 (own_i1 q1))), .second] [(.long ((own_i2 (own_i1 q1)) + (own_ushrL (own_i2 (own_i1 q1)) (4 : Int32))))])) _
    refine X0.ldc2J hx hown (mvT hZ (hw _ (List.mem_of_getElem? (i := 37) rfl))) rfl (hb hby d7_31) ?_
    show Steps p.tables e below (s₁.setTop (mkF m 34 #[.val (.long q1), .second, .val (.long (own_i2 (own_i1 q1))), .second] [(.long (1085102592571150095 : Int64)), (.long ((own_i2 (own_i1 q1)) + (own_ushrL (own_i2 (own_i1 q1)) (4 : Int32))))])) _
    refine XS.land X0.here hx rfl (hb hby d7_34) rfl ?_
    show Steps p.tables e below (s₁.setTop (mkF m 35 #[.val (.long q1), .second, .val (.long (own_i2 (own_i1 q1))), .second] [(.long (((own_i2 (own_i1 q1)) + (own_ushrL (own_i2 (own_i1 q1)) (4 : Int32))) &&& (1085102592571150095 : Int64)))])) _
    refine XS.lstoreN X0.here hx rfl (hb hby d7_35) rfl (l' := #[.val (.long q1), .second, .val (.long (own_i3 (own_i2 (own_i1 q1)))), .second]) rfl ?_
    show Steps p.tables e below (s₁.setTop (mkF m 36 #[.val (.long q1), .second, .val (.long (own_i3 (own_i2 (own_i1 q1)))), .second] [])) _
    refine XS.lloadN X0.here hx rfl (hb hby d7_36) rfl ?_
    show Steps p.tables e below (s₁.setTop (mkF m 37 #[.val (.long q1), .second, .val (.long (own_i3 (own_i2 (own_i1 q1)))), .second] [(.long (own_i3 (own_i2 (own_i1 q1))))])) _
    refine X0.ldc2J hx hown (mvT hZ (hw _ (List.mem_of_getElem? (i := 38) rfl))) rfl (hb hby d7_37) ?_
    show Steps p.tables e below (s₁.setTop (mkF m 40 #[.val (.long q1), .second, .val (.long (own_i3 (own_i2 (own_i1 q1)))), .second] [(.long (72340172838076673 : Int64)), (.long (own_i3 (own_i2 (own_i1 q1))))])) _
    refine XS.lmul X0.here hx rfl (hb hby d7_40) rfl ?_
    show Steps p.tables e below (s₁.setTop (mkF m 41 #[.val (.long q1), .second, .val (.long (own_i3 (own_i2 (own_i1 q1)))), .second] [(.long ((own_i3 (own_i2 (own_i1 q1))) * (72340172838076673 : Int64)))])) _
    refine XS.bipush X0.here hx rfl (hb hby d7_41) ?_
    show Steps p.tables e below (s₁.setTop (mkF m 43 #[.val (.long q1), .second, .val (.long (own_i3 (own_i2 (own_i1 q1)))), .second] [(.int (56 : Int32)), (.long ((own_i3 (own_i2 (own_i1 q1))) * (72340172838076673 : Int64)))])) _
    refine XS.lushr X0.here hx rfl (hb hby d7_43) rfl ?_
    show Steps p.tables e below (s₁.setTop (mkF m 44 #[.val (.long q1), .second, .val (.long (own_i3 (own_i2 (own_i1 q1)))), .second] [(.long (own_ushrL ((own_i3 (own_i2 (own_i1 q1))) * (72340172838076673 : Int64)) (56 : Int32)))])) _
    refine XS.l2i X0.here hx rfl (hb hby d7_44) rfl ?_
    show Steps p.tables e below (s₁.setTop (mkF m 45 #[.val (.long q1), .second, .val (.long (own_i3 (own_i2 (own_i1 q1)))), .second] [(.int (own_l q1))])) _
    exact retI X0 hx Bd.returns (hb hby d7_45) hr
  · show Q7 Z q1 h0 n0 _ s₁.heap _
    rw [e0]
    exact ⟨rfl, N0, rfl⟩
theorem d5_0 : decode prog_7_method_3_code 0 = .ok (.lload_n 0, 1) := by decide +kernel
theorem d5_1 : decode prog_7_method_3_code 1 = .ok (.lload_n 2, 1) := by decide +kernel
theorem d5_2 : decode prog_7_method_3_code 2 = .ok (.lxor, 1) := by decide +kernel
theorem d5_3 : decode prog_7_method_3_code 3 = .ok (.invokestatic 47, 3) := by decide +kernel
theorem d5_6 : decode prog_7_method_3_code 6 = .ok (.ireturn, 1) := by decide +kernel
theorem pn_5 : plainName "com/example/weighted_fingerprint/weightedfingerprint/Fingerprint" = true := by first | (simp [plainName, overriddenIn]; done) | decide +kernel
theorem pd_5_4 : parseMethodDescriptor "(J)I" = some ⟨[.long], some .int⟩ := by decide +kernel
theorem ef_5 (m : MethodId) (x0 : Int64) (x1 : Int64) : entryFrame m #[(.long x0), (.long x1)] 4 = mkF m 0 #[.val (.long x0), .second, .val (.long x1), .second] [] := by first | (simp [entryFrame, mkF, argsToLocals, Value.category]; done) | rfl
def Q5 (Z : State) (q1 : Int64) (q2 : Int64) (h0 : Heap) (n0 : Nat) (v : Option Value) (h : Heap) (L : List Loc) : Prop := v = some (.int (own_j (q1 ^^^ q2))) ∧ Fr n0 L ∧ h = h0
set_option maxRecDepth 65536 in
set_option maxHeartbeats 40000000 in
theorem rm5 (l : Launch) (Z : State) (a0 : Array Value) (hw : ∀ d ∈ tables_1, d.before a0 Z = true) (ws : List Jvm.Cond) (q1 : Int64) (q2 : Int64) (h0 : Heap) (n0 : Nat) (Z0 : n0 ≤ h0.size) :
    MetFree l (⟨"com/example/weighted_fingerprint/weightedfingerprint/Fingerprint", "distance", "(JJ)I"⟩ : MethodName) (head1 (Jvm.Cond.code (⟨"com/example/weighted_fingerprint/weightedfingerprint/Fingerprint", "distance", "(JJ)I"⟩ : MethodName) prog_7_method_3_code 4 (some .int) :: ws) ({ frames := 1, cells := 0, slots := 0, locals := 13 } : Room)) (fun a U => a = #[(.long q1), (.long q2)] ∧ Z.Warmed39 U.vm ∧ U.heap = h0) (fun _ _ _ _ _ => True) (fun _ U o U' => ∃ v L, o = .returned v ∧ Q5 Z q1 q2 h0 n0 v U'.heap L ∧ FrameEnd U o U' L ({ frames := 1, cells := 0, slots := 0, locals := 13 } : Room).cells ({ frames := 1, cells := 0, slots := 0, locals := 13 } : Room).slots) := by
  refine MetFree.of_bodySF (plainFor_of_name pn_5) hisR ?_
  intro p e s m args below meth c s₁ Bd hml0 hP hK
  obtain ⟨rfl, hZ, hh⟩ := hP
  have hx := Bd.exec
  have hby := Bd.bytes
  have hml : c.maxLocals = 4 := hml0
  have hown : s.vm.findClass "com/example/weighted_fingerprint/weightedfingerprint/Fingerprint" = some m.cls := findClass_of_methodNamed Bd.named
  have hnm := (name_of_methodNamed Bd.named Bd.method).1
  have X0 : Stand p l e ({ frames := 1, cells := 0, slots := 0, locals := 13 } : Room) s m #[(.long q1), (.long q2)] below meth c s₁ [] 0 0 := Stand.of_body Bd
  have e0 : s₁.heap = h0 := by rw [← hh, Bd.state]; rfl
  have N0 := Fr.nil n0
  have pre0 : ∀ t, Steps p.tables e below (s₁.setTop (mkF m 0 #[.val (.long q1), .second, .val (.long q2), .second] [])) t → Steps p.tables e below (s₁.setTop (entryFrame m #[(.long q1), (.long q2)] 4)) t := fun t k => castTop (ef_5 m q1 q2) k
  obtain ⟨_, _, ⟨T3, L3, k3, n3⟩, -, X3, ⟨Lc3, hQ3, l3, y3, z3⟩, st3⟩ := Jvm.LawKit.callS X0 hx (y := (⟨"java/lang/Long", "bitCount", "(J)I"⟩ : MethodName)) hown (mvT hZ (hw _ (List.mem_of_getElem? (i := 24) rfl))) (mvT hZ (hw _ (List.mem_of_getElem? (i := 25) rfl))) (mvT hZ (hw _ (List.mem_of_getElem? (i := 26) rfl))) (mvT hZ (hw _ (List.mem_of_getElem? (i := 27) rfl))) (by decide) (backOf (W := 0) (rm6 l Z a0 hw [] (q1 ^^^ q2) h0 n0 Z0) hZ (hw _ (List.mem_of_getElem? (i := 27) rfl)) (hw _ (List.mem_of_getElem? (i := 26) rfl)) (by decide) (by decide)) (g := (mkF m 3 #[.val (.long q1), .second, .val (.long q2), .second] [(.long (q1 ^^^ q2))])) rfl (by rw [hml]; rfl) (argsL := [(.long (q1 ^^^ q2))]) (rest := []) (lenOf pd_5_4 rfl) rfl (by show 2 * 0 + _ ≤ _; exact Nat.le_of_eq rfl) (hb hby d5_3) (fun _ _ => ⟨rfl, e0, (by decide : 0 + 0 ≤ _), (by decide : 0 + 0 ≤ _)⟩)
  dsimp only [Pt.U, Pt.locs, Pt.cells, Pt.slots] at X3 l3 y3 z3 st3 hQ3
  subst l3 y3 z3
  obtain ⟨rfl, N3q, e3q⟩ := hQ3
  have N3 := Fr.app N0 N3q
  obtain ⟨fs, hr, hrun, hended, hW, hsame⟩ := X3.leave (v := some (.int (own_j (q1 ^^^ q2)))) (fun h => by rw [Bd.returns] at h; cases h)
  refine ⟨_, _, pre0 _ ?_, hrun, hended, _, _, rfl, ?_, ⟨_, rfl⟩, hW, hsame.mono (by decide) (by decide)⟩
  · show Steps p.tables e below (s₁.setTop (mkF m 0 #[.val (.long q1), .second, .val (.long q2), .second] [])) _
    refine XS.lloadN X0.here hx rfl (hb hby d5_0) rfl ?_
    show Steps p.tables e below (s₁.setTop (mkF m 1 #[.val (.long q1), .second, .val (.long q2), .second] [(.long q1)])) _
    refine XS.lloadN X0.here hx rfl (hb hby d5_1) rfl ?_
    show Steps p.tables e below (s₁.setTop (mkF m 2 #[.val (.long q1), .second, .val (.long q2), .second] [(.long q2), (.long q1)])) _
    refine XS.lxor X0.here hx rfl (hb hby d5_2) rfl ?_
    show Steps p.tables e below (s₁.setTop (mkF m 3 #[.val (.long q1), .second, .val (.long q2), .second] [(.long (q1 ^^^ q2))])) _
    refine st3 _ ?_
    show Steps p.tables e below (T3.setTop (mkF m 6 #[.val (.long q1), .second, .val (.long q2), .second] [(.int (own_j (q1 ^^^ q2)))])) _
    exact retI X3 hx Bd.returns (hb hby d5_6) hr
  · show Q5 Z q1 q2 h0 n0 _ T3.heap _
    exact ⟨rfl, N3, e3q⟩
theorem d4_0 : decode prog_7_method_4_code 0 = .ok (.aload_n 0, 1) := by decide +kernel
theorem d4_1 : decode prog_7_method_4_code 1 = .ok (.getfield 9, 3) := by decide +kernel
theorem d4_4 : decode prog_7_method_4_code 4 = .ok (.aload_n 1, 1) := by decide +kernel
theorem d4_5 : decode prog_7_method_4_code 5 = .ok (.getfield 9, 3) := by decide +kernel
theorem d4_8 : decode prog_7_method_4_code 8 = .ok (.invokestatic 51, 3) := by decide +kernel
theorem d4_11 : decode prog_7_method_4_code 11 = .ok (.ireturn, 1) := by decide +kernel
theorem pn_4 : plainName "com/example/weighted_fingerprint/weightedfingerprint/Fingerprint" = true := by first | (simp [plainName, overriddenIn]; done) | decide +kernel
theorem pd_4_3 : parseMethodDescriptor "(JJ)I" = some ⟨[.long, .long], some .int⟩ := by decide +kernel
theorem ef_4 (m : MethodId) (x0 : Addr) (x1 : Addr) : entryFrame m #[(.ref x0), (.ref x1)] 2 = mkF m 0 #[.val (.ref x0), .val (.ref x1)] [] := by first | (simp [entryFrame, mkF, argsToLocals, Value.category]; done) | rfl
def Q4 (Z : State) (a1 : Addr) (a2 : Addr) (w3 : Int64) (w5 : Int64) (h0 : Heap) (n0 : Nat) (v : Option Value) (h : Heap) (L : List Loc) : Prop := v = some (.int (own_j (w3 ^^^ w5))) ∧ Fr n0 L ∧ h = h0
set_option maxRecDepth 65536 in
set_option maxHeartbeats 40000000 in
theorem rm4 (l : Launch) (Z : State) (a0 : Array Value) (hw : ∀ d ∈ tables_1, d.before a0 Z = true) (ws : List Jvm.Cond) (a1 : Addr) (a2 : Addr) (w3 : Int64) (w5 : Int64) (h0 : Heap) (n0 : Nat) (Z0 : n0 ≤ h0.size) (F_bits_a1 : Fld Z h0 a1 "com/example/weighted_fingerprint/weightedfingerprint/Fingerprint" "bits" "J" (.long w3)) (F_bits_a2 : Fld Z h0 a2 "com/example/weighted_fingerprint/weightedfingerprint/Fingerprint" "bits" "J" (.long w5)) :
    MetFree l (⟨"com/example/weighted_fingerprint/weightedfingerprint/Fingerprint", "distance", "(Lcom/example/weighted_fingerprint/weightedfingerprint/Fingerprint;)I"⟩ : MethodName) (head1 (Jvm.Cond.code (⟨"com/example/weighted_fingerprint/weightedfingerprint/Fingerprint", "distance", "(Lcom/example/weighted_fingerprint/weightedfingerprint/Fingerprint;)I"⟩ : MethodName) prog_7_method_4_code 2 (some .int) :: ws) ({ frames := 2, cells := 0, slots := 0, locals := 28 } : Room)) (fun a U => a = #[(.ref a1), (.ref a2)] ∧ Z.Warmed39 U.vm ∧ U.heap = h0) (fun _ _ _ _ _ => True) (fun _ U o U' => ∃ v L, o = .returned v ∧ Q4 Z a1 a2 w3 w5 h0 n0 v U'.heap L ∧ FrameEnd U o U' L ({ frames := 2, cells := 0, slots := 0, locals := 28 } : Room).cells ({ frames := 2, cells := 0, slots := 0, locals := 28 } : Room).slots) := by
  refine MetFree.of_bodySF (plainFor_of_name pn_4) hisR ?_
  intro p e s m args below meth c s₁ Bd hml0 hP hK
  obtain ⟨rfl, hZ, hh⟩ := hP
  have hx := Bd.exec
  have hby := Bd.bytes
  have hml : c.maxLocals = 2 := hml0
  have hown : s.vm.findClass "com/example/weighted_fingerprint/weightedfingerprint/Fingerprint" = some m.cls := findClass_of_methodNamed Bd.named
  have hnm := (name_of_methodNamed Bd.named Bd.method).1
  have X0 : Stand p l e ({ frames := 2, cells := 0, slots := 0, locals := 28 } : Room) s m #[(.ref a1), (.ref a2)] below meth c s₁ [] 0 0 := Stand.of_body Bd
  have e0 : s₁.heap = h0 := by rw [← hh, Bd.state]; rfl
  have N0 := Fr.nil n0
  have pre0 : ∀ t, Steps p.tables e below (s₁.setTop (mkF m 0 #[.val (.ref a1), .val (.ref a2)] [])) t → Steps p.tables e below (s₁.setTop (entryFrame m #[(.ref a1), (.ref a2)] 2)) t := fun t k => castTop (ef_4 m a1 a2) k
  obtain ⟨T4, X4, e4, st4⟩ := getF X0 hx hZ hown (host := "") (Or.inl (hw _ (List.mem_of_getElem? (i := 14) rfl))) Via.refl e0 F_bits_a1 (g := (mkF m 1 #[.val (.ref a1), .val (.ref a2)] [(.ref a1)])) rfl rfl (hb hby d4_1)
  obtain ⟨T6, X6, e6, st6⟩ := getF X4 hx hZ hown (host := "") (Or.inl (hw _ (List.mem_of_getElem? (i := 14) rfl))) Via.refl e4 F_bits_a2 (g := (mkF m 5 #[.val (.ref a1), .val (.ref a2)] [(.ref a2), (.long w3)])) rfl rfl (hb hby d4_5)
  obtain ⟨_, _, ⟨T7, L7, k7, n7⟩, -, X7, ⟨Lc7, hQ7, l7, y7, z7⟩, st7⟩ := Jvm.LawKit.callS X6 hx (y := (⟨"com/example/weighted_fingerprint/weightedfingerprint/Fingerprint", "distance", "(JJ)I"⟩ : MethodName)) hown (mvT hZ (hw _ (List.mem_of_getElem? (i := 21) rfl))) (mvT hZ (hw _ (List.mem_of_getElem? (i := 22) rfl))) (mvT hZ (hw _ (List.mem_of_getElem? (i := 2) rfl))) (mvT hZ (hw _ (List.mem_of_getElem? (i := 23) rfl))) (by decide) (backOf (W := 0) (rm5 l Z a0 hw [] w3 w5 h0 n0 Z0) hZ (hw _ (List.mem_of_getElem? (i := 23) rfl)) (hw _ (List.mem_of_getElem? (i := 2) rfl)) (by decide) (by decide)) (g := (mkF m 8 #[.val (.ref a1), .val (.ref a2)] [(.long w5), (.long w3)])) rfl (by rw [hml]; rfl) (argsL := [(.long w3), (.long w5)]) (rest := []) (lenOf pd_4_3 rfl) rfl (by show 2 * 0 + _ ≤ _; exact Nat.le_of_eq rfl) (hb hby d4_8) (fun _ _ => ⟨rfl, e6, (by decide : 0 + 0 ≤ _), (by decide : 0 + 0 ≤ _)⟩)
  dsimp only [Pt.U, Pt.locs, Pt.cells, Pt.slots] at X7 l7 y7 z7 st7 hQ7
  subst l7 y7 z7
  obtain ⟨rfl, N7q, e7q⟩ := hQ7
  have N7 := Fr.app N0 N7q
  obtain ⟨fs, hr, hrun, hended, hW, hsame⟩ := X7.leave (v := some (.int (own_j (w3 ^^^ w5)))) (fun h => by rw [Bd.returns] at h; cases h)
  refine ⟨_, _, pre0 _ ?_, hrun, hended, _, _, rfl, ?_, ⟨_, rfl⟩, hW, hsame.mono (by decide) (by decide)⟩
  · show Steps p.tables e below (s₁.setTop (mkF m 0 #[.val (.ref a1), .val (.ref a2)] [])) _
    refine XS.aloadN X0.here hx rfl (hb hby d4_0) rfl rfl ?_
    show Steps p.tables e below (s₁.setTop (mkF m 1 #[.val (.ref a1), .val (.ref a2)] [(.ref a1)])) _
    refine st4 _ ?_
    show Steps p.tables e below (T4.setTop (mkF m 4 #[.val (.ref a1), .val (.ref a2)] [(.long w3)])) _
    refine XS.aloadN X4.here hx rfl (hb hby d4_4) rfl rfl ?_
    show Steps p.tables e below (T4.setTop (mkF m 5 #[.val (.ref a1), .val (.ref a2)] [(.ref a2), (.long w3)])) _
    refine st6 _ ?_
    show Steps p.tables e below (T6.setTop (mkF m 8 #[.val (.ref a1), .val (.ref a2)] [(.long w5), (.long w3)])) _
    refine st7 _ ?_
    show Steps p.tables e below (T7.setTop (mkF m 11 #[.val (.ref a1), .val (.ref a2)] [(.int (own_j (w3 ^^^ w5)))])) _
    exact retI X7 hx Bd.returns (hb hby d4_11) hr
  · show Q4 Z a1 a2 w3 w5 h0 n0 _ T7.heap _
    exact ⟨rfl, N7, e7q⟩
theorem pn_0 : plainName "com/example/weighted_fingerprint/weightedfingerprint/FingerprintDistancePinLaw" = true := by first | (simp [plainName, overriddenIn]; done) | decide +kernel
theorem pd_0_0 : parseMethodDescriptor "(J)V" = some ⟨[.long], none⟩ := by decide +kernel
theorem pd_0_2 : parseMethodDescriptor "(Lcom/example/weighted_fingerprint/weightedfingerprint/Fingerprint;)I" = some ⟨[(.object "com/example/weighted_fingerprint/weightedfingerprint/Fingerprint")], some .int⟩ := by decide +kernel
theorem pd_0_4 : parseMethodDescriptor "(J)I" = some ⟨[.long], some .int⟩ := by decide +kernel
theorem ef_0 (m : MethodId) (x0 : Int64) (x1 : Int64) : entryFrame m #[(.long x0), (.long x1)] maxLocals = mkF m 0 #[.val (.long x0), .second, .val (.long x1), .second, .unset, .unset, .unset, .unset, .unset] [] := by first | (simp [entryFrame, mkF, argsToLocals, Value.category, maxLocals]; done) | rfl
def Q0 (Z : State) (q1 : Int64) (q2 : Int64) (h0 : Heap) (n0 : Nat) (v : Option Value) (h : Heap) (L : List Loc) : Prop := v = some (.int (1 : Int32)) ∧ Fr n0 L
set_option maxRecDepth 65536 in
set_option maxHeartbeats 40000000 in
theorem rm0 (l : Launch) (Z : State) (a0 : Array Value) (hw : ∀ d ∈ tables_1, d.before a0 Z = true) (ws : List Jvm.Cond) (q1 : Int64) (q2 : Int64) (h0 : Heap) (n0 : Nat) (Z0 : n0 ≤ h0.size) :
    MetFree l x (head1 (Jvm.Cond.code x code maxLocals ret :: ws) room_1) (fun a U => a = #[(.long q1), (.long q2)] ∧ Z.Warmed39 U.vm ∧ U.heap = h0) (fun _ _ _ _ _ => True) (fun _ U o U' => ∃ v L, o = .returned v ∧ Q0 Z q1 q2 h0 n0 v U'.heap L ∧ FrameEnd U o U' L room_1.cells room_1.slots) := by
  refine MetFree.of_bodySF (plainFor_of_name pn_0) hisR ?_
  intro p e s m args below meth c s₁ Bd hml0 hP hK
  obtain ⟨rfl, hZ, hh⟩ := hP
  have hx := Bd.exec
  have hby := Bd.bytes
  have hml : c.maxLocals = 9 := hml0
  have hown : s.vm.findClass "com/example/weighted_fingerprint/weightedfingerprint/FingerprintDistancePinLaw" = some m.cls := findClass_of_methodNamed Bd.named
  have hnm := (name_of_methodNamed Bd.named Bd.method).1
  have X0 : Stand p l e room_1 s m #[(.long q1), (.long q2)] below meth c s₁ [] 0 0 := Stand.of_body Bd
  have e0 : s₁.heap = h0 := by rw [← hh, Bd.state]; rfl
  have N0 := Fr.nil n0
  have pre0 : ∀ t, Steps p.tables e below (s₁.setTop (mkF m 0 #[.val (.long q1), .second, .val (.long q2), .second, .unset, .unset, .unset, .unset, .unset] [])) t → Steps p.tables e below (s₁.setTop (entryFrame m #[(.long q1), (.long q2)] maxLocals)) t := fun t k => castTop (ef_0 m q1 q2) k
  obtain ⟨T3, h3, X3, e3, E3, A3, D3, -, st3⟩ := newO X0 hx hZ hown (hw _ (List.mem_of_getElem? (i := 0) rfl)) (hw _ (List.mem_of_getElem? (i := 1) rfl)) (hw _ (List.mem_of_getElem? (i := 2) rfl)) e0 (g := (mkF m 0 #[.val (.long q1), .second, .val (.long q2), .second, .unset, .unset, .unset, .unset, .unset] [])) rfl (hb hby at_0) (by decide) (by decide)
  obtain ⟨b3, g3⟩ : ∃ z, z = h0.size := ⟨_, rfl⟩
  rw [← g3] at A3 D3 st3
  have F_bits_b3 : Fld Z h3 b3 "com/example/weighted_fingerprint/weightedfingerprint/Fingerprint" "bits" "J" (.long (0 : Int64)) := D3 (Or.inr (hw _ (List.mem_of_getElem? (i := 15) rfl))) (ty := .long) (by decide)
  have E_b3 := A3
  have g_b3 : n0 ≤ b3 := Nat.le_trans Z0 (Nat.le_of_eq g3.symm)
  have sz_b3 : h0.size ≤ b3 := (Nat.le_trans (Keep.refl h0 []).1 (Nat.le_of_eq g3.symm))
  have K3 : Keep h0 h3 [] := (Keep.refl h0 []).ext E3
  obtain ⟨_, _, ⟨T4, L4, k4, n4⟩, -, X4, ⟨Lc4, hQ4, l4, y4, z4⟩, st4⟩ := X3.specialBack hx (y := (⟨"com/example/weighted_fingerprint/weightedfingerprint/Fingerprint", "<init>", "(J)V"⟩ : MethodName)) rfl hown (mvT hZ (hw _ (List.mem_of_getElem? (i := 3) rfl))) (mvT hZ (hw _ (List.mem_of_getElem? (i := 4) rfl))) (mvT hZ (hw _ (List.mem_of_getElem? (i := 5) rfl))) (by decide) (backOf (W := 1) (rm1 l Z a0 hw [] b3 q1 (.long 0) h3 n0 (Nat.le_trans Z0 E3.1) E_b3 F_bits_b3 g_b3) hZ (hw _ (List.mem_of_getElem? (i := 5) rfl)) (hw _ (List.mem_of_getElem? (i := 2) rfl)) (by decide) (by decide)) (g := (mkF m 5 #[.val (.long q1), .second, .val (.long q2), .second, .unset, .unset, .unset, .unset, .unset] [(.long q1), (.ref b3), (.ref b3)])) rfl (by rw [hml]; rfl) (Steps.refl _) (a := b3) (argsL := [(.long q1)]) (rest := [(.ref b3)]) (lenOf pd_0_0 rfl) rfl (by show 2 * 0 + _ ≤ _; exact Nat.le_of_eq rfl) (hb hby at_5) (fun _ _ => ⟨rfl, e3, (by decide : 1 + 0 ≤ _), (by decide : 1 + 0 ≤ _)⟩)
  dsimp only [Pt.U, Pt.locs, Pt.cells, Pt.slots] at X4 l4 y4 z4 st4 hQ4
  subst l4 y4 z4
  obtain ⟨rfl, N4q, K4q, E4q, F4q⟩ := hQ4
  have N4 := Fr.app N0 N4q
  obtain ⟨T5, h5, X5, e5, E5, A5, D5, -, st5⟩ := newO X4 hx hZ hown (hw _ (List.mem_of_getElem? (i := 0) rfl)) (hw _ (List.mem_of_getElem? (i := 1) rfl)) (hw _ (List.mem_of_getElem? (i := 2) rfl)) rfl (g := (mkF m 10 #[.val (.long q1), .second, .val (.long q2), .second, .val (.ref b3), .unset, .unset, .unset, .unset] [])) rfl (hb hby at_10) (by decide) (by decide)
  obtain ⟨b5, g5⟩ : ∃ z, z = T4.heap.size := ⟨_, rfl⟩
  rw [← g5] at A5 D5 st5
  have F_bits_b5 : Fld Z h5 b5 "com/example/weighted_fingerprint/weightedfingerprint/Fingerprint" "bits" "J" (.long (0 : Int64)) := D5 (Or.inr (hw _ (List.mem_of_getElem? (i := 15) rfl))) (ty := .long) (by decide)
  have E_b5 := A5
  have g_b5 : n0 ≤ b5 := Nat.le_trans (Nat.le_trans (Nat.le_trans Z0 E3.1) K4q.1) (Nat.le_of_eq g5.symm)
  obtain ⟨_, _, ⟨T6, L6, k6, n6⟩, -, X6, ⟨Lc6, hQ6, l6, y6, z6⟩, st6⟩ := X5.specialBack hx (y := (⟨"com/example/weighted_fingerprint/weightedfingerprint/Fingerprint", "<init>", "(J)V"⟩ : MethodName)) rfl hown (mvT hZ (hw _ (List.mem_of_getElem? (i := 3) rfl))) (mvT hZ (hw _ (List.mem_of_getElem? (i := 4) rfl))) (mvT hZ (hw _ (List.mem_of_getElem? (i := 5) rfl))) (by decide) (backOf (W := 1) (rm1 l Z a0 hw [] b5 q2 (.long 0) h5 n0 (Nat.le_trans (Nat.le_trans (Nat.le_trans Z0 E3.1) K4q.1) E5.1) E_b5 F_bits_b5 g_b5) hZ (hw _ (List.mem_of_getElem? (i := 5) rfl)) (hw _ (List.mem_of_getElem? (i := 2) rfl)) (by decide) (by decide)) (g := (mkF m 15 #[.val (.long q1), .second, .val (.long q2), .second, .val (.ref b3), .unset, .unset, .unset, .unset] [(.long q2), (.ref b5), (.ref b5)])) rfl (by rw [hml]; rfl) (Steps.refl _) (a := b5) (argsL := [(.long q2)]) (rest := [(.ref b5)]) (lenOf pd_0_0 rfl) rfl (by show 2 * 0 + _ ≤ _; exact Nat.le_of_eq rfl) (hb hby at_15) (fun _ _ => ⟨rfl, e5, (by decide : 2 + 0 ≤ _), (by decide : 2 + 0 ≤ _)⟩)
  dsimp only [Pt.U, Pt.locs, Pt.cells, Pt.slots] at X6 l6 y6 z6 st6 hQ6
  subst l6 y6 z6
  obtain ⟨rfl, N6q, K6q, E6q, F6q⟩ := hQ6
  have N6 := Fr.app N4 N6q
  have ne35 : b3 ≠ b5 := Nat.ne_of_lt (by rw [g5]; exact E4q.lt)
  have F3k := (F4q.ext E5).keep K6q (fun q => ne35 (List.mem_singleton.mp q))
  have Z6 : n0 ≤ T6.heap.size := Nat.le_trans (Nat.le_trans (Nat.le_trans (Nat.le_trans Z0 E3.1) K4q.1) E5.1) K6q.1
  obtain ⟨pj, pl, pu⟩ := own_pop (q1 ^^^ q2)
  have pc : own_j (q2 ^^^ q1) = own_j (q1 ^^^ q2) := by rw [Int64.xor_comm]
  obtain ⟨cq7, kq7, q7a, q7b, q7c⟩ := isOf hZ rfl ((E4q.ext E5).keep K6q)
  obtain ⟨_, _, ⟨T7, L7, k7, n7⟩, -, X7, ⟨Lc7, hQ7, l7, y7, z7⟩, st7⟩ := X6.virtualBack hx (y := (⟨"com/example/weighted_fingerprint/weightedfingerprint/Fingerprint", "distance", "(Lcom/example/weighted_fingerprint/weightedfingerprint/Fingerprint;)I"⟩ : MethodName)) (z := (⟨"com/example/weighted_fingerprint/weightedfingerprint/Fingerprint", "distance", "(Lcom/example/weighted_fingerprint/weightedfingerprint/Fingerprint;)I"⟩ : MethodName)) hown (mvT hZ (hw _ (List.mem_of_getElem? (i := 16) rfl))) (mvT hZ (hw _ (List.mem_of_getElem? (i := 17) rfl))) (notFace_of_selects (args := #[]) (mvT hZ (hw _ (List.mem_of_getElem? (i := 19) rfl)))) (mvT hZ (hw _ (List.mem_of_getElem? (i := 19) rfl))) (mvT hZ (hw _ (List.mem_of_getElem? (i := 18) rfl))) (by decide) (backOf (W := 0) (rm4 l Z a0 hw [] b3 b5 q1 q2 T6.heap n0 Z6 F3k F6q) hZ (hw _ (List.mem_of_getElem? (i := 20) rfl)) (hw _ (List.mem_of_getElem? (i := 2) rfl)) (by decide) (by decide)) q7a q7c (g := (mkF m 24 #[.val (.long q1), .second, .val (.long q2), .second, .val (.ref b3), .val (.ref b5), .unset, .unset, .unset] [(.ref b5), (.ref b3)])) rfl (by rw [hml]; rfl) (Steps.refl _) (argsL := [(.ref b5)]) (rest := []) (lenOf pd_0_2 rfl) rfl (by show 2 * 0 + _ ≤ _; exact Nat.le_of_eq rfl) (hb hby at_24) (fun _ _ => ⟨rfl, rfl, (by decide : 2 + 0 ≤ _), (by decide : 2 + 0 ≤ _)⟩)
  dsimp only [Pt.U, Pt.locs, Pt.cells, Pt.slots] at X7 l7 y7 z7 st7 hQ7
  subst l7 y7 z7
  obtain ⟨rfl, N7q, e7q⟩ := hQ7
  have N7 := Fr.app N6 N7q
  obtain ⟨cq8, kq8, q8a, q8b, q8c⟩ := isOf hZ rfl (e7q ▸ E6q : Exa Z T7.heap b5 _)
  obtain ⟨_, _, ⟨T8, L8, k8, n8⟩, -, X8, ⟨Lc8, hQ8, l8, y8, z8⟩, st8⟩ := X7.virtualBack hx (y := (⟨"com/example/weighted_fingerprint/weightedfingerprint/Fingerprint", "distance", "(Lcom/example/weighted_fingerprint/weightedfingerprint/Fingerprint;)I"⟩ : MethodName)) (z := (⟨"com/example/weighted_fingerprint/weightedfingerprint/Fingerprint", "distance", "(Lcom/example/weighted_fingerprint/weightedfingerprint/Fingerprint;)I"⟩ : MethodName)) hown (mvT hZ (hw _ (List.mem_of_getElem? (i := 16) rfl))) (mvT hZ (hw _ (List.mem_of_getElem? (i := 17) rfl))) (notFace_of_selects (args := #[]) (mvT hZ (hw _ (List.mem_of_getElem? (i := 19) rfl)))) (mvT hZ (hw _ (List.mem_of_getElem? (i := 19) rfl))) (mvT hZ (hw _ (List.mem_of_getElem? (i := 18) rfl))) (by decide) (backOf (W := 0) (rm4 l Z a0 hw [] b5 b3 q2 q1 T7.heap n0 (e7q ▸ Z6) (e7q ▸ F6q) (e7q ▸ F3k)) hZ (hw _ (List.mem_of_getElem? (i := 20) rfl)) (hw _ (List.mem_of_getElem? (i := 2) rfl)) (by decide) (by decide)) q8a q8c (g := (mkF m 33 #[.val (.long q1), .second, .val (.long q2), .second, .val (.ref b3), .val (.ref b5), .val (.int (own_j (q1 ^^^ q2))), .unset, .unset] [(.ref b3), (.ref b5)])) rfl (by rw [hml]; rfl) (Steps.refl _) (argsL := [(.ref b3)]) (rest := []) (lenOf pd_0_2 rfl) rfl (by show 2 * 0 + _ ≤ _; exact Nat.le_of_eq rfl) (hb hby at_33) (fun _ _ => ⟨rfl, rfl, (by decide : 2 + 0 ≤ _), (by decide : 2 + 0 ≤ _)⟩)
  dsimp only [Pt.U, Pt.locs, Pt.cells, Pt.slots] at X8 l8 y8 z8 st8 hQ8
  subst l8 y8 z8
  obtain ⟨rfl, N8q, e8q⟩ := hQ8
  have N8 := Fr.app N7 N8q
  obtain ⟨_, _, ⟨T9, L9, k9, n9⟩, -, X9, ⟨Lc9, hQ9, l9, y9, z9⟩, st9⟩ := Jvm.LawKit.callS X8 hx (y := (⟨"com/example/weighted_fingerprint/weightedfingerprint/FingerprintDistancePinLaw", "popcount", "(J)I"⟩ : MethodName)) hown (mvT hZ (hw _ (List.mem_of_getElem? (i := 31) rfl))) (mvT hZ (hw _ (List.mem_of_getElem? (i := 32) rfl))) (mvT hZ (hw _ (List.mem_of_getElem? (i := 33) rfl))) (mvT hZ (hw _ (List.mem_of_getElem? (i := 34) rfl))) (by decide) (backOf (W := 0) (rm7 l Z a0 hw [] (q1 ^^^ q2) T8.heap n0 (e8q ▸ e7q ▸ Z6)) hZ (hw _ (List.mem_of_getElem? (i := 34) rfl)) (hw _ (List.mem_of_getElem? (i := 33) rfl)) (by decide) (by decide)) (g := (mkF m 41 #[.val (.long q1), .second, .val (.long q2), .second, .val (.ref b3), .val (.ref b5), .val (.int (own_j (q1 ^^^ q2))), .val (.int (own_j (q2 ^^^ q1))), .unset] [(.long (q1 ^^^ q2))])) rfl (by rw [hml]; rfl) (argsL := [(.long (q1 ^^^ q2))]) (rest := []) (lenOf pd_0_4 rfl) rfl (by show 2 * 0 + _ ≤ _; exact Nat.le_of_eq rfl) (hb hby at_41) (fun _ _ => ⟨rfl, rfl, (by decide : 2 + 0 ≤ _), (by decide : 2 + 0 ≤ _)⟩)
  dsimp only [Pt.U, Pt.locs, Pt.cells, Pt.slots] at X9 l9 y9 z9 st9 hQ9
  subst l9 y9 z9
  obtain ⟨rfl, N9q, e9q⟩ := hQ9
  have N9 := Fr.app N8 N9q
  obtain ⟨fs, hr, hrun, hended, hW, hsame⟩ := X9.leave (v := some (.int (1 : Int32))) (fun h => by rw [Bd.returns] at h; cases h)
  refine ⟨_, _, pre0 _ ?_, hrun, hended, _, _, rfl, ?_, ⟨_, rfl⟩, hW, hsame.mono (by decide) (by decide)⟩
  · show Steps p.tables e below (s₁.setTop (mkF m 0 #[.val (.long q1), .second, .val (.long q2), .second, .unset, .unset, .unset, .unset, .unset] [])) _
    refine st3 _ ?_
    show Steps p.tables e below (T3.setTop (mkF m 3 #[.val (.long q1), .second, .val (.long q2), .second, .unset, .unset, .unset, .unset, .unset] [(.ref b3)])) _
    refine XS.dup X3.here hx rfl (hb hby at_3) rfl rfl ?_
    show Steps p.tables e below (T3.setTop (mkF m 4 #[.val (.long q1), .second, .val (.long q2), .second, .unset, .unset, .unset, .unset, .unset] [(.ref b3), (.ref b3)])) _
    refine XS.lloadN X3.here hx rfl (hb hby at_4) rfl ?_
    show Steps p.tables e below (T3.setTop (mkF m 5 #[.val (.long q1), .second, .val (.long q2), .second, .unset, .unset, .unset, .unset, .unset] [(.long q1), (.ref b3), (.ref b3)])) _
    refine st4.trans ?_
    show Steps p.tables e below (T4.setTop (mkF m 8 #[.val (.long q1), .second, .val (.long q2), .second, .unset, .unset, .unset, .unset, .unset] [(.ref b3)])) _
    refine XS.astore X4.here hx rfl (hb hby at_8) rfl rfl (l' := #[.val (.long q1), .second, .val (.long q2), .second, .val (.ref b3), .unset, .unset, .unset, .unset]) rfl ?_
    show Steps p.tables e below (T4.setTop (mkF m 10 #[.val (.long q1), .second, .val (.long q2), .second, .val (.ref b3), .unset, .unset, .unset, .unset] [])) _
    refine st5 _ ?_
    show Steps p.tables e below (T5.setTop (mkF m 13 #[.val (.long q1), .second, .val (.long q2), .second, .val (.ref b3), .unset, .unset, .unset, .unset] [(.ref b5)])) _
    refine XS.dup X5.here hx rfl (hb hby at_13) rfl rfl ?_
    show Steps p.tables e below (T5.setTop (mkF m 14 #[.val (.long q1), .second, .val (.long q2), .second, .val (.ref b3), .unset, .unset, .unset, .unset] [(.ref b5), (.ref b5)])) _
    refine XS.lloadN X5.here hx rfl (hb hby at_14) rfl ?_
    show Steps p.tables e below (T5.setTop (mkF m 15 #[.val (.long q1), .second, .val (.long q2), .second, .val (.ref b3), .unset, .unset, .unset, .unset] [(.long q2), (.ref b5), (.ref b5)])) _
    refine st6.trans ?_
    show Steps p.tables e below (T6.setTop (mkF m 18 #[.val (.long q1), .second, .val (.long q2), .second, .val (.ref b3), .unset, .unset, .unset, .unset] [(.ref b5)])) _
    refine XS.astore X6.here hx rfl (hb hby at_18) rfl rfl (l' := #[.val (.long q1), .second, .val (.long q2), .second, .val (.ref b3), .val (.ref b5), .unset, .unset, .unset]) rfl ?_
    show Steps p.tables e below (T6.setTop (mkF m 20 #[.val (.long q1), .second, .val (.long q2), .second, .val (.ref b3), .val (.ref b5), .unset, .unset, .unset] [])) _
    refine XS.aload X6.here hx rfl (hb hby at_20) rfl rfl ?_
    show Steps p.tables e below (T6.setTop (mkF m 22 #[.val (.long q1), .second, .val (.long q2), .second, .val (.ref b3), .val (.ref b5), .unset, .unset, .unset] [(.ref b3)])) _
    refine XS.aload X6.here hx rfl (hb hby at_22) rfl rfl ?_
    show Steps p.tables e below (T6.setTop (mkF m 24 #[.val (.long q1), .second, .val (.long q2), .second, .val (.ref b3), .val (.ref b5), .unset, .unset, .unset] [(.ref b5), (.ref b3)])) _
    refine st7.trans ?_
    show Steps p.tables e below (T7.setTop (mkF m 27 #[.val (.long q1), .second, .val (.long q2), .second, .val (.ref b3), .val (.ref b5), .unset, .unset, .unset] [(.int (own_j (q1 ^^^ q2)))])) _
    refine XS.istore X7.here hx rfl (hb hby at_27) rfl (l' := #[.val (.long q1), .second, .val (.long q2), .second, .val (.ref b3), .val (.ref b5), .val (.int (own_j (q1 ^^^ q2))), .unset, .unset]) rfl ?_
    show Steps p.tables e below (T7.setTop (mkF m 29 #[.val (.long q1), .second, .val (.long q2), .second, .val (.ref b3), .val (.ref b5), .val (.int (own_j (q1 ^^^ q2))), .unset, .unset] [])) _
    refine XS.aload X7.here hx rfl (hb hby at_29) rfl rfl ?_
    show Steps p.tables e below (T7.setTop (mkF m 31 #[.val (.long q1), .second, .val (.long q2), .second, .val (.ref b3), .val (.ref b5), .val (.int (own_j (q1 ^^^ q2))), .unset, .unset] [(.ref b5)])) _
    refine XS.aload X7.here hx rfl (hb hby at_31) rfl rfl ?_
    show Steps p.tables e below (T7.setTop (mkF m 33 #[.val (.long q1), .second, .val (.long q2), .second, .val (.ref b3), .val (.ref b5), .val (.int (own_j (q1 ^^^ q2))), .unset, .unset] [(.ref b3), (.ref b5)])) _
    refine st8.trans ?_
    show Steps p.tables e below (T8.setTop (mkF m 36 #[.val (.long q1), .second, .val (.long q2), .second, .val (.ref b3), .val (.ref b5), .val (.int (own_j (q1 ^^^ q2))), .unset, .unset] [(.int (own_j (q2 ^^^ q1)))])) _
    refine XS.istore X8.here hx rfl (hb hby at_36) rfl (l' := #[.val (.long q1), .second, .val (.long q2), .second, .val (.ref b3), .val (.ref b5), .val (.int (own_j (q1 ^^^ q2))), .val (.int (own_j (q2 ^^^ q1))), .unset]) rfl ?_
    show Steps p.tables e below (T8.setTop (mkF m 38 #[.val (.long q1), .second, .val (.long q2), .second, .val (.ref b3), .val (.ref b5), .val (.int (own_j (q1 ^^^ q2))), .val (.int (own_j (q2 ^^^ q1))), .unset] [])) _
    refine XS.lloadN X8.here hx rfl (hb hby at_38) rfl ?_
    show Steps p.tables e below (T8.setTop (mkF m 39 #[.val (.long q1), .second, .val (.long q2), .second, .val (.ref b3), .val (.ref b5), .val (.int (own_j (q1 ^^^ q2))), .val (.int (own_j (q2 ^^^ q1))), .unset] [(.long q1)])) _
    refine XS.lloadN X8.here hx rfl (hb hby at_39) rfl ?_
    show Steps p.tables e below (T8.setTop (mkF m 40 #[.val (.long q1), .second, .val (.long q2), .second, .val (.ref b3), .val (.ref b5), .val (.int (own_j (q1 ^^^ q2))), .val (.int (own_j (q2 ^^^ q1))), .unset] [(.long q2), (.long q1)])) _
    refine XS.lxor X8.here hx rfl (hb hby at_40) rfl ?_
    show Steps p.tables e below (T8.setTop (mkF m 41 #[.val (.long q1), .second, .val (.long q2), .second, .val (.ref b3), .val (.ref b5), .val (.int (own_j (q1 ^^^ q2))), .val (.int (own_j (q2 ^^^ q1))), .unset] [(.long (q1 ^^^ q2))])) _
    refine st9 _ ?_
    show Steps p.tables e below (T9.setTop (mkF m 44 #[.val (.long q1), .second, .val (.long q2), .second, .val (.ref b3), .val (.ref b5), .val (.int (own_j (q1 ^^^ q2))), .val (.int (own_j (q2 ^^^ q1))), .unset] [(.int (own_l (q1 ^^^ q2)))])) _
    refine XS.istore X9.here hx rfl (hb hby at_44) rfl (l' := #[.val (.long q1), .second, .val (.long q2), .second, .val (.ref b3), .val (.ref b5), .val (.int (own_j (q1 ^^^ q2))), .val (.int (own_j (q2 ^^^ q1))), .val (.int (own_l (q1 ^^^ q2)))]) rfl ?_
    show Steps p.tables e below (T9.setTop (mkF m 46 #[.val (.long q1), .second, .val (.long q2), .second, .val (.ref b3), .val (.ref b5), .val (.int (own_j (q1 ^^^ q2))), .val (.int (own_j (q2 ^^^ q1))), .val (.int (own_l (q1 ^^^ q2)))] [])) _
    refine XS.iload X9.here hx rfl (hb hby at_46) rfl ?_
    show Steps p.tables e below (T9.setTop (mkF m 48 #[.val (.long q1), .second, .val (.long q2), .second, .val (.ref b3), .val (.ref b5), .val (.int (own_j (q1 ^^^ q2))), .val (.int (own_j (q2 ^^^ q1))), .val (.int (own_l (q1 ^^^ q2)))] [(.int (own_j (q1 ^^^ q2)))])) _
    refine XS.iload X9.here hx rfl (hb hby at_48) rfl ?_
    show Steps p.tables e below (T9.setTop (mkF m 50 #[.val (.long q1), .second, .val (.long q2), .second, .val (.ref b3), .val (.ref b5), .val (.int (own_j (q1 ^^^ q2))), .val (.int (own_j (q2 ^^^ q1))), .val (.int (own_l (q1 ^^^ q2)))] [(.int (own_l (q1 ^^^ q2))), (.int (own_j (q1 ^^^ q2)))])) _
    refine XS.icmpNo X9.here hx rfl (hb hby at_50) rfl (teq pj).2 ?_
    show Steps p.tables e below (T9.setTop (mkF m 53 #[.val (.long q1), .second, .val (.long q2), .second, .val (.ref b3), .val (.ref b5), .val (.int (own_j (q1 ^^^ q2))), .val (.int (own_j (q2 ^^^ q1))), .val (.int (own_l (q1 ^^^ q2)))] [])) _
    refine XS.iload X9.here hx rfl (hb hby at_53) rfl ?_
    show Steps p.tables e below (T9.setTop (mkF m 55 #[.val (.long q1), .second, .val (.long q2), .second, .val (.ref b3), .val (.ref b5), .val (.int (own_j (q1 ^^^ q2))), .val (.int (own_j (q2 ^^^ q1))), .val (.int (own_l (q1 ^^^ q2)))] [(.int (own_j (q2 ^^^ q1)))])) _
    refine XS.iload X9.here hx rfl (hb hby at_55) rfl ?_
    show Steps p.tables e below (T9.setTop (mkF m 57 #[.val (.long q1), .second, .val (.long q2), .second, .val (.ref b3), .val (.ref b5), .val (.int (own_j (q1 ^^^ q2))), .val (.int (own_j (q2 ^^^ q1))), .val (.int (own_l (q1 ^^^ q2)))] [(.int (own_l (q1 ^^^ q2))), (.int (own_j (q2 ^^^ q1)))])) _
    refine XS.icmpNo X9.here hx rfl (hb hby at_57) rfl (teq (pc.trans pj)).2 ?_
    show Steps p.tables e below (T9.setTop (mkF m 60 #[.val (.long q1), .second, .val (.long q2), .second, .val (.ref b3), .val (.ref b5), .val (.int (own_j (q1 ^^^ q2))), .val (.int (own_j (q2 ^^^ q1))), .val (.int (own_l (q1 ^^^ q2)))] [])) _
    refine XS.iload X9.here hx rfl (hb hby at_60) rfl ?_
    show Steps p.tables e below (T9.setTop (mkF m 62 #[.val (.long q1), .second, .val (.long q2), .second, .val (.ref b3), .val (.ref b5), .val (.int (own_j (q1 ^^^ q2))), .val (.int (own_j (q2 ^^^ q1))), .val (.int (own_l (q1 ^^^ q2)))] [(.int (own_j (q1 ^^^ q2)))])) _
    refine XS.ifNo X9.here hx rfl (hb hby at_62) rfl ((if0 _ _).trans (flt (by rw [pj, Int32.lt_iff_toInt_lt]; exact Int.not_lt.mpr pl)).1) ?_
    show Steps p.tables e below (T9.setTop (mkF m 65 #[.val (.long q1), .second, .val (.long q2), .second, .val (.ref b3), .val (.ref b5), .val (.int (own_j (q1 ^^^ q2))), .val (.int (own_j (q2 ^^^ q1))), .val (.int (own_l (q1 ^^^ q2)))] [])) _
    refine XS.iload X9.here hx rfl (hb hby at_65) rfl ?_
    show Steps p.tables e below (T9.setTop (mkF m 67 #[.val (.long q1), .second, .val (.long q2), .second, .val (.ref b3), .val (.ref b5), .val (.int (own_j (q1 ^^^ q2))), .val (.int (own_j (q2 ^^^ q1))), .val (.int (own_l (q1 ^^^ q2)))] [(.int (own_j (q1 ^^^ q2)))])) _
    refine XS.bipush X9.here hx rfl (hb hby at_67) ?_
    show Steps p.tables e below (T9.setTop (mkF m 69 #[.val (.long q1), .second, .val (.long q2), .second, .val (.ref b3), .val (.ref b5), .val (.int (own_j (q1 ^^^ q2))), .val (.int (own_j (q2 ^^^ q1))), .val (.int (own_l (q1 ^^^ q2)))] [(.int (64 : Int32)), (.int (own_j (q1 ^^^ q2)))])) _
    refine XS.icmpNo X9.here hx rfl (hb hby at_69) rfl (flt (by rw [pj, Int32.lt_iff_toInt_lt]; exact Int.not_lt.mpr pu)).2.2.1 ?_
    show Steps p.tables e below (T9.setTop (mkF m 72 #[.val (.long q1), .second, .val (.long q2), .second, .val (.ref b3), .val (.ref b5), .val (.int (own_j (q1 ^^^ q2))), .val (.int (own_j (q2 ^^^ q1))), .val (.int (own_l (q1 ^^^ q2)))] [])) _
    refine XS.iconst X9.here hx rfl (hb hby at_72) ?_
    show Steps p.tables e below (T9.setTop (mkF m 73 #[.val (.long q1), .second, .val (.long q2), .second, .val (.ref b3), .val (.ref b5), .val (.int (own_j (q1 ^^^ q2))), .val (.int (own_j (q2 ^^^ q1))), .val (.int (own_l (q1 ^^^ q2)))] [(.int (1 : Int32))])) _
    refine XS.goto X9.here hx rfl (pc0 := 73) (pc' := 77) rfl (hb hby at_73) (by decide) (by decide) ?_
    show Steps p.tables e below (T9.setTop (mkF m 77 #[.val (.long q1), .second, .val (.long q2), .second, .val (.ref b3), .val (.ref b5), .val (.int (own_j (q1 ^^^ q2))), .val (.int (own_j (q2 ^^^ q1))), .val (.int (own_l (q1 ^^^ q2)))] [(.int (1 : Int32))])) _
    exact retN X9 hx (t := .boolean) Bd.returns (by simp) (hb hby at_77) hr
  · show Q0 Z q1 q2 h0 n0 _ T9.heap _
    exact ⟨rfl, N9⟩
set_option maxRecDepth 65536 in
set_option maxHeartbeats 40000000 in
theorem comes_1 {Post : Tables → Env → Array Value → State → Outcome → State → Prop} (hpost : ∀ tb e args s v u, (limb_1_1.after args s (.returned v) u = true ∧ limb_1_2.after args s (.returned v) u = true ∧ True) → FrameEnd s (.returned v) u (Jvm.fieldLocs frame_1_writes args s ++ Jvm.arrayLocs frame_1_arrays args s ++ Jvm.staticLocs frame_1_statics s) 16 128 → Post tb e args s (.returned v) u) :
    ArmFor flags0 classFile x code maxLocals ret World_1 tables_1 room_1 Calls_1 rest_1 Pre_1 Post := by
  intro l hfl _ _ p e ha hc hk s m args below hf hA hF happ hP
  obtain ⟨hcalls, hrest, hpre⟩ := hP
  obtain ⟨-, -, -, hnamed, -, -, -, hat⟩ := (Spec.applies_iff hf).mp happ
  obtain ⟨hg, hn⟩ := and_e (Cond.before_iff.mp (show (Jvm.Cond.and given_1 narrow_1).before args s = true from hpre))
  obtain ⟨g10, g11⟩ := and_e hg
  obtain ⟨g12, g13⟩ := and_e g11
  obtain ⟨w0, w1, rfl⟩ : ∃ w0 w1 : Value, args = #[w0, w1] := by
    have hs : args.size = 2 := by simpa [Cond.value, given_1] using g10
    obtain ⟨L⟩ := args
    match L, hs with
    | [w0, w1], _ => exact ⟨w0, w1, rfl⟩
  have hw := fun d (hd : d ∈ tables_1) => atoms_spec (ws := Jvm.Cond.code x code maxLocals ret :: tables_1) hat d (List.mem_cons_of_mem _ hd)
  have hfit : Fit s := fun {y c} hc i hi => by
    obtain ⟨ha, rfl⟩ := Array.getElem?_eq_some_iff.mp hc
    have q := List.all_eq_true.mp ((Array.all_eq_true_iff_forall_mem.mp hF) _ (Array.getElem_mem ha)) i (List.mem_range.mpr hi)
    simpa [Array.getElem?_eq_getElem hi] using q
  obtain ⟨i0, ei0⟩ := isL_v g12
  obtain rfl : w0 = (.long i0) := Option.some.inj ei0
  obtain ⟨i1, ei1⟩ := isL_v g13
  obtain rfl : w1 = (.long i1) := Option.some.inj ei1
  obtain ⟨n, o, h1, h2, h3, _, L, rfl, ⟨rfl, N⟩, hq⟩ := rm0 l s _ hw tables_1 i0 i1 s.heap s.heap.size (Nat.le_refl _) p e ha hc hk s m _ below hf ((Spec.applies_iff_loose hf).mp happ).1 ⟨rfl, State.Warmed39.refl s, rfl⟩ trivial
  refine ⟨n, _, h1, h2, h3, hpost _ _ _ _ _ _ ⟨Cond.after_iff.mpr rfl, Cond.after_iff.mpr (eq_i res_at (Term.int_eval (1)) rfl), trivial⟩ ⟨hq.1, hq.2.1, (hq.2.2.sift fun y hy => Or.inr (N y hy)).mono (by decide) (by decide)⟩⟩
theorem main_1_1 : Claimed_1_1 := comes_1 fun _ _ _ _ _ _ h hF => ⟨h.1, hF⟩
theorem main_1_2 : Claimed_1_2 := comes_1 fun _ _ _ _ _ _ h hF => ⟨h.2.1, hF⟩
end Jvm.Pilot.@@N@@
namespace Jvm.Pilot.@@N@@
open Jvm Jvm.ClassFile Sem Op Lib Jvm.Free Jvm.Stand Jvm.Pilot.@@N@@.Jvm.D
/-! MADE BY PROGRAM (witnessworld.py) out of the Statement's table words and the real class files: 15 classes; the members and pool entries that the words name. The judged class is class 1, her method 2. -/
namespace start1
open Jvm.ClassFile
def u (s : String) : CpInfo := .utf8 (stringToUtf16 s)
/-- a pool by its gaps: so many unusable entries, then the entry; so many at the end -/
def gap : Nat → List CpInfo → List CpInfo
  | 0, r => r
  | n + 1, r => .unusable :: gap n r
def poolList (es : List (Nat × CpInfo)) (last : Nat) : List CpInfo := es.foldr (fun e r => gap e.1 (e.2 :: r)) (gap last [])
def pool (es : List (Nat × CpInfo)) (last : Nat) : Array CpInfo := ⟨poolList es last⟩
def fileOf (pool : Array CpInfo) (this : Nat) (attrs : Array Attribute := #[]) (ms : Array MethodInfo := #[]) (fl : Nat := 33) (sup : Nat := 0) (ifs : Array Nat := #[]) (fds : Array FieldInfo := #[]) : ClassFile where
  minorVersion := 0
  majorVersion := 65
  constantPool := pool
  accessFlags := fl
  thisClass := this
  superClass := sup
  interfaces := ifs
  fields := fds
  methods := ms
  attributes := attrs
def plain (name : String) (sup : Option ClassId) : Class where
  name := name
  kind := .ordinary
  loader := none
  accessFlags := 33
  super := sup
  interfaces := #[]
  cf := none
  fields := #[]
  methods := #[]
  instanceTypes := #[]
  staticTypes := #[]
  resolved := #[]
  callSites := []
  init := .initialized
  statics := none
  mirror := none

def pool0 : Array CpInfo := pool [(5, u "<init>"), (0, u "()V"), (1, .class_ 10), (1, u "java/lang/Object")] 113

def k0c0 : Code := { maxStack := 0, maxLocals := 1, code := object_method_1_code, exceptionTable := #[], attributes := #[] }
def k0m0 : Method := { name := "<init>", desc := "()V", sig := { parameters := [], returnType := none }, accessFlags := 1, code := some k0c0 }
/-- java/lang/Object -/
def k0 : Class := { plain "java/lang/Object" none with
  accessFlags := 33
  interfaces := #[]
  cf := some (fileOf pool0 8 #[] #[{ accessFlags := 1, nameIndex := 5, descriptorIndex := 6, attributes := #[] }] 33 0 #[] #[])
  fields := #[]
  methods := #[k0m0]
  instanceTypes := #[]
  staticTypes := #[]
  resolved := Array.replicate 124 none
  statics := none }

def pool1 : Array CpInfo := pool [(2, .class_ 4), (1, u "java/lang/Object"), (0, u "<init>"), (0, u "()V"), (0, .long 6148914691236517205), (1, .long 3689348814741910323), (1, .long 1085102592571150095), (1, .long 72340172838076673), (1, .class_ 16), (0, u "com/example/weighted_fingerprint/weightedfingerprint/Fingerprint"), (0, .methodref 15 18), (0, .nameAndType 5 19), (0, u "(J)V"), (0, .methodref 15 21), (0, .nameAndType 22 23), (0, u "distance"), (0, u "(Lcom/example/weighted_fingerprint/weightedfingerprint/Fingerprint;)I"), (0, .methodref 25 26), (0, .class_ 27), (0, .nameAndType 28 29), (0, u "com/example/weighted_fingerprint/weightedfingerprint/FingerprintDistancePinLaw"), (0, u "popcount"), (0, u "(J)I"), (2, u "law"), (0, u "(JJ)Z")] 3

def k1m0 : Method := { name := "<init>", desc := "()V", sig := { parameters := [], returnType := none }, accessFlags := 1, code := none }
def k1c1 : Code := { maxStack := 6, maxLocals := 4, code := method_2_code, exceptionTable := #[], attributes := #[] }
def k1m1 : Method := { name := "popcount", desc := "(J)I", sig := { parameters := [.long], returnType := some .int }, accessFlags := 10, code := some k1c1 }
def k1c2 : Code := { maxStack := 4, maxLocals := 9, code := code, exceptionTable := #[], attributes := #[] }
def k1m2 : Method := { name := "law", desc := "(JJ)Z", sig := { parameters := [.long, .long], returnType := some .boolean }, accessFlags := 9, code := some k1c2 }
/-- com/example/weighted_fingerprint/weightedfingerprint/FingerprintDistancePinLaw -/
def k1 : Class := { plain "com/example/weighted_fingerprint/weightedfingerprint/FingerprintDistancePinLaw" (some 0) with
  accessFlags := 49
  interfaces := #[]
  cf := some (fileOf pool1 25 #[] #[{ accessFlags := 1, nameIndex := 5, descriptorIndex := 6, attributes := #[] }, { accessFlags := 10, nameIndex := 28, descriptorIndex := 29, attributes := #[] }, { accessFlags := 9, nameIndex := 32, descriptorIndex := 33, attributes := #[] }] 49 2 #[] #[])
  fields := #[]
  methods := #[k1m0, k1m1, k1m2]
  instanceTypes := #[]
  staticTypes := #[]
  resolved := Array.replicate 37 none
  statics := none }

def pool2 : Array CpInfo := pool [(1, .methodref 2 3), (0, .class_ 4), (0, .nameAndType 5 6), (0, u "java/lang/Object"), (0, u "<init>"), (0, u "()V"), (0, .class_ 8), (0, u "java/lang/Record")] 13

def k2c0 : Code := { maxStack := 1, maxLocals := 1, code := jdk_30_method_1_code, exceptionTable := #[], attributes := #[] }
def k2m0 : Method := { name := "<init>", desc := "()V", sig := { parameters := [], returnType := none }, accessFlags := 4, code := some k2c0 }
/-- java/lang/Record -/
def k2 : Class := { plain "java/lang/Record" (some 0) with
  accessFlags := 1057
  interfaces := #[]
  cf := some (fileOf pool2 7 #[] #[{ accessFlags := 4, nameIndex := 5, descriptorIndex := 6, attributes := #[] }] 1057 2 #[] #[])
  fields := #[]
  methods := #[k2m0]
  instanceTypes := #[]
  staticTypes := #[]
  resolved := Array.replicate 22 none
  statics := none }

def pool3 : Array CpInfo := pool [(1, .class_ 2), (0, u "java/lang/Long"), (0, .methodref 4 5), (0, .class_ 6), (0, .nameAndType 7 8), (0, u "java/lang/Record"), (0, u "<init>"), (0, u "()V"), (0, .fieldref 10 11), (0, .class_ 12), (0, .nameAndType 13 14), (0, u "com/example/weighted_fingerprint/weightedfingerprint/Fingerprint"), (0, u "bits"), (0, u "J"), (31, u "(J)V"), (0, .methodref 1 48), (0, .nameAndType 49 50), (0, u "bitCount"), (0, u "(J)I"), (0, .methodref 10 52), (0, .nameAndType 53 54), (0, u "distance"), (0, u "(JJ)I"), (2, u "HEX"), (0, u "Ljava/util/HexFormat;"), (7, u "(Lcom/example/weighted_fingerprint/weightedfingerprint/Fingerprint;)I"), (8, u "HEX_DIGITS"), (0, u "I")] 40

def k3c0 : Code := { maxStack := 3, maxLocals := 3, code := prog_7_method_1_code, exceptionTable := #[], attributes := #[] }
def k3m0 : Method := { name := "<init>", desc := "(J)V", sig := { parameters := [.long], returnType := none }, accessFlags := 1, code := some k3c0 }
def k3c1 : Code := { maxStack := 4, maxLocals := 4, code := prog_7_method_3_code, exceptionTable := #[], attributes := #[] }
def k3m1 : Method := { name := "distance", desc := "(JJ)I", sig := { parameters := [.long, .long], returnType := some .int }, accessFlags := 9, code := some k3c1 }
def k3c2 : Code := { maxStack := 4, maxLocals := 2, code := prog_7_method_4_code, exceptionTable := #[], attributes := #[] }
def k3m2 : Method := { name := "distance", desc := "(Lcom/example/weighted_fingerprint/weightedfingerprint/Fingerprint;)I", sig := { parameters := [(.object "com/example/weighted_fingerprint/weightedfingerprint/Fingerprint")], returnType := some .int }, accessFlags := 1, code := some k3c2 }
/-- com/example/weighted_fingerprint/weightedfingerprint/Fingerprint -/
def k3 : Class := { plain "com/example/weighted_fingerprint/weightedfingerprint/Fingerprint" (some 2) with
  accessFlags := 49
  interfaces := #[]
  cf := some (fileOf pool3 10 #[] #[{ accessFlags := 1, nameIndex := 7, descriptorIndex := 46, attributes := #[] }, { accessFlags := 9, nameIndex := 53, descriptorIndex := 54, attributes := #[] }, { accessFlags := 1, nameIndex := 53, descriptorIndex := 66, attributes := #[] }] 49 4 #[] #[{ accessFlags := 18, nameIndex := 13, descriptorIndex := 14, attributes := #[] }, { accessFlags := 26, nameIndex := 75, descriptorIndex := 76, attributes := #[] }, { accessFlags := 26, nameIndex := 57, descriptorIndex := 58, attributes := #[] }])
  fields := #[{ name := "bits", type := .long, accessFlags := 18, slot := 0, constantValue := 0 }, { name := "HEX_DIGITS", type := .int, accessFlags := 26, slot := 0, constantValue := 0 }, { name := "HEX", type := (.object "java/util/HexFormat"), accessFlags := 26, slot := 1, constantValue := 0 }]
  methods := #[k3m0, k3m1, k3m2]
  instanceTypes := #[.long]
  staticTypes := #[.int, (.object "java/util/HexFormat")]
  resolved := Array.replicate 117 none
  statics := none }

def pool4 : Array CpInfo := pool [(1, .class_ 2), (0, u "java/io/Serializable"), (0, .class_ 4), (0, u "java/lang/Object")] 2

/-- java/io/Serializable -/
def k4 : Class := { plain "java/io/Serializable" (some 0) with
  accessFlags := 1537
  interfaces := #[]
  cf := some (fileOf pool4 1 #[] #[] 1537 3 #[] #[])
  fields := #[]
  methods := #[]
  instanceTypes := #[]
  staticTypes := #[]
  resolved := Array.replicate 7 none
  statics := none }

def pool5 : Array CpInfo := pool [(2, .class_ 4), (1, u "java/lang/Object"), (0, u "<init>"), (0, u "()V"), (1, .class_ 10), (1, u "java/lang/Number"), (2, .class_ 14), (0, u "java/io/Serializable"), (0, u "serialVersionUID"), (0, u "J")] 20

def k5m0 : Method := { name := "<init>", desc := "()V", sig := { parameters := [], returnType := none }, accessFlags := 1, code := none }
/-- java/lang/Number -/
def k5 : Class := { plain "java/lang/Number" (some 0) with
  accessFlags := 1057
  interfaces := #[4]
  cf := some (fileOf pool5 8 #[] #[{ accessFlags := 1, nameIndex := 5, descriptorIndex := 6, attributes := #[] }] 1057 2 #[13] #[{ accessFlags := 26, nameIndex := 15, descriptorIndex := 16, attributes := #[] }])
  fields := #[{ name := "serialVersionUID", type := .long, accessFlags := 26, slot := 0, constantValue := 0 }]
  methods := #[k5m0]
  instanceTypes := #[]
  staticTypes := #[.long]
  resolved := Array.replicate 37 none
  statics := none }

def pool6 : Array CpInfo := pool [(1, .class_ 2), (0, u "java/lang/Comparable"), (0, .class_ 4), (0, u "java/lang/Object")] 7

/-- java/lang/Comparable -/
def k6 : Class := { plain "java/lang/Comparable" (some 0) with
  accessFlags := 1537
  interfaces := #[]
  cf := some (fileOf pool6 1 #[] #[] 1537 3 #[] #[])
  fields := #[]
  methods := #[]
  instanceTypes := #[]
  staticTypes := #[]
  resolved := Array.replicate 12 none
  statics := none }

def pool7 : Array CpInfo := pool [(1, .class_ 2), (0, u "java/lang/constant/Constable"), (0, .class_ 4), (0, u "java/lang/Object")] 6

/-- java/lang/constant/Constable -/
def k7 : Class := { plain "java/lang/constant/Constable" (some 0) with
  accessFlags := 1537
  interfaces := #[]
  cf := some (fileOf pool7 1 #[] #[] 1537 3 #[] #[])
  fields := #[]
  methods := #[]
  instanceTypes := #[]
  staticTypes := #[]
  resolved := Array.replicate 11 none
  statics := none }

def pool8 : Array CpInfo := pool [(1, .class_ 2), (0, u "java/lang/constant/ConstantDesc"), (0, .class_ 4), (0, u "java/lang/Object")] 32

/-- java/lang/constant/ConstantDesc -/
def k8 : Class := { plain "java/lang/constant/ConstantDesc" (some 0) with
  accessFlags := 1537
  interfaces := #[]
  cf := some (fileOf pool8 1 #[] #[] 1537 3 #[] #[])
  fields := #[]
  methods := #[]
  instanceTypes := #[]
  staticTypes := #[]
  resolved := Array.replicate 37 none
  statics := none }

def pool9 : Array CpInfo := pool [(1, .class_ 2), (0, u "java/lang/Long"), (98, u "(J)I"), (133, .class_ 237), (1, u "java/lang/Long$LongCache"), (33, .class_ 272), (0, u "java/lang/Number"), (2, u "value"), (0, u "J"), (37, .long 6148914691236517205), (1, .long 3689348814741910323), (1, .long 1085102592571150095), (42, u "TYPE"), (0, u "Ljava/lang/Class;"), (0, .class_ 364), (0, u "java/lang/Comparable"), (0, .class_ 366), (0, u "java/lang/constant/Constable"), (0, .class_ 368), (0, u "java/lang/constant/ConstantDesc"), (0, u "MIN_VALUE"), (1, u "MAX_VALUE"), (4, u "SIZE"), (0, u "I"), (1, u "BYTES"), (1, u "serialVersionUID"), (94, u "bitCount")] 47

def k9c0 : Code := { maxStack := 6, maxLocals := 2, code := jdk_35_method_50_code, exceptionTable := #[], attributes := #[] }
def k9m0 : Method := { name := "bitCount", desc := "(J)I", sig := { parameters := [.long], returnType := some .int }, accessFlags := 9, code := some k9c0 }
/-- java/lang/Long -/
def k9 : Class := { plain "java/lang/Long" (some 5) with
  accessFlags := 49
  interfaces := #[6, 7, 8]
  cf := some (fileOf pool9 1 #[.nestMembers #[235]] #[{ accessFlags := 9, nameIndex := 476, descriptorIndex := 101, attributes := #[] }] 49 271 #[363, 365, 367] #[{ accessFlags := 25, nameIndex := 369, descriptorIndex := 276, attributes := #[] }, { accessFlags := 25, nameIndex := 371, descriptorIndex := 276, attributes := #[] }, { accessFlags := 25, nameIndex := 361, descriptorIndex := 362, attributes := #[] }, { accessFlags := 18, nameIndex := 275, descriptorIndex := 276, attributes := #[] }, { accessFlags := 25, nameIndex := 376, descriptorIndex := 377, attributes := #[] }, { accessFlags := 25, nameIndex := 379, descriptorIndex := 377, attributes := #[] }, { accessFlags := 26, nameIndex := 381, descriptorIndex := 276, attributes := #[] }])
  fields := #[{ name := "MIN_VALUE", type := .long, accessFlags := 25, slot := 0, constantValue := 0 }, { name := "MAX_VALUE", type := .long, accessFlags := 25, slot := 1, constantValue := 0 }, { name := "TYPE", type := (.object "java/lang/Class"), accessFlags := 25, slot := 2, constantValue := 0 }, { name := "value", type := .long, accessFlags := 18, slot := 0, constantValue := 0 }, { name := "SIZE", type := .int, accessFlags := 25, slot := 3, constantValue := 0 }, { name := "BYTES", type := .int, accessFlags := 25, slot := 4, constantValue := 0 }, { name := "serialVersionUID", type := .long, accessFlags := 26, slot := 5, constantValue := 0 }]
  methods := #[k9m0]
  instanceTypes := #[.long]
  staticTypes := #[.long, .long, (.object "java/lang/Class"), .int, .int, .long]
  resolved := Array.replicate 524 none
  statics := none }

def pool10 : Array CpInfo := pool [(1, u "java/lang/Cloneable"), (0, .class_ 1), (0, u "java/lang/Object"), (0, .class_ 3)] 3

/-- java/lang/Cloneable -/
def k10 : Class := { plain "java/lang/Cloneable" (some 0) with
  accessFlags := 1537
  interfaces := #[]
  cf := some (fileOf pool10 2 #[] #[] 1537 4 #[] #[])
  fields := #[]
  methods := #[]
  instanceTypes := #[]
  staticTypes := #[]
  resolved := Array.replicate 8 none
  statics := none }

/-- the primitive byte -/
def k11 : Class := { plain "byte" none with kind := .primitive 'B', accessFlags := 0x411 }
/-- [B -/
def k12 : Class := { plain "[B" (some 0) with kind := .array 11 .byte, interfaces := #[10, 4], accessFlags := 1041 }

/-- the primitive int -/
def k13 : Class := { plain "int" none with kind := .primitive 'I', accessFlags := 0x411 }
/-- [I -/
def k14 : Class := { plain "[I" (some 0) with kind := .array 13 .int, interfaces := #[10, 4], accessFlags := 1041 }

def heap : Heap := #[]
def classes : Array Class := #[k0, k1, k2, k3, k4, k5, k6, k7, k8, k9, k10, k11, k12, k13, k14]
def interned : List (Array UInt16 × Addr) := []
def slotsUsed : Nat := 0
def theMethod : MethodId := ⟨1, 2⟩
def args0 : Array Value := #[.long 5, .long 300]
def aboutOver (below : List Frame) : State where
  vm := { classes := classes, interned := interned.toArray }
  heap := heap
  slotsUsed := slotsUsed
  threads := #[{ frames := .invoking theMethod args0 :: below }]
def below0 : List Frame := [.native { method := ⟨0, 0⟩, args := #[] }]
def about1 : State := aboutOver below0
def p0 : Program := .bare "" "" ""
def e0 : Env := launch0.env 0 0 0
theorem w_frames : about1.frames = Frame.invoking theMethod args0 :: below0 := rfl
set_option maxRecDepth 65536 in
theorem w_args : argsFit about1.vm theMethod args0 = true := by decide +kernel
set_option maxRecDepth 65536 in
theorem w_heap : heapFits about1 = true := by decide +kernel
set_option maxRecDepth 65536 in
theorem w_runnable : about1.curStatus? = some .runnable := by decide +kernel
set_option maxRecDepth 65536 in
theorem w_alone : about1.alone = true := by decide +kernel
set_option maxRecDepth 65536 in
theorem w_named : about1.methodNamed? x = some theMethod := by decide +kernel
set_option maxRecDepth 65536 in
theorem w_hears : about1.hears theMethod below0 = true := by decide +kernel
set_option maxRecDepth 65536 in
theorem w_ripe : about1.ripe theMethod args0 below0 = true := by decide +kernel
theorem w_running : about1.status = .running := rfl
set_option maxRecDepth 65536 in
theorem w_room : about1.hasRoom e0.platform room_1 = true :=
  launch0.hasRoom_least _ room_1 (by decide +kernel) (by decide +kernel) (by decide +kernel) (by decide +kernel) (by decide +kernel) (by decide +kernel)
theorem allAtoms_all (ts : List Jvm.Cond) (a : Array Jvm.Value) (st : Jvm.State) : (allAtoms ts).before a st = ts.all (fun c => c.before a st) := by
  induction ts with
  | nil => rfl
  | cons c t ih =>
    show (Jvm.Cond.and c (allAtoms t)).before a st = _
    rw [Jvm.Cond.before_and, ih, List.all_cons]
def words1 : List Jvm.Cond := Jvm.Cond.code x code maxLocals ret :: tables_1
/-- a 'code' word, met by the world's own term for the bytes: nothing is compared byte by byte -/
theorem code_word {y : MethodName} {bytes : ByteArray} {mx : Nat} {rt : Option FieldType} {a : Array Value} {s : State} {m : MethodId} {meth : Method} {c : Code} (h1 : s.methodNamed? y = some m) (h2 : s.vm.method? m = some meth) (h3 : meth.code = some c) (h4 : c.code = bytes)
    (h5 : (c.maxLocals == mx && c.exceptionTable.isEmpty && decide (c.maxStack ≤ mostOperands) && decide (meth.sig.returnType = rt) && !meth.locks && decide (parseMethodDescriptor y.desc = some meth.sig)) = true) : (Jvm.Cond.code y bytes mx rt).before a s = true := by
  simp only [Bool.and_eq_true, beq_iff_eq, Bool.not_eq_true', decide_eq_true_eq] at h5
  obtain ⟨⟨⟨⟨⟨g1, g2⟩, g3⟩, g4⟩, g5⟩, g6⟩ := h5
  simp [Cond.before, Cond.holds, Cond.value, h1, h2, h3, h4, g1, g2, g3, g4, g5, g6]
def isCode : Jvm.Cond → Bool
  | .code _ _ _ _ => true
  | _ => false
theorem all_split {L : List Jvm.Cond} {P : Jvm.Cond → Bool} (h1 : L.all (fun c => isCode c || P c) = true) (h2 : ∀ c ∈ L.filter isCode, P c = true) : L.all P = true := by
  refine List.all_eq_true.mpr fun c hc => ?_
  have h := List.all_eq_true.mp h1 c hc
  rcases Bool.eq_false_or_eq_true (isCode c) with hi | hi
  · exact h2 c (List.mem_filter.mpr ⟨hc, hi⟩)
  · simpa [hi] using h
set_option maxRecDepth 65536 in
theorem w_c0 : (Jvm.Cond.code x code maxLocals ret).before args0 about1 = true := code_word (m := ⟨1, 2⟩) (meth := k1m2) (c := k1c2) (by decide +kernel) rfl rfl rfl (by decide +kernel)
set_option maxRecDepth 65536 in
theorem w_c1 : (Jvm.Cond.code ({ cls := "com/example/weighted_fingerprint/weightedfingerprint/Fingerprint", name := "<init>", desc := "(J)V" } : Jvm.MethodName) prog_7_method_1_code (3 : Nat) (Option.none : Option Jvm.ClassFile.FieldType)).before args0 about1 = true := code_word (m := ⟨3, 0⟩) (meth := k3m0) (c := k3c0) (by decide +kernel) rfl rfl rfl (by decide +kernel)
set_option maxRecDepth 65536 in
theorem w_c2 : (Jvm.Cond.code ({ cls := "java/lang/Record", name := "<init>", desc := "()V" } : Jvm.MethodName) jdk_30_method_1_code (1 : Nat) (Option.none : Option Jvm.ClassFile.FieldType)).before args0 about1 = true := code_word (m := ⟨2, 0⟩) (meth := k2m0) (c := k2c0) (by decide +kernel) rfl rfl rfl (by decide +kernel)
set_option maxRecDepth 65536 in
theorem w_c3 : (Jvm.Cond.code ({ cls := "java/lang/Object", name := "<init>", desc := "()V" } : Jvm.MethodName) object_method_1_code (1 : Nat) (Option.none : Option Jvm.ClassFile.FieldType)).before args0 about1 = true := code_word (m := ⟨0, 0⟩) (meth := k0m0) (c := k0c0) (by decide +kernel) rfl rfl rfl (by decide +kernel)
set_option maxRecDepth 65536 in
theorem w_c4 : (Jvm.Cond.code ({ cls := "com/example/weighted_fingerprint/weightedfingerprint/Fingerprint", name := "distance", desc := "(Lcom/example/weighted_fingerprint/weightedfingerprint/Fingerprint;)I" } : Jvm.MethodName) prog_7_method_4_code (2 : Nat) (Option.some Jvm.ClassFile.FieldType.int)).before args0 about1 = true := code_word (m := ⟨3, 2⟩) (meth := k3m2) (c := k3c2) (by decide +kernel) rfl rfl rfl (by decide +kernel)
set_option maxRecDepth 65536 in
theorem w_c5 : (Jvm.Cond.code ({ cls := "com/example/weighted_fingerprint/weightedfingerprint/Fingerprint", name := "distance", desc := "(JJ)I" } : Jvm.MethodName) prog_7_method_3_code (4 : Nat) (Option.some Jvm.ClassFile.FieldType.int)).before args0 about1 = true := code_word (m := ⟨3, 1⟩) (meth := k3m1) (c := k3c1) (by decide +kernel) rfl rfl rfl (by decide +kernel)
set_option maxRecDepth 65536 in
theorem w_c6 : (Jvm.Cond.code ({ cls := "java/lang/Long", name := "bitCount", desc := "(J)I" } : Jvm.MethodName) jdk_35_method_50_code (2 : Nat) (Option.some Jvm.ClassFile.FieldType.int)).before args0 about1 = true := code_word (m := ⟨9, 0⟩) (meth := k9m0) (c := k9c0) (by decide +kernel) rfl rfl rfl (by decide +kernel)
set_option maxRecDepth 65536 in
theorem w_c7 : (Jvm.Cond.code ({ cls := "com/example/weighted_fingerprint/weightedfingerprint/FingerprintDistancePinLaw", name := "popcount", desc := "(J)I" } : Jvm.MethodName) method_2_code (4 : Nat) (Option.some Jvm.ClassFile.FieldType.int)).before args0 about1 = true := code_word (m := ⟨1, 1⟩) (meth := k1m1) (c := k1c1) (by decide +kernel) rfl rfl rfl (by decide +kernel)
def codes1 : List Jvm.Cond := [Jvm.Cond.code x code maxLocals ret, Jvm.Cond.code ({ cls := "com/example/weighted_fingerprint/weightedfingerprint/Fingerprint", name := "<init>", desc := "(J)V" } : Jvm.MethodName) prog_7_method_1_code (3 : Nat) (Option.none : Option Jvm.ClassFile.FieldType), Jvm.Cond.code ({ cls := "java/lang/Record", name := "<init>", desc := "()V" } : Jvm.MethodName) jdk_30_method_1_code (1 : Nat) (Option.none : Option Jvm.ClassFile.FieldType), Jvm.Cond.code ({ cls := "java/lang/Object", name := "<init>", desc := "()V" } : Jvm.MethodName) object_method_1_code (1 : Nat) (Option.none : Option Jvm.ClassFile.FieldType), Jvm.Cond.code ({ cls := "com/example/weighted_fingerprint/weightedfingerprint/Fingerprint", name := "distance", desc := "(Lcom/example/weighted_fingerprint/weightedfingerprint/Fingerprint;)I" } : Jvm.MethodName) prog_7_method_4_code (2 : Nat) (Option.some Jvm.ClassFile.FieldType.int), Jvm.Cond.code ({ cls := "com/example/weighted_fingerprint/weightedfingerprint/Fingerprint", name := "distance", desc := "(JJ)I" } : Jvm.MethodName) prog_7_method_3_code (4 : Nat) (Option.some Jvm.ClassFile.FieldType.int), Jvm.Cond.code ({ cls := "java/lang/Long", name := "bitCount", desc := "(J)I" } : Jvm.MethodName) jdk_35_method_50_code (2 : Nat) (Option.some Jvm.ClassFile.FieldType.int), Jvm.Cond.code ({ cls := "com/example/weighted_fingerprint/weightedfingerprint/FingerprintDistancePinLaw", name := "popcount", desc := "(J)I" } : Jvm.MethodName) method_2_code (4 : Nat) (Option.some Jvm.ClassFile.FieldType.int)]
set_option maxRecDepth 65536 in
theorem codes_eq : words1.filter isCode = codes1 := rfl
theorem w_codes : ∀ c ∈ words1.filter isCode, c.before args0 about1 = true := by
  rw [codes_eq]
  intro c hc
  simp only [codes1, List.mem_cons, List.not_mem_nil, or_false] at hc
  rcases hc with rfl | rfl | rfl | rfl | rfl | rfl | rfl | rfl
  · exact w_c0
  · exact w_c1
  · exact w_c2
  · exact w_c3
  · exact w_c4
  · exact w_c5
  · exact w_c6
  · exact w_c7
set_option maxRecDepth 65536 in
theorem w_t1 : (words1.take 24).all (fun c => isCode c || c.before args0 about1) = true := by decide +kernel
set_option maxRecDepth 65536 in
theorem w_t2 : (words1.drop 24).all (fun c => isCode c || c.before args0 about1) = true := by decide +kernel
theorem w_tables : (allAtoms (Jvm.Cond.code x code maxLocals ret :: tables_1)).before args0 about1 = true := by
  rw [allAtoms_all]
  show words1.all (fun c => c.before args0 about1) = true
  refine all_split ?_ w_codes
  rw [← List.take_append_drop 24 words1, List.all_append, w_t1, w_t2]
  rfl
set_option maxRecDepth 65536 in
theorem w_case : (Jvm.Cond.and given_1 narrow_1).before args0 about1 = true := by decide +kernel
theorem w_applies : (headSpec (Jvm.Cond.code x code maxLocals ret :: tables_1) room_1).applies x e0.platform about1 = true :=
  (Spec.applies_iff w_frames).mpr ⟨w_running, w_runnable, w_alone, w_named, w_hears, w_ripe, w_room, w_tables⟩
theorem atStart : AtStart classFile x code maxLocals ret World_1 tables_1 room_1 Calls_1 rest_1 Pre_1 launch0 p0 e0 about1 theMethod args0 below0 :=
  ⟨lists_1, trivial, launch0.admits_env _ _ _, launch0.least_env, fairChoices_fair.cas, fairChoices_fair.clock, w_frames, w_args, w_heap, w_applies, trivial, trivial, w_case⟩
end start1
theorem witness_1 : WitnessClaimed_1 := ⟨start1.p0, start1.e0, start1.about1, start1.theMethod, start1.args0, start1.below0, start1.atStart⟩
end Jvm.Pilot.@@N@@
