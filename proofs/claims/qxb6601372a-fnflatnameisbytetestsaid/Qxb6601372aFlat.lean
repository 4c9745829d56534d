import Derived.Test.Qxb6601372aBase
import Derived.Test.Qxb6601372aSwar
import Derived.Deep.QuietTactic
import Derived.BigQuiet
namespace Go.Proofs.Qxb6601372a
open Go.RowKit

def byt (s : ByteArray) (i : Nat) : Nat := if h : i < s.size then s[i].toNat else 0
theorem byt_lt (s : ByteArray) (i : Nat) : byt s i < 256 := by
  unfold byt; split
  · exact UInt8.toNat_lt _
  · omega
theorem byt_eq (s : ByteArray) (i : Nat) (h : i < s.size) : byt s i = s[i].toNat := by unfold byt; rw [dif_pos h]
theorem byt_cut (s : ByteArray) (i n k : Nat) (h : i + n ≤ s.size) (hk : k < n) (hx : k < (s.extract i (i + n)).size) : ((s.extract i (i + n))[k]'hx).toNat = byt s (i + k) := by
  rw [byt_eq s (i + k) (by omega)]
  rw [ByteArray.getElem_extract]

def wordN (s : ByteArray) : Nat → Nat → Nat
  | _, 0 => 0
  | i, k + 1 => byt s i + 256 * wordN s (i + 1) k
theorem wordN_lt (s : ByteArray) : ∀ (k i : Nat), wordN s i k < 256 ^ k
  | 0, i => by simp [wordN]
  | k + 1, i => by
    have := wordN_lt s k (i + 1); have := byt_lt s i
    rw [wordN, Nat.pow_succ]; omega
theorem wordN_byte (s : ByteArray) : ∀ (k i j : Nat), j < k → wordN s i k / 256 ^ j % 256 = byt s (i + j)
  | 0, _, _, h => by omega
  | k + 1, i, 0, _ => by have := byt_lt s i; rw [wordN]; simp; omega
  | k + 1, i, j + 1, h => by
    have hb := byt_lt s i
    have ih := wordN_byte s k (i + 1) j (by omega)
    rw [wordN, Nat.pow_succ', ← Nat.div_div_eq_div_mul, show (byt s i + 256 * wordN s (i + 1) k) / 256 = wordN s (i + 1) k from by omega, ih]
    rw [show i + 1 + j = i + (j + 1) from by omega]

theorem or_join64 (j y x : Nat) (hj : j ≤ 64) (hy : y < 2 ^ j) (hx : x % 2 ^ j = 0) (hx2 : x < 18446744073709551616) : bits .or .u64 (y : Int) (x : Int) = ((y + x : Nat) : Int) := by
  have hy2 : y < 18446744073709551616 := Nat.lt_of_lt_of_le hy (Nat.pow_le_pow_right (by omega) hj)
  rw [u64_or_nat _ _ hy2 hx2, Nat.or_comm, nat_join j x y hx hy, Nat.add_comm]
theorem or_join32 (j y x : Nat) (hj : j ≤ 32) (hy : y < 2 ^ j) (hx : x % 2 ^ j = 0) (hx2 : x < 4294967296) : bits .or .u32 (y : Int) (x : Int) = ((y + x : Nat) : Int) := by
  have hy2 : y < 4294967296 := Nat.lt_of_lt_of_le hy (Nat.pow_le_pow_right (by omega) hj)
  rw [u32_or_nat _ _ hy2 hx2, Nat.or_comm, nat_join j x y hx hy, Nat.add_comm]
theorem sh64 (b m : Nat) (h : b < 18446744073709551616) (h2 : b * m < 18446744073709551616) : IntKind.u64.wrap (IntKind.u64.wrap (b : Int) * (m : Int)) = ((b * m : Nat) : Int) := by
  rw [IntKind.wrap_u64, IntKind.wrap_u64, show (b : Int) % 18446744073709551616 = (b : Int) from by omega, ← Int.natCast_mul]; omega
theorem sh32 (b m : Nat) (h : b < 4294967296) (h2 : b * m < 4294967296) : IntKind.u32.wrap (IntKind.u32.wrap (b : Int) * (m : Int)) = ((b * m : Nat) : Int) := by
  rw [IntKind.wrap_u32', IntKind.wrap_u32', show (b : Int) % 4294967296 = (b : Int) from by omega, ← Int.natCast_mul]; omega
theorem wr64 (b : Nat) (h : b < 18446744073709551616) : IntKind.u64.wrap (b : Int) = (b : Int) := by rw [IntKind.wrap_u64]; omega
theorem wr32 (b : Nat) (h : b < 4294967296) : IntKind.u32.wrap (b : Int) = (b : Int) := by rw [IntKind.wrap_u32']; omega

theorem chain8 (b0 b1 b2 b3 b4 b5 b6 b7 : Nat) (h0 : b0 < 256) (h1 : b1 < 256) (h2 : b2 < 256) (h3 : b3 < 256) (h4 : b4 < 256) (h5 : b5 < 256) (h6 : b6 < 256) (h7 : b7 < 256) :
    bits .or .u64 (bits .or .u64 (bits .or .u64 (bits .or .u64 (bits .or .u64 (bits .or .u64 (bits .or .u64 (IntKind.u64.wrap (b0 : Int)) (IntKind.u64.wrap (IntKind.u64.wrap (b1 : Int) * 256)))
      (IntKind.u64.wrap (IntKind.u64.wrap (b2 : Int) * 65536))) (IntKind.u64.wrap (IntKind.u64.wrap (b3 : Int) * 16777216))) (IntKind.u64.wrap (IntKind.u64.wrap (b4 : Int) * 4294967296)))
      (IntKind.u64.wrap (IntKind.u64.wrap (b5 : Int) * 1099511627776))) (IntKind.u64.wrap (IntKind.u64.wrap (b6 : Int) * 281474976710656))) (IntKind.u64.wrap (IntKind.u64.wrap (b7 : Int) * 72057594037927936))
    = ((b0 + 256 * (b1 + 256 * (b2 + 256 * (b3 + 256 * (b4 + 256 * (b5 + 256 * (b6 + 256 * (b7 + 256 * 0))))))) : Nat) : Int) := by
  rw [wr64 b0 (by omega)]
  have e1 := sh64 b1 256 (by omega) (by omega)
  have e2 := sh64 b2 65536 (by omega) (by omega)
  have e3 := sh64 b3 16777216 (by omega) (by omega)
  have e4 := sh64 b4 4294967296 (by omega) (by omega)
  have e5 := sh64 b5 1099511627776 (by omega) (by omega)
  have e6 := sh64 b6 281474976710656 (by omega) (by omega)
  have e7 := sh64 b7 72057594037927936 (by omega) (by omega)
  simp only [Int.cast_ofNat_Int] at e1 e2 e3 e4 e5 e6 e7
  rw [e1, e2, e3, e4, e5, e6, e7]
  rw [or_join64 8 _ _ (by omega) (by omega) (by omega) (by omega), or_join64 16 _ _ (by omega) (by omega) (by omega) (by omega), or_join64 24 _ _ (by omega) (by omega) (by omega) (by omega),
    or_join64 32 _ _ (by omega) (by omega) (by omega) (by omega), or_join64 40 _ _ (by omega) (by omega) (by omega) (by omega), or_join64 48 _ _ (by omega) (by omega) (by omega) (by omega), or_join64 56 _ _ (by omega) (by omega) (by omega) (by omega)]
  omega
theorem chain4 (b0 b1 b2 b3 : Nat) (h0 : b0 < 256) (h1 : b1 < 256) (h2 : b2 < 256) (h3 : b3 < 256) :
    bits .or .u32 (bits .or .u32 (bits .or .u32 (IntKind.u32.wrap (b0 : Int)) (IntKind.u32.wrap (IntKind.u32.wrap (b1 : Int) * 256)))
      (IntKind.u32.wrap (IntKind.u32.wrap (b2 : Int) * 65536))) (IntKind.u32.wrap (IntKind.u32.wrap (b3 : Int) * 16777216))
    = ((b0 + 256 * (b1 + 256 * (b2 + 256 * (b3 + 256 * 0))) : Nat) : Int) := by
  rw [wr32 b0 (by omega)]
  have e1 := sh32 b1 256 (by omega) (by omega)
  have e2 := sh32 b2 65536 (by omega) (by omega)
  have e3 := sh32 b3 16777216 (by omega) (by omega)
  simp only [Int.cast_ofNat_Int] at e1 e2 e3
  rw [e1, e2, e3]
  rw [or_join32 8 _ _ (by omega) (by omega) (by omega) (by omega), or_join32 16 _ _ (by omega) (by omega) (by omega) (by omega), or_join32 24 _ _ (by omega) (by omega) (by omega) (by omega)]
  omega

theorem chain4' (b0 b1 b2 b3 : Nat) (h0 : b0 < 256) (h1 : b1 < 256) (h2 : b2 < 256) (h3 : b3 < 256) :
    bits .or .u32 (bits .or .u32 (bits .or .u32 ((b0 : Int) % 4294967296) ((b1 : Int) % 4294967296 * 256 % 4294967296)) ((b2 : Int) % 4294967296 * 65536 % 4294967296)) ((b3 : Int) % 4294967296 * 16777216 % 4294967296)
    = ((b0 + 256 * (b1 + 256 * (b2 + 256 * (b3 + 256 * 0))) : Nat) : Int) := by
  have h := chain4 b0 b1 b2 b3 h0 h1 h2 h3
  simp only [IntKind.wrap_u32'] at h
  exact h

theorem off_walk (v : Nat) (hv : v < 18446744073709551616) :
    (bits .and .u64 (bits .or .u64 (bits .or .u64 (bits .andNot .u64 (IntKind.u64.wrap ((v : Int) - 2387225703656530209)) (v : Int)) (bits .or .u64 (IntKind.u64.wrap ((v : Int) + 72340172838076673)) (v : Int)))
      (bits .andNot .u64 (IntKind.u64.wrap (bits .xor .u64 (v : Int) 3399988123389603631 - 72340172838076673)) (bits .xor .u64 (v : Int) 3399988123389603631))) 9259542123273814144 != 0) = offW v := by
  have ex : bits .xor .u64 (v : Int) 3399988123389603631 = ((v ^^^ 3399988123389603631 : Nat) : Int) := u64_xor_nat v 3399988123389603631 hv (by decide)
  have hx : (v ^^^ 3399988123389603631) < 18446744073709551616 := Nat.xor_lt_two_pow (n := 64) hv (by decide)
  have e1 : IntKind.u64.wrap ((v : Int) - 2387225703656530209) = (((v + 16059518370053021407) % 18446744073709551616 : Nat) : Int) := wrap_sub_u64_nat v 2387225703656530209 16059518370053021407 (by decide)
  have e2 : IntKind.u64.wrap ((v : Int) + 72340172838076673) = (((v + 72340172838076673) % 18446744073709551616 : Nat) : Int) := by rw [IntKind.wrap_u64]; omega
  have e3 := wrap_sub_u64_nat (v ^^^ 3399988123389603631) 72340172838076673 18374403900871474943 (by decide)
  simp only [Int.cast_ofNat_Int] at e3
  rw [ex, e1, e2, e3]
  unfold offW
  generalize (v ^^^ 3399988123389603631) = x at *
  have m1 : (v + 16059518370053021407) % 18446744073709551616 < 18446744073709551616 := Nat.mod_lt _ (by decide)
  have m2 : (v + 72340172838076673) % 18446744073709551616 < 18446744073709551616 := Nat.mod_lt _ (by decide)
  have m3 : (x + 18374403900871474943) % 18446744073709551616 < 18446744073709551616 := Nat.mod_lt _ (by decide)
  generalize (v + 16059518370053021407) % 18446744073709551616 = A at *
  generalize (v + 72340172838076673) % 18446744073709551616 = B at *
  generalize (x + 18374403900871474943) % 18446744073709551616 = C at *
  have l1 : (A &&& (18446744073709551615 - v)) < 18446744073709551616 := Nat.lt_of_le_of_lt Nat.and_le_left m1
  have l3 : (C &&& (18446744073709551615 - x)) < 18446744073709551616 := Nat.lt_of_le_of_lt Nat.and_le_left m3
  have l2 : (B ||| v) < 18446744073709551616 := Nat.or_lt_two_pow (n := 64) m2 hv
  rw [u64_andNot_nat _ _ m1 hv, u64_or_nat _ _ m2 hv, u64_or_nat _ _ l1 l2, u64_andNot_nat _ _ m3 hx]
  have l4 : ((A &&& (18446744073709551615 - v)) ||| (B ||| v)) < 18446744073709551616 := Nat.or_lt_two_pow (n := 64) l1 l2
  rw [u64_or_nat _ _ l4 l3]
  have l5 : ((A &&& (18446744073709551615 - v)) ||| (B ||| v) ||| (C &&& (18446744073709551615 - x))) < 18446744073709551616 := Nat.or_lt_two_pow (n := 64) l4 l3
  have e4 := u64_and_nat _ 9259542123273814144 l5 (by decide)
  simp only [Int.cast_ofNat_Int] at e4
  rw [e4]
  generalize (((A &&& (18446744073709551615 - v)) ||| (B ||| v) ||| (C &&& (18446744073709551615 - x))) &&& 9259542123273814144) = N
  rw [Bool.eq_iff_iff, bne_iff_ne, bne_iff_ne]
  omega

def ValQ (v : Value) (w : World) (e : Ending) (w' : World) : Prop := e = .returned v ∧ Below w.heap.size w w'
theorem ret_int {k : IntKind} {a b : Int} (h : a = b) : Ending.returned (.int k a) = .returned (.int k b) := by rw [h]

set_option maxRecDepth 100000 in
set_option maxHeartbeats 4000000 in
theorem word64 (s : ByteArray) (i : Nat) (w : World) (hi : i + 8 ≤ s.size) (hs : s.size ≤ 1048576) :
    Calls Try.prog 35 #[.string s, .int .i64 (i : Int)] w (ValQ (.int .u64 (wordN s i 8 : Nat)) w) := by
  have hsz : (s.extract i (i + 8)).size = 8 := by simp; omega
  go_enter Try.func35, Try.ntmps35
  go_wp2
  go_quiet (fail)
  go_wp2
  go_ret
  refine ⟨ret_int ?_, ⟨rfl, rfl, rfl, Nat.le_refl _, fun _ _ => rfl⟩⟩
  rw [chain8 _ _ _ _ _ _ _ _ (UInt8.toNat_lt _) (UInt8.toNat_lt _) (UInt8.toNat_lt _) (UInt8.toNat_lt _) (UInt8.toNat_lt _) (UInt8.toNat_lt _) (UInt8.toNat_lt _) (UInt8.toNat_lt _)]
  rw [byt_cut s i 8 0 hi (by omega), byt_cut s i 8 1 hi (by omega), byt_cut s i 8 2 hi (by omega), byt_cut s i 8 3 hi (by omega), byt_cut s i 8 4 hi (by omega), byt_cut s i 8 5 hi (by omega), byt_cut s i 8 6 hi (by omega), byt_cut s i 8 7 hi (by omega)]
  rfl
set_option maxRecDepth 100000 in
set_option maxHeartbeats 4000000 in
theorem word32 (s : ByteArray) (i : Nat) (w : World) (hi : i + 4 ≤ s.size) (hs : s.size ≤ 1048576) :
    Calls Try.prog 34 #[.string s, .int .i64 (i : Int)] w (ValQ (.int .u32 (wordN s i 4 : Nat)) w) := by
  have hsz : (s.extract i (i + 4)).size = 4 := by simp; omega
  go_enter Try.func34, Try.ntmps34
  go_wp2
  go_quiet (fail)
  go_wp2
  go_ret
  refine ⟨ret_int ?_, ⟨rfl, rfl, rfl, Nat.le_refl _, fun _ _ => rfl⟩⟩
  rw [chain4' _ _ _ _ (UInt8.toNat_lt _) (UInt8.toNat_lt _) (UInt8.toNat_lt _) (UInt8.toNat_lt _)]
  rw [byt_cut s i 4 0 hi (by omega), byt_cut s i 4 1 hi (by omega), byt_cut s i 4 2 hi (by omega), byt_cut s i 4 3 hi (by omega)]
  rfl

theorem bytesOff (v : Nat) (w : World) (hv : v < 18446744073709551616) : Calls Try.prog 33 #[.int .u64 (v : Int)] w (ValQ (.bool (offW v)) w) := by
  go_enter Try.func33, Try.ntmps33
  go_wp2
  go_ret
  exact ⟨by rw [← off_walk v hv]; rfl, Below.refl _ _⟩
end Go.Proofs.Qxb6601372a
