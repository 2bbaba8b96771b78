import Derived.Test.Qxb6604517aDoorNetFrom
namespace Go.Proofs.Qxb6604517aDoor
open Go.RowKit

theorem or_comm64 (x y : Int) (h0 : 0 ≤ x) (h1 : x < 18446744073709551616) (g0 : 0 ≤ y) (g1 : y < 18446744073709551616) : bits .or .u64 x y = bits .or .u64 y x := by
  rw [u64_or x y h0 h1 g0 g1, u64_or y x g0 g1 h0 h1, Nat.or_comm]
theorem or_lo32 (x y : Int) (hy₀ : 0 ≤ y) (hy : y < 4294967296) (hx₀ : 0 ≤ x) (hx : x % 4294967296 = 0) (hx₁ : x < 18446744073709551616) : bits .or .u64 x y = x + y := by
  rw [or_comm64 x y hx₀ hx₁ hy₀ (by omega), u64_or32 _ _ hy₀ hy hx₀ hx hx₁]; omega
theorem or_lo24 (x y : Int) (hy₀ : 0 ≤ y) (hy : y < 16777216) (hx₀ : 0 ≤ x) (hx : x % 16777216 = 0) (hx₁ : x < 18446744073709551616) : bits .or .u64 x y = x + y := by
  rw [or_comm64 x y hx₀ hx₁ hy₀ (by omega), u64_or24 _ _ hy₀ hy hx₀ hx hx₁]; omega
theorem or_lo16 (x y : Int) (hy₀ : 0 ≤ y) (hy : y < 65536) (hx₀ : 0 ≤ x) (hx : x % 65536 = 0) (hx₁ : x < 18446744073709551616) : bits .or .u64 x y = x + y := by
  rw [or_comm64 x y hx₀ hx₁ hy₀ (by omega), u64_or16 _ _ hy₀ hy hx₀ hx hx₁]; omega
theorem or_lo8 (x y : Int) (hy₀ : 0 ≤ y) (hy : y < 256) (hx₀ : 0 ≤ x) (hx : x % 256 = 0) (hx₁ : x < 18446744073709551616) : bits .or .u64 x y = x + y := by
  rw [or_comm64 x y hx₀ hx₁ hy₀ (by omega), u64_or8 _ _ hy₀ hy hx₀ hx hx₁]; omega

/-- The low half of an IPv4 address. -/
def lo4 (p q r s : UInt8) : Int := 281470681743360 + (p.toNat : Int) * 16777216 + (q.toNat : Int) * 65536 + (r.toNat : Int) * 256 + (s.toNat : Int)

theorem or4 (p q r s : UInt8) : bits .or .u64 (bits .or .u64 (bits .or .u64 (bits .or .u64 281470681743360 ((p.toNat : Int) * 16777216)) ((q.toNat : Int) * 65536)) ((r.toNat : Int) * 256)) (s.toNat : Int) = lo4 p q r s := by
  have hp := p.toNat_lt
  have hq := q.toNat_lt
  have hr := r.toNat_lt
  have hs := s.toNat_lt
  rw [or_lo32 281470681743360 ((p.toNat : Int) * 16777216) (by omega) (by omega) (by omega) (by omega) (by omega)]
  rw [or_lo24 _ ((q.toNat : Int) * 65536) (by omega) (by omega) (by omega) (by omega) (by omega)]
  rw [or_lo16 _ ((r.toNat : Int) * 256) (by omega) (by omega) (by omega) (by omega) (by omega)]
  rw [or_lo8 _ (s.toNat : Int) (by omega) (by omega) (by omega) (by omega) (by omega)]
  rfl

set_option maxHeartbeats 1600000 in
theorem from4_any (B : Nat) (a4 a6 : Addr) (p q r s : UInt8) (w : World) (hz : Zs B w a4 a6) :
    Calls Tryd.prog 33 #[.agg #[.int .u8 (p.toNat : Int), .int .u8 (q.toNat : Int), .int .u8 (r.toNat : Int), .int .u8 (s.toNat : Int)]] w fun e w' => e = .returned (.agg #[.int .u64 0, .int .u64 (lo4 p q r s), .pointer (some a4)]) ∧ Below w.heap.size w w' := by
  have hp := p.toNat_lt
  have hq := q.toNat_lt
  have hr := r.toNat_lt
  have hs := s.toNat_lt
  have c4 := hz.c4
  obtain ⟨l0, l1, l2⟩ := hz.lt
  have l1' : 1 < w.heap.size + 1 := by omega
  have HO := Lib.hid (or4 p q r s)
  clear hz
  go_enter Tryd.func33, Tryd.ntmps33
  go_wp2
  rw [HO.out]
  refine bodyPost_ret (v := .agg #[.int .u64 0, .int .u64 (lo4 p q r s), .pointer (some a4)]) (by simp [results, Tryd.results33, go_sem]) rfl ⟨rfl, ?_⟩
  repeat (first | exact Below.refl _ _ | refine Below.setCell ?_ (by simp) _ | refine Below.alloc ?_ (by simp) _ | refine Below.drew ?_ | refine below_drewN ?_ _)
end Go.Proofs.Qxb6604517aDoor
