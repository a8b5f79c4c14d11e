/-
  bits.Mul64, slot, next: contracts.
-/
import Derived.Test.YbulkbpssProg
import Derived.WalkKit
import Derived.WalkLawsBesides
import Derived.Below
import Derived.Lib.Mul64
import Derived.Laws.Bits64b
import Derived.OpenShut
namespace Go.Proofs.Ybulkbpss
open Go.RowKit Go.Lib
set_option linter.unusedVariables false

theorem maskN (a : Nat) (ha : a < 18446744073709551616) : bits .and .u64 (a : Int) 4294967295 = ((a % 4294967296 : Nat) : Int) := by
  have h := bits_and_u64_nat a 4294967295 ha (by omega)
  have e : a &&& 4294967295 = a % 4294967296 := Nat.and_two_pow_sub_one_eq_mod a 32
  rw [e] at h
  exact h
theorem divN (a : Nat) : (a : Int) / 4294967296 = ((a / 4294967296 : Nat) : Int) := by omega
theorem mulN (a b : Nat) : (a : Int) * (b : Int) = ((a * b : Nat) : Int) := (Int.natCast_mul a b).symm
theorem addN (a b : Nat) : (a : Int) + (b : Int) = ((a + b : Nat) : Int) := (Int.natCast_add a b).symm
theorem wrapN (a : Nat) (ha : a < 18446744073709551616) : IntKind.u64.wrap (a : Int) = (a : Int) := by rw [IntKind.wrap_u64]; omega
theorem wrapM (a : Nat) : IntKind.u64.wrap (a : Int) = ((a % 18446744073709551616 : Nat) : Int) := by rw [IntKind.wrap_u64]; omega

set_option maxHeartbeats 1000000 in
theorem mul64_any (x y : Nat) (hx : x < 18446744073709551616) (hy : y < 18446744073709551616) (w : World) :
    Calls Yba.prog 9 #[.int .u64 x, .int .u64 y] w fun e w' => e = .returned (.tuple #[.int .u64 ((x * y / 18446744073709551616 : Nat) : Int), .int .u64 ((x * y % 18446744073709551616 : Nat) : Int)]) ∧ w' = w := by
  obtain ⟨bd, bt, bw, hhi⟩ := Lib.mul64_hi x y hx hy
  have ba := Lib.half_mul_le (a := x / 4294967296) (b := y / 4294967296) (by omega) (by omega)
  have bb := Lib.half_mul_le (a := x / 4294967296) (b := y % 4294967296) (by omega) (by omega)
  have bc := Lib.half_mul_le (a := x % 4294967296) (b := y / 4294967296) (by omega) (by omega)
  have ba' : x / 4294967296 * (y / 4294967296) < 18446744073709551616 := by omega
  have bb' : x / 4294967296 * (y % 4294967296) < 18446744073709551616 := by omega
  have bc' : x % 4294967296 * (y / 4294967296) < 18446744073709551616 := by omega
  have bh1 : x / 4294967296 * (y / 4294967296) + (x / 4294967296 * (y % 4294967296) + x % 4294967296 * (y % 4294967296) / 4294967296) / 4294967296 < 18446744073709551616 := by omega
  have bh : x / 4294967296 * (y / 4294967296) + (x / 4294967296 * (y % 4294967296) + x % 4294967296 * (y % 4294967296) / 4294967296) / 4294967296 + ((x / 4294967296 * (y % 4294967296) + x % 4294967296 * (y % 4294967296) / 4294967296) % 4294967296 + x % 4294967296 * (y / 4294967296)) / 4294967296 < 18446744073709551616 := by omega
  go_enter Yba.func9, Yba.ntmps9
  go_wp2
  simp only [maskN x hx, maskN y hy, divN, mulN, addN, wrapN _ bd, wrapN _ bb', wrapN _ bt, maskN _ bt, wrapN _ bc', wrapN _ bw, wrapN _ ba', wrapN _ bh1, wrapN _ bh, wrapM (x * y)]
  rw [hhi]
  go_ret2
  exact ⟨rfl, rfl⟩

theorem next_any (a n : Nat) (w : World) (ha : a < n) (hn : n ≤ 1000000) : Calls Yba.prog 8 #[.int .i64 a, .int .i64 n] w fun e w' => e = .returned (.int .i64 ((if a + 1 = n then 0 else a + 1 : Nat) : Int)) ∧ w' = w := by
  by_cases h : a + 1 = n
  · have hb : ((a : Int) + 1 == (n : Int)) = true := by simp; omega
    go_enter Yba.func8, Yba.ntmps8
    go_wp2
    go_ret
    exact ⟨by simp, rfl⟩
  · have hb : ((a : Int) + 1 == (n : Int)) = false := by simp; omega
    go_enter Yba.func8, Yba.ntmps8
    go_wp2
    go_ret
    exact ⟨by simp, rfl⟩

/-- the mixed hash -/
def mixI (id h : Int) : Int := bits .xor .u64 h (IntKind.u64.wrap (IntKind.u64.wrap id * 11400714819323198485))

/-- where the entry of mask id and hash h is sought first -/
def slN (id h : Int) (n : Nat) : Nat := (mixI id h).toNat * n / 18446744073709551616

theorem mix_nat (id h : Int) : ∃ x : Nat, mixI id h = (x : Int) ∧ x < 18446744073709551616 := by
  have hb := bounds_u64 (wf_bits .xor .u64 h (IntKind.u64.wrap (IntKind.u64.wrap id * 11400714819323198485)))
  exact ⟨(mixI id h).toNat, by unfold mixI; omega, by unfold mixI; omega⟩

theorem slN_lt (id h : Int) (n : Nat) (hn : 0 < n) : slN id h n < n := by
  obtain ⟨x, hx, hlt⟩ := mix_nat id h
  unfold slN
  rw [hx, Int.toNat_natCast]
  rw [Nat.div_lt_iff_lt_mul (by omega), Nat.mul_comm n]
  exact Nat.mul_lt_mul_of_pos_right hlt hn

theorem slot_any (id h : Int) (n : Nat) (w : World) (hn : 0 < n) (hn' : n ≤ 1000000) :
    Calls Yba.prog 7 #[.int .i32 id, .int .u64 h, .int .i64 n] w fun e w' => e = .returned (.int .i64 (slN id h n)) ∧ w' = w := by
  obtain ⟨x, hx, hlt⟩ := mix_nat id h
  obtain ⟨q, hq⟩ : ∃ q, q = slN id h n := ⟨_, rfl⟩
  obtain ⟨l, hl⟩ : ∃ l, l = x * n % 18446744073709551616 := ⟨_, rfl⟩
  have hqn : q < n := by rw [hq]; exact slN_lt id h n hn
  have c := mul64_any x n hlt (by omega) w
  have e : x * n / 18446744073709551616 = q := by rw [hq]; unfold slN; rw [hx, Int.toNat_natCast]
  rw [e, ← hl] at c
  rw [← hq]
  have HX : Hid (bits .xor .u64 h (IntKind.u64.wrap (IntKind.u64.wrap id * 11400714819323198485)) = (x : Int)) := hx
  have HC : Hid (Calls Yba.prog 9 #[.int .u64 x, .int .u64 n] w fun e w' => e = .returned (.tuple #[.int .u64 (q : Int), .int .u64 (l : Int)]) ∧ w' = w) := c
  clear hx hq hl c e hlt
  go_enter Yba.func7, Yba.ntmps7
  go_wp2_with fail
  rw [HX.out]
  refine HC.out.mono ?_
  rintro e w' ⟨rfl, rfl⟩
  clear HX HC
  go_wp2
  go_ret
  exact ⟨rfl, rfl⟩

end Go.Proofs.Ybulkbpss
