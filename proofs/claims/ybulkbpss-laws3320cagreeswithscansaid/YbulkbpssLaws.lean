/-
  The two laws' walks.
-/
import Derived.Test.YbulkbpssBuild
import Derived.LaidEqlPtr
namespace Go.Proofs.Ybulkbpss
open Go.RowKit
set_option linter.unusedVariables false

theorem find_some {bs be bi m n cap : Nat} {em eh pg : Nat → Int} {T : Nat → Nat} {w : World} (hS : SetAt w bs be bi m n cap em eh pg T) {i : Nat} (hi : i < m) {id h : Int} (h1 : em i = id) (h2 : eh i = h) :
    Calls Yba.prog 6 #[.pointer (some ⟨bs, 0, none⟩), .int .i32 id, .int .u64 h] w fun e w' => e = .returned (.pointer (some ⟨be, i * 7, none⟩)) ∧ ∃ q, w' = w.drewN q := by
  refine (find_any bs be bi m n cap em eh pg T id h w hS).mono ?_
  rintro e w' ⟨r, hF, rfl, hq⟩
  have : r = some i := found_unique hS.ds hF (show Found em eh m id h (some i) from ⟨hi, h1, h2⟩)
  subst this
  exact ⟨rfl, hq⟩

theorem find_none {bs be bi m n cap : Nat} {em eh pg : Nat → Int} {T : Nat → Nat} {w : World} (hS : SetAt w bs be bi m n cap em eh pg T) {id h : Int} (hno : ∀ i, i < m → ¬ (em i = id ∧ eh i = h)) :
    Calls Yba.prog 6 #[.pointer (some ⟨bs, 0, none⟩), .int .i32 id, .int .u64 h] w fun e w' => e = .returned (.pointer none) ∧ ∃ q, w' = w.drewN q := by
  refine (find_any bs be bi m n cap em eh pg T id h w hS).mono ?_
  rintro e w' ⟨r, hF, rfl, hq⟩
  have : r = none := found_unique hS.ds hF (show Found em eh m id h none from hno)
  subst this
  exact ⟨rfl, hq⟩

theorem ptr_eq (w : World) (a : Addr) : (binOp .eql 39 (.pointer (some a)) (.pointer (some a))).run Yba.prog w = .ok (.bool true) w := by
  obtain ⟨i, hi, _⟩ := info_parts Yba.info38
  exact run_eql_ptr_same w a Yba.underlying39 hi
theorem ptr_ne (w : World) (a : Addr) : (binOp .neq 39 (.pointer (some a)) (.pointer (some a))).run Yba.prog w = .ok (.bool false) w := by
  obtain ⟨i, hi, _⟩ := info_parts Yba.info38
  have h : ∀ d : Nat, (Op.equalIn (d + 1) 39 (.pointer (some a)) (.pointer (some a))).run Yba.prog w = .ok true w := fun d => by
    simp [Op.equalIn, run_underlying Yba.underlying39, sizeOf, typeInfo, hi, run_sameAddr_same]
  simp only [binOp]
  simp [Op.equal, Op.maxDepth, h 9999]

set_option maxRecDepth 100000 in
set_option maxHeartbeats 2000000 in
theorem each_walk (a0 : Option Addr) (n0 c0 : Nat) (a1 : Option Addr) (n1 c1 : Nat) (mk hs : Nat → Int) (w : World) (hn0 : n0 ≤ 1024) (hn1 : n1 ≤ 1024)
    (h0 : Row1 w a0 n0 (fun i => .int .i32 (mk i))) (h1 : Row1 w a1 n1 (fun i => .int .u64 (hs i))) :
    Calls Yba.prog 4 #[.slice a0 n0 c0, .slice a1 n1 c1] w fun e w' => e = .returned (.bool true) ∧ Below w.heap.size w w' := by
  have CB := build_any a0 n0 c0 a1 n1 c1 (min n0 n1) mk hs w (Nat.min_le_left _ _) (Nat.min_le_right _ _) (by omega) hn0 hn1 h0 h1
  have HCB : Hid (Calls Yba.prog 5 #[.slice a0 n0 c0, .slice a1 n1 c1] w (BuildPost w (min n0 n1))) := CB
  have g0 : decide ((1024 : Int) < (n0 : Int)) = false := by simp; omega
  have g1 : decide ((1024 : Int) < (n1 : Int)) = false := by simp; omega
  clear h0 h1 CB
  have pne := ptr_ne
  go_enter Yba.func4, Yba.ntmps4
  go_wp2_with fail
  refine HCB.out.mono ?_
  rintro e u ⟨bs, be, bi, m, n, cap, em, eh, pg, T, hmk, rfl, hS, hbu⟩
  have HS : Hid (SetAt u bs be bi m n cap em eh pg T) := hS
  have hm : m ≤ 1024 := by omega
  clear hS hmk HCB
  go_wp2
  go_loopw [6] (fun v wr => ∃ i : Nat, i ≤ m ∧ v = .int .i64 i ∧ Below u.heap.size u wr) (fun v _ => m - (intOf v).toNat)
  case atStart => exact ⟨0, Nat.zero_le _, rfl, Below.refl _ _⟩
  case round =>
    obtain ⟨i, hi, rfl, hbr⟩ := hrel
    have hSr := HS.out.below hbr
    have HSR : Hid (SetAt wr bs be bi m n cap em eh pg T) := hSr
    have e1 := hSr.ent
    by_cases him : i < m
    · have e2 := hSr.mask i him
      have e3 := hSr.hash i him
      have him' : (i : Int) < (m : Int) := by omega
      clear hSr
      go_wp2_with fail
      go_quiet ((go_at_call 6; exact Calls.quiet_of (find_some (HSR.out.below (below_drewN (Below.refl _ _) _)) him rfl rfl)))
      go_wp2
      go_roundw
      case rel => exact ⟨i + 1, by omega, by go_num, below_drewN hbr _⟩
      case measure => simp [intOf]; omega
    · clear hSr
      go_wp2
      go_ret
      exact ⟨rfl, hbu.trans (hbr.mono hbu.size)⟩

set_option maxRecDepth 100000 in
set_option maxHeartbeats 4000000 in
theorem scan_walk (a0 : Option Addr) (n0 c0 : Nat) (a1 : Option Addr) (n1 c1 : Nat) (mk hs : Nat → Int) (up : Bool) (pk id h : Int) (w : World) (hn0 : n0 ≤ 1024) (hn1 : n1 ≤ 1024) (hpk : 0 ≤ pk) (hpk' : pk ≤ 65535)
    (h0 : Row1 w a0 n0 (fun i => .int .i32 (mk i))) (h1 : Row1 w a1 n1 (fun i => .int .u64 (hs i))) :
    Calls Yba.prog 3 #[.slice a0 n0 c0, .slice a1 n1 c1, .bool up, .int .u16 pk, .int .i32 id, .int .u64 h] w fun e w' => e = .returned (.bool true) ∧ Below w.heap.size w w' := by
  have CB := build_any a0 n0 c0 a1 n1 c1 (min n0 n1) mk hs w (Nat.min_le_left _ _) (Nat.min_le_right _ _) (by omega) hn0 hn1 h0 h1
  have HCB : Hid (Calls Yba.prog 5 #[.slice a0 n0 c0, .slice a1 n1 c1] w (BuildPost w (min n0 n1))) := CB
  have g0 : decide ((1024 : Int) < (n0 : Int)) = false := by simp; omega
  have g1 : decide ((1024 : Int) < (n1 : Int)) = false := by simp; omega
  clear h0 h1 CB
  have peq := ptr_eq
  go_enter Yba.func3, Yba.ntmps3
  go_wp2_with fail
  refine HCB.out.mono ?_
  rintro e u ⟨bs, be, bi, m, n, cap, em, eh, pg, T, hmk, rfl, hS, hbu⟩
  have HS : Hid (SetAt u bs be bi m n cap em eh pg T) := hS
  have hm : m ≤ 1024 := by omega
  have e1 := hS.ent
  clear hS hmk HCB
  cases up
  · go_wp2_with fail
    clear e1
    obtain ⟨ux, hux⟩ : ∃ x, x = u := ⟨_, rfl⟩
    have hbx : Below u.heap.size u ux := by rw [hux]; exact Below.refl _ _
    rw [← hux]
    clear hux
    have HSX : Hid (SetAt ux bs be bi m n cap em eh pg T) := HS.out.below hbx
    have e1 := HSX.out.ent
    clear HS
    go_wp2
    go_loop [15, 16] (fun wv v => ∃ j : Nat, j ≤ m ∧ v = .int .i64 j ∧ wv = .int .i64 (-1) ∧ Hid (∀ e, e < j → ¬ (em e = id ∧ eh e = h))) (fun _ v => m - (intOf v).toNat)
    case atStart => exact ⟨0, Nat.zero_le _, rfl, rfl, fun e he => by omega⟩
    case round =>
      obtain ⟨j, hj, rfl, rfl, hno⟩ := hrel
      by_cases hjm : j < m
      · have f2 := HSX.out.mask j hjm
        have f3 := HSX.out.hash j hjm
        have f4 := HSX.out.page j hjm
        have hjm' : (j : Int) < (m : Int) := by omega
        by_cases hk : em j = id ∧ eh j = h
        · have k1 : (em j == id) = true := by simp [hk.1]
          have k2 : (eh j == h) = true := by simp [hk.2]
          have HK : Hid (em j = id ∧ eh j = h) := hk
          clear hk hno
          go_wp2_with (go_at_call 6; refine (find_some HSX.out hjm HK.out.1 HK.out.2).mono ?_; rintro e1 w1 ⟨rfl, q1, hw1⟩; subst hw1)
          go_quiet (fail)
          go_wp2
          go_ret
          exact ⟨by simp, hbu.trans ((below_drewN (below_drewN hbx _) _).mono hbu.size)⟩
        · have ST : Hid (∀ e, e < j + 1 → ¬ (em e = id ∧ eh e = h)) := fun e he => by
            by_cases e1 : e = j
            · rw [e1]; exact hk
            · exact hno.out e (by omega)
          clear hno
          by_cases hk1 : em j = id
          · have k1 : (em j == id) = true := by simp [hk1]
            have k2 : (eh j == h) = false := by simp; exact fun h2 => hk ⟨hk1, h2⟩
            clear hk hk1
            go_wp2
            go_round
            case rel => exact ⟨j + 1, by omega, by go_num, rfl, ST⟩
            case measure => simp [intOf]; omega
          · have k1 : (em j == id) = false := by simp [hk1]
            clear hk hk1
            go_wp2
            go_round
            case rel => exact ⟨j + 1, by omega, by go_num, rfl, ST⟩
            case measure => simp [intOf]; omega
      · have HNO : Hid (∀ e, e < m → ¬ (em e = id ∧ eh e = h)) := fun e he => hno.out e (by omega)
        clear hno
        go_wp2_with (go_at_call 6; refine (find_none HSX.out HNO.out).mono ?_; rintro e1 w1 ⟨rfl, q1, hw1⟩; subst hw1)
        go_ret
        exact ⟨by simp, hbu.trans ((below_drewN hbx _).mono hbu.size)⟩
  · by_cases hm0 : m = 0
    · have hd : decide ((0 : Int) < (m : Int)) = false := by simp; omega
      have hd2 : decide (0 < m) = false := by simp; omega
      have hd3 : ¬ 0 < m := by omega
      clear hm0
      go_wp2_with fail
      clear e1 hd hd2 hd3
      obtain ⟨ux, hux⟩ : ∃ x, x = u := ⟨_, rfl⟩
      have hbx : Below u.heap.size u ux := by rw [hux]; exact Below.refl _ _
      rw [← hux]
      clear hux
      have HSX : Hid (SetAt ux bs be bi m n cap em eh pg T) := HS.out.below hbx
      have e1 := HSX.out.ent
      clear HS
      go_wp2
      go_loop [15, 16] (fun wv v => ∃ j : Nat, j ≤ m ∧ v = .int .i64 j ∧ wv = .int .i64 (-1) ∧ Hid (∀ e, e < j → ¬ (em e = id ∧ eh e = h))) (fun _ v => m - (intOf v).toNat)
      case atStart => exact ⟨0, Nat.zero_le _, rfl, rfl, fun e he => by omega⟩
      case round =>
        obtain ⟨j, hj, rfl, rfl, hno⟩ := hrel
        by_cases hjm : j < m
        · have f2 := HSX.out.mask j hjm
          have f3 := HSX.out.hash j hjm
          have f4 := HSX.out.page j hjm
          have hjm' : (j : Int) < (m : Int) := by omega
          by_cases hk : em j = id ∧ eh j = h
          · have k1 : (em j == id) = true := by simp [hk.1]
            have k2 : (eh j == h) = true := by simp [hk.2]
            have HK : Hid (em j = id ∧ eh j = h) := hk
            clear hk hno
            go_wp2_with (go_at_call 6; refine (find_some HSX.out hjm HK.out.1 HK.out.2).mono ?_; rintro e1 w1 ⟨rfl, q1, hw1⟩; subst hw1)
            go_quiet (fail)
            go_wp2
            go_ret
            exact ⟨by simp, hbu.trans ((below_drewN (below_drewN hbx _) _).mono hbu.size)⟩
          · have ST : Hid (∀ e, e < j + 1 → ¬ (em e = id ∧ eh e = h)) := fun e he => by
              by_cases e1 : e = j
              · rw [e1]; exact hk
              · exact hno.out e (by omega)
            clear hno
            by_cases hk1 : em j = id
            · have k1 : (em j == id) = true := by simp [hk1]
              have k2 : (eh j == h) = false := by simp; exact fun h2 => hk ⟨hk1, h2⟩
              clear hk hk1
              go_wp2
              go_round
              case rel => exact ⟨j + 1, by omega, by go_num, rfl, ST⟩
              case measure => simp [intOf]; omega
            · have k1 : (em j == id) = false := by simp [hk1]
              clear hk hk1
              go_wp2
              go_round
              case rel => exact ⟨j + 1, by omega, by go_num, rfl, ST⟩
              case measure => simp [intOf]; omega
        · have HNO : Hid (∀ e, e < m → ¬ (em e = id ∧ eh e = h)) := fun e he => hno.out e (by omega)
          clear hno
          go_wp2_with (go_at_call 6; refine (find_none HSX.out HNO.out).mono ?_; rintro e1 w1 ⟨rfl, q1, hw1⟩; subst hw1)
          go_ret
          exact ⟨by simp, hbu.trans ((below_drewN hbx _).mono hbu.size)⟩
    · have hd : decide ((0 : Int) < (m : Int)) = true := by simp; omega
      have hd2 : decide (0 < m) = true := by simp; omega
      obtain ⟨p, hp, hpm⟩ : ∃ p : Nat, pk % (m : Int) = (p : Int) ∧ p < m := by
        have x2 := Int.emod_nonneg pk (show (m : Int) ≠ 0 by omega)
        have x3 := Int.emod_lt_of_pos pk (show 0 < (m : Int) by omega)
        exact ⟨(pk % (m : Int)).toNat, by omega, by omega⟩
      have e2 := HS.out.mask p hpm
      have e3 := HS.out.hash p hpm
      have hpm' : (p : Int) < (m : Int) := by omega
      have HP : Hid (pk % (m : Int) = (p : Int)) := hp
      clear hp hm0
      go_wp2_with fail
      rw [HP.out]
      go_quiet (fail)
      clear e1 e2 e3 hd hd2
      obtain ⟨ux, hux⟩ : ∃ x, x = u.drewN nq := ⟨_, rfl⟩
      have hbx : Below u.heap.size u ux := by rw [hux]; exact below_drewN (Below.refl _ _) _
      rw [← hux]
      clear hux
      have HSX : Hid (SetAt ux bs be bi m n cap em eh pg T) := HS.out.below hbx
      have e1 := HSX.out.ent
      clear HS
      go_wp2
      go_loop [15, 16] (fun wv v => ∃ j : Nat, j ≤ m ∧ v = .int .i64 j ∧ wv = .int .i64 (-1) ∧ Hid (∀ e, e < j → ¬ (em e = (em p) ∧ eh e = (eh p)))) (fun _ v => m - (intOf v).toNat)
      case atStart => exact ⟨0, Nat.zero_le _, rfl, rfl, fun e he => by omega⟩
      case round =>
        obtain ⟨j, hj, rfl, rfl, hno⟩ := hrel
        by_cases hjm : j < m
        · have f2 := HSX.out.mask j hjm
          have f3 := HSX.out.hash j hjm
          have f4 := HSX.out.page j hjm
          have hjm' : (j : Int) < (m : Int) := by omega
          by_cases hk : em j = (em p) ∧ eh j = (eh p)
          · have k1 : (em j == (em p)) = true := by simp [hk.1]
            have k2 : (eh j == (eh p)) = true := by simp [hk.2]
            have HK : Hid (em j = (em p) ∧ eh j = (eh p)) := hk
            clear hk hno
            go_wp2_with (go_at_call 6; refine (find_some HSX.out hjm HK.out.1 HK.out.2).mono ?_; rintro e1 w1 ⟨rfl, q1, hw1⟩; subst hw1)
            go_quiet (fail)
            go_wp2
            go_ret
            exact ⟨by simp, hbu.trans ((below_drewN (below_drewN hbx _) _).mono hbu.size)⟩
          · have ST : Hid (∀ e, e < j + 1 → ¬ (em e = (em p) ∧ eh e = (eh p))) := fun e he => by
              by_cases e1 : e = j
              · rw [e1]; exact hk
              · exact hno.out e (by omega)
            clear hno
            by_cases hk1 : em j = (em p)
            · have k1 : (em j == (em p)) = true := by simp [hk1]
              have k2 : (eh j == (eh p)) = false := by simp; exact fun h2 => hk ⟨hk1, h2⟩
              clear hk hk1
              go_wp2
              go_round
              case rel => exact ⟨j + 1, by omega, by go_num, rfl, ST⟩
              case measure => simp [intOf]; omega
            · have k1 : (em j == (em p)) = false := by simp [hk1]
              clear hk hk1
              go_wp2
              go_round
              case rel => exact ⟨j + 1, by omega, by go_num, rfl, ST⟩
              case measure => simp [intOf]; omega
        · have HNO : Hid (∀ e, e < m → ¬ (em e = (em p) ∧ eh e = (eh p))) := fun e he => hno.out e (by omega)
          clear hno
          go_wp2_with (go_at_call 6; refine (find_none HSX.out HNO.out).mono ?_; rintro e1 w1 ⟨rfl, q1, hw1⟩; subst hw1)
          go_ret
          exact ⟨by simp, hbu.trans ((below_drewN hbx _).mono hbu.size)⟩

end Go.Proofs.Ybulkbpss
