import Derived.Test.YbulkaahuFmtRows
import Derived.WalkKit
import Derived.WalkSpells
import Derived.WalkLawsBesides
import Derived.Below
import Derived.WalkSmall
import Derived.Outline
import Derived.RegionTactic
import Derived.Deep.QuietTactic
import Derived.BigQuiet
import Derived.Lib.VarintBits
namespace Go.Proofs.YbulkaahuFmt
open Go.RowKit

/-- What the first k bytes, each with the bit 128, spell. -/
def xF (d : Nat → Int) : Nat → Int
  | 0 => 0
  | k + 1 => bits .or .u64 (xF d k) (IntKind.u64.wrap (d k % 128 * 2 ^ (7 * k)))

/-- .. and the last byte, number k, besides. -/
def vF (d : Nat → Int) (k : Nat) : Int := bits .or .u64 (xF d k) (IntKind.u64.wrap (d k * 2 ^ (7 * k)))

theorem mask127 {c : Int} (h₀ : 0 ≤ c) (h₁ : c ≤ 255) : bits .and .u8 c 127 = c % 128 := bits_mask .u8 8 (by decide) wraps_u8 7 (by decide) c h₀ (by omega)

theorem v9 {d : Nat → Int} (h0 : 0 ≤ d 9) (h1 : d 9 ≤ 1) : vF d 9 = bits .or .u64 (xF d 9) (d 9 * 9223372036854775808) := by
  unfold vF
  have e : (2 : Int) ^ (7 * 9) = 9223372036854775808 := by decide
  rw [e, IntWalk.u64_in _ ⟨by omega, by omega⟩]

/-- Bytes lie there. -/
structure BytesAt (w : World) (a : Option Addr) (b off n : Nat) (d : Nat → Int) : Prop where
  ad : 0 < n → a = some ⟨b, off, none⟩
  cell : ∀ i, i < n → w.cell? ⟨b, off + i, none⟩ = some (.int .u8 (d i))
  lo : ∀ i, 0 ≤ d i
  hi : ∀ i, d i ≤ 255

set_option maxHeartbeats 1000000 in
/-- The number ends with byte k. -/
theorem uv_ok (d : Nat → Int) (a : Option Addr) (b off n c k : Nat) (w : World) (hn : n ≤ 9223372036854775807) (hB : BytesAt w a b off n d) (hk : k < n) (hk9 : k ≤ 9) (hall : ∀ i, i < k → 128 ≤ d i) (hlast : d k < 128) (hten : k = 9 → d k ≤ 1) :
    Calls Ybaf.prog 15 #[.slice a n c] w fun e w' => e = .returned (.tuple #[.int .u64 (vF d k), .int .i64 ((k : Int) + 1)]) ∧ w' = w := by
  go_enter Ybaf.func15, Ybaf.ntmps15
  go_wp2
  go_loop [4, 5, 10] (fun vx vs vi => ∃ j : Nat, j ≤ k ∧ vi = .int .i64 j ∧ vs = .int .u64 ((7 * j : Nat) : Int) ∧ vx = .int .u64 (xF d j)) (fun _ _ vi => k - (intOf vi).toNat)
  case atStart => exact ⟨0, Nat.zero_le _, rfl, rfl, rfl⟩
  case round =>
    obtain ⟨j, hj, rfl, rfl, rfl⟩ := hrel
    have hdl := hB.lo j
    have hdh := hB.hi j
    have hmask := mask127 hdl hdh
    by_cases hjk : j < k
    · obtain rfl := hB.ad (by omega)
      have hcj := hB.cell j (by omega)
      have hbig := hall j hjk
      have HX : Hid (xF d (j + 1) = bits .or .u64 (xF d j) (IntKind.u64.wrap (d j % 128 * 2 ^ (7 * j)))) := rfl
      clear hB hall
      go_wp2
      go_round
      case rel => exact ⟨j + 1, by omega, by go_num, by go_num, rfl⟩
      case measure => simp [intOf]; omega
    · have ej : k = j := by omega
      subst ej
      obtain rfl := hB.ad (by omega)
      have hcj := hB.cell k (by omega)
      have HV : Hid (vF d k = bits .or .u64 (xF d k) (IntKind.u64.wrap (d k * 2 ^ (7 * k)))) := rfl
      clear hB hall
      by_cases h9 : k = 9
      · have ht := hten h9
        subst h9
        clear hten
        go_wp2
        go_ret2
        exact ⟨by rw [v9 hdl ht]; rfl, rfl⟩
      · clear hten
        go_wp2
        go_ret2
        exact ⟨rfl, rfl⟩

set_option maxHeartbeats 1000000 in
/-- The bytes run out before the end. -/
theorem uv_short (d : Nat → Int) (a : Option Addr) (b off n c : Nat) (w : World) (hn : n ≤ 10) (hB : BytesAt w a b off n d) (hall : ∀ i, i < n → 128 ≤ d i) :
    Calls Ybaf.prog 15 #[.slice a n c] w fun e w' => e = .returned (.tuple #[.int .u64 0, .int .i64 0]) ∧ w' = w := by
  obtain ⟨k, hkn⟩ : ∃ k, n = k := ⟨n, rfl⟩
  subst hkn
  go_enter Ybaf.func15, Ybaf.ntmps15
  go_wp2
  go_loop [4, 5, 10] (fun vx vs vi => ∃ j : Nat, j ≤ n ∧ vi = .int .i64 j ∧ vs = .int .u64 ((7 * j : Nat) : Int) ∧ vx = .int .u64 (xF d j)) (fun _ _ vi => n - (intOf vi).toNat)
  case atStart => exact ⟨0, Nat.zero_le _, rfl, rfl, rfl⟩
  case round =>
    obtain ⟨j, hj, rfl, rfl, rfl⟩ := hrel
    have hdl := hB.lo j
    have hdh := hB.hi j
    have hmask := mask127 hdl hdh
    by_cases hjk : j < n
    · obtain rfl := hB.ad (by omega)
      have hcj := hB.cell j (by omega)
      have hbig := hall j hjk
      have HX : Hid (xF d (j + 1) = bits .or .u64 (xF d j) (IntKind.u64.wrap (d j % 128 * 2 ^ (7 * j)))) := rfl
      clear hB hall
      go_wp2
      go_round
      case rel => exact ⟨j + 1, by omega, by go_num, by go_num, rfl⟩
      case measure => simp [intOf]; omega
    · have ej : n = j := by omega
      subst ej
      clear hB hall
      go_wp2
      go_ret2
      exact ⟨rfl, rfl⟩

set_option maxHeartbeats 1000000 in
/-- More than ten bytes, or a tenth above 1. -/
theorem uv_over (d : Nat → Int) (a : Option Addr) (b off n c k : Nat) (w : World) (hn : n ≤ 9223372036854775807) (hB : BytesAt w a b off n d) (hk : k < n) (hall : ∀ i, i < k → 128 ≤ d i) (hov : k = 10 ∨ k = 9 ∧ 1 < d 9 ∧ d 9 < 128) :
    Calls Ybaf.prog 15 #[.slice a n c] w fun e w' => e = .returned (.tuple #[.int .u64 0, .int .i64 (-((k : Int) + 1))]) ∧ w' = w := by
  have hk10 : k ≤ 10 := by omega
  go_enter Ybaf.func15, Ybaf.ntmps15
  go_wp2
  go_loop [4, 5, 10] (fun vx vs vi => ∃ j : Nat, j ≤ k ∧ vi = .int .i64 j ∧ vs = .int .u64 ((7 * j : Nat) : Int) ∧ vx = .int .u64 (xF d j)) (fun _ _ vi => k - (intOf vi).toNat)
  case atStart => exact ⟨0, Nat.zero_le _, rfl, rfl, rfl⟩
  case round =>
    obtain ⟨j, hj, rfl, rfl, rfl⟩ := hrel
    have hdl := hB.lo j
    have hdh := hB.hi j
    have hmask := mask127 hdl hdh
    by_cases hjk : j < k
    · obtain rfl := hB.ad (by omega)
      have hcj := hB.cell j (by omega)
      have hbig := hall j hjk
      have HX : Hid (xF d (j + 1) = bits .or .u64 (xF d j) (IntKind.u64.wrap (d j % 128 * 2 ^ (7 * j)))) := rfl
      clear hB hall
      go_wp2
      go_round
      case rel => exact ⟨j + 1, by omega, by go_num, by go_num, rfl⟩
      case measure => simp [intOf]; omega
    · have ej : k = j := by omega
      subst ej
      obtain rfl := hB.ad (by omega)
      have hcj := hB.cell k (by omega)
      clear hB hall
      rcases hov with rfl | ⟨rfl, h1, h2⟩
      · go_wp2
        go_ret2
        exact ⟨rfl, rfl⟩
      · go_wp2
        go_ret2
        exact ⟨rfl, rfl⟩

set_option maxHeartbeats 1000000 in
/-- The number ends with byte k. -/
theorem dec_ok (d : Nat → Int) (a : Option Addr) (b off n c k : Nat) (w : World) (hn : n ≤ 9223372036854775807) (hB : BytesAt w a b off n d) (hk : k < n) (hk9 : k ≤ 9) (hall : ∀ i, i < k → 128 ≤ d i) (hlast : d k < 128) (hten : k = 9 → d k ≤ 1) :
    Calls Ybaf.prog 10 #[.slice a n c] w fun e w' => e = .returned (.tuple #[.int .u64 (vF d k), .int .i64 ((k : Int) + 1)]) ∧ w' = w := by
  go_enter Ybaf.func10, Ybaf.ntmps10
  go_wp2
  go_loop [4, 5, 6] (fun vx vs vi => ∃ j : Nat, j ≤ k ∧ vi = .int .i64 j ∧ vs = .int .u64 ((7 * j : Nat) : Int) ∧ vx = .int .u64 (xF d j)) (fun _ _ vi => k - (intOf vi).toNat)
  case atStart => exact ⟨0, Nat.zero_le _, rfl, rfl, rfl⟩
  case round =>
    obtain ⟨j, hj, rfl, rfl, rfl⟩ := hrel
    have hdl := hB.lo j
    have hdh := hB.hi j
    have hmask := mask127 hdl hdh
    by_cases hjk : j < k
    · obtain rfl := hB.ad (by omega)
      have hcj := hB.cell j (by omega)
      have hbig := hall j hjk
      have HX : Hid (xF d (j + 1) = bits .or .u64 (xF d j) (IntKind.u64.wrap (d j % 128 * 2 ^ (7 * j)))) := rfl
      clear hB hall
      go_wp2
      go_round
      case rel => exact ⟨j + 1, by omega, by go_num, by go_num, rfl⟩
      case measure => simp [intOf]; omega
    · have ej : k = j := by omega
      subst ej
      obtain rfl := hB.ad (by omega)
      have hcj := hB.cell k (by omega)
      have HV : Hid (vF d k = bits .or .u64 (xF d k) (IntKind.u64.wrap (d k * 2 ^ (7 * k)))) := rfl
      clear hB hall
      by_cases h9 : k = 9
      · have ht := hten h9
        subst h9
        clear hten
        go_wp2
        go_ret2
        exact ⟨by rw [v9 hdl ht]; rfl, rfl⟩
      · clear hten
        go_wp2
        go_ret2
        exact ⟨rfl, rfl⟩

set_option maxHeartbeats 1000000 in
/-- The bytes run out before the end. -/
theorem dec_short (d : Nat → Int) (a : Option Addr) (b off n c : Nat) (w : World) (hn : n ≤ 10) (hB : BytesAt w a b off n d) (hall : ∀ i, i < n → 128 ≤ d i) :
    Calls Ybaf.prog 10 #[.slice a n c] w fun e w' => e = .returned (.tuple #[.int .u64 0, .int .i64 0]) ∧ w' = w := by
  obtain ⟨k, hkn⟩ : ∃ k, n = k := ⟨n, rfl⟩
  subst hkn
  go_enter Ybaf.func10, Ybaf.ntmps10
  go_wp2
  go_loop [4, 5, 6] (fun vx vs vi => ∃ j : Nat, j ≤ n ∧ vi = .int .i64 j ∧ vs = .int .u64 ((7 * j : Nat) : Int) ∧ vx = .int .u64 (xF d j)) (fun _ _ vi => n - (intOf vi).toNat)
  case atStart => exact ⟨0, Nat.zero_le _, rfl, rfl, rfl⟩
  case round =>
    obtain ⟨j, hj, rfl, rfl, rfl⟩ := hrel
    have hdl := hB.lo j
    have hdh := hB.hi j
    have hmask := mask127 hdl hdh
    by_cases hjk : j < n
    · obtain rfl := hB.ad (by omega)
      have hcj := hB.cell j (by omega)
      have hbig := hall j hjk
      have HX : Hid (xF d (j + 1) = bits .or .u64 (xF d j) (IntKind.u64.wrap (d j % 128 * 2 ^ (7 * j)))) := rfl
      clear hB hall
      go_wp2
      go_round
      case rel => exact ⟨j + 1, by omega, by go_num, by go_num, rfl⟩
      case measure => simp [intOf]; omega
    · have ej : n = j := by omega
      subst ej
      clear hB hall
      go_wp2
      go_ret2
      exact ⟨rfl, rfl⟩

set_option maxHeartbeats 1000000 in
/-- More than ten bytes, or a tenth above 1. -/
theorem dec_over (d : Nat → Int) (a : Option Addr) (b off n c k : Nat) (w : World) (hn : n ≤ 9223372036854775807) (hB : BytesAt w a b off n d) (hk : k < n) (hall : ∀ i, i < k → 128 ≤ d i) (hov : k = 10 ∨ k = 9 ∧ 1 < d 9 ∧ d 9 < 128) :
    Calls Ybaf.prog 10 #[.slice a n c] w fun e w' => e = .returned (.tuple #[.int .u64 0, .int .i64 (-1)]) ∧ w' = w := by
  have hk10 : k ≤ 10 := by omega
  go_enter Ybaf.func10, Ybaf.ntmps10
  go_wp2
  go_loop [4, 5, 6] (fun vx vs vi => ∃ j : Nat, j ≤ k ∧ vi = .int .i64 j ∧ vs = .int .u64 ((7 * j : Nat) : Int) ∧ vx = .int .u64 (xF d j)) (fun _ _ vi => k - (intOf vi).toNat)
  case atStart => exact ⟨0, Nat.zero_le _, rfl, rfl, rfl⟩
  case round =>
    obtain ⟨j, hj, rfl, rfl, rfl⟩ := hrel
    have hdl := hB.lo j
    have hdh := hB.hi j
    have hmask := mask127 hdl hdh
    by_cases hjk : j < k
    · obtain rfl := hB.ad (by omega)
      have hcj := hB.cell j (by omega)
      have hbig := hall j hjk
      have HX : Hid (xF d (j + 1) = bits .or .u64 (xF d j) (IntKind.u64.wrap (d j % 128 * 2 ^ (7 * j)))) := rfl
      clear hB hall
      go_wp2
      go_round
      case rel => exact ⟨j + 1, by omega, by go_num, by go_num, rfl⟩
      case measure => simp [intOf]; omega
    · have ej : k = j := by omega
      subst ej
      obtain rfl := hB.ad (by omega)
      have hcj := hB.cell k (by omega)
      clear hB hall
      rcases hov with rfl | ⟨rfl, h1, h2⟩
      · go_wp2
        go_ret2
        exact ⟨rfl, rfl⟩
      · go_wp2
        go_ret2
        exact ⟨rfl, rfl⟩

end Go.Proofs.YbulkaahuFmt
