/- zzSameBytes (15), zzHasPrefix (10), at slices that hold the same bytes. -/
import Derived.Test.Qxb6002785aModsOwn
namespace Go.Proofs.Qxb6002785aMods
open Go.RowKit

set_option maxHeartbeats 400000 in
theorem same_eq' (a b : Option Addr) (ca cb : Nat) (l : List UInt8) (w : World) (ha : Rd w a ca (U l)) (hb : Rd w b cb (U l)) :
    Calls Trym.prog 15 #[.slice a l.length ca, .slice b l.length cb] w fun e w' => e = .returned (.bool true) ∧ ∃ n, w' = w.drewN n := by
  have hle := ha.le
  have hmx := ha.max
  rw [U_length] at hle
  unfold maxLen at hmx
  go_enter Trym.func15, Trym.ntmps15
  go_wp2
  go_loopw [5] (fun i wr => ∃ k n : Nat, k ≤ l.length ∧ i = .int .i64 k ∧ wr = w.drewN n) (fun i _ => l.length - (intOf i).toNat)
  case atStart => exact ⟨0, 0, Nat.zero_le _, rfl, rfl⟩
  case round =>
    obtain ⟨k, n, hk, rfl, rfl⟩ := hrel
    by_cases hlt : k < l.length
    · obtain ⟨ba, oa, rfl, _, hca⟩ := ha.byte (by omega)
      obtain ⟨bb, ob, rfl, _, hcb⟩ := hb.byte (by omega)
      have c1 := hca k hlt
      have c2 := hcb k hlt
      have hlt' : (k : Int) < (l.length : Int) := by omega
      clear hca hcb ha hb
      go_wp2
      go_quiet (fail)
      go_wp2
      go_roundw
      case rel => exact ⟨k + 1, _, by omega, by go_num, rfl⟩
      case measure => simp [intOf]; omega
    · go_wp2
      go_ret
      exact ⟨rfl, _, rfl⟩

theorem same_eq (a b : Option Addr) (la lb ca cb : Nat) (l : List UInt8) (w : World) (ha : Rd w a ca (U l)) (hb : Rd w b cb (U l)) (hla : la = l.length) (hlb : lb = l.length) :
    Calls Trym.prog 15 #[.slice a la ca, .slice b lb cb] w fun e w' => e = .returned (.bool true) ∧ ∃ n, w' = w.drewN n := by
  subst hla hlb
  exact same_eq' a b ca cb l w ha hb

set_option maxHeartbeats 400000 in
theorem begins_eq (a b : Option Addr) (la lb ca cb : Nat) (l m : List UInt8) (w : World) (ha : Rd w a ca (U (l ++ m))) (hb : Rd w b cb (U l)) (hla : la = l.length + m.length) (hlb : lb = l.length) :
    Calls Trym.prog 10 #[.slice a la ca, .slice b lb cb] w fun e w' => e = .returned (.bool true) ∧ ∃ n, w' = w.drewN n := by
  subst hla hlb
  have hle := ha.le
  have hmx := ha.max
  rw [U_length, List.length_append] at hle
  unfold maxLen at hmx
  have ht := ha.take l.length (by simp [U_length])
  rw [show (U (l ++ m)).take l.length = U l by rw [U_append, List.take_left' (U_length l)]] at ht
  clear ha
  go_enter Trym.func10, Trym.ntmps10
  go_wp2_with fail
  refine (same_eq' _ _ _ _ l _ ht hb).mono ?_
  rintro e w' ⟨rfl, n, rfl⟩
  go_wp2
  go_ret
  exact ⟨rfl, n, rfl⟩
end Go.Proofs.Qxb6002785aMods
