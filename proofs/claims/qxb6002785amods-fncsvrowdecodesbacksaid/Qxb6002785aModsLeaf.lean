/- The leaves: zzSpecial (12), zzCountQuotes (14). -/
import Derived.Test.Qxb6002785aModsOwn
namespace Go.Proofs.Qxb6002785aMods
open Go.RowKit

theorem str_size (s : ByteArray) : s.data.toList.length = s.size := rfl
theorem str_get (s : ByteArray) (k : Nat) (h : k < s.size) : s.data.toList[k]'h = s[k] := rfl

theorem sp_beq (c : UInt8) (h : Plain.sp c = false) : ((c.toNat : Int) == 44) = false ∧ ((c.toNat : Int) == 34) = false ∧ ((c.toNat : Int) == 13) = false ∧ ((c.toNat : Int) == 10) = false := by
  obtain ⟨h1, h2, h3, h4⟩ := Plain.sp_false c h
  exact ⟨by simpa using h1, by simpa using h2, by simpa using h3, by simpa using h4⟩

set_option maxHeartbeats 400000 in
theorem special_any (s : ByteArray) (w : World) (hs : s.size ≤ maxLen) :
    Calls Trym.prog 12 #[.string s] w fun e w' => e = .returned (.bool (Plain.special s.data.toList)) ∧ w = w' := by
  unfold maxLen at hs
  go_enter Trym.func12, Trym.ntmps12
  go_wp2
  go_loop [3, 4] (fun i _ => ∃ k : Nat, k ≤ s.size ∧ i = .int .i64 k ∧ Hid (Plain.special (s.data.toList.take k) = false)) (fun i _ => s.size - (intOf i).toNat)
  case atStart => exact ⟨0, Nat.zero_le _, rfl, rfl⟩
  case round =>
    obtain ⟨k, hk, rfl, hn⟩ := hrel
    by_cases hlt : k < s.size
    · by_cases hsp : Plain.sp s[k] = true
      · have HS : Hid (Plain.sp s[k] = true) := hsp
        have hc := (Plain.sp_iff s[k]).1 hsp
        clear hsp
        rcases hc with hc | hc | hc | hc
        all_goals
          go_wp2
          go_ret
          exact ⟨ret_bool (Plain.special_at s.data.toList k hlt HS.out).symm, rfl⟩
      · have HS : Hid (Plain.sp s[k] = false) := by simpa [Hid] using hsp
        obtain ⟨n1, n2, n3, n4⟩ := sp_beq _ HS.out
        clear hsp
        go_wp2
        go_round
        case rel => exact ⟨k + 1, by omega, by go_num, by show _ = _; rw [Plain.special_snoc _ k hlt, hn.out]; exact HS.out⟩
        case measure => simp [intOf]; omega
    · go_wp2
      go_ret
      exact ⟨ret_bool (Plain.special_all s.data.toList k (by rw [str_size]; omega) hn.out).symm, rfl⟩

set_option maxHeartbeats 400000 in
theorem count_any (s : ByteArray) (w : World) (hs : s.size ≤ maxLen) :
    Calls Trym.prog 14 #[.string s] w fun e w' => e = .returned (.int .i64 (Plain.quotes s.data.toList)) ∧ w = w' := by
  unfold maxLen at hs
  go_enter Trym.func14, Trym.ntmps14
  go_wp2
  go_loop [3, 4] (fun n i => ∃ k q : Nat, k ≤ s.size ∧ q ≤ k ∧ i = .int .i64 k ∧ n = .int .i64 q ∧ Hid (Plain.quotes (s.data.toList.take k) = q)) (fun _ i => s.size - (intOf i).toNat)
  case atStart => exact ⟨0, 0, Nat.zero_le _, Nat.zero_le _, rfl, rfl, rfl⟩
  case round =>
    obtain ⟨k, q, hk, hq, rfl, rfl, hn⟩ := hrel
    by_cases hlt : k < s.size
    · by_cases hsp : (s[k].toNat : Int) = 34
      · have HS : Hid (s[k] = 34) := (Plain.eq34 _).2 hsp
        go_wp2
        go_round
        case rel => exact ⟨k + 1, q + 1, by omega, by omega, by go_num, by go_num, by show _ = _; rw [Plain.quotes_snoc _ k hlt, hn.out]; exact congrArg (q + ·) (if_pos HS.out)⟩
        case measure => simp [intOf]; omega
      · have HS : Hid (¬ s[k] = 34) := fun h => hsp ((Plain.eq34 _).1 h)
        go_wp2
        go_round
        case rel => exact ⟨k + 1, q, by omega, by omega, by go_num, by go_num, by show _ = _; rw [Plain.quotes_snoc _ k hlt, hn.out]; exact congrArg (q + ·) (if_neg HS.out)⟩
        case measure => simp [intOf]; omega
    · go_wp2
      go_ret
      refine ⟨ret_int ?_, rfl⟩
      have := hn.out
      rw [List.take_of_length_le (by rw [str_size]; omega)] at this
      omega
end Go.Proofs.Qxb6002785aMods
