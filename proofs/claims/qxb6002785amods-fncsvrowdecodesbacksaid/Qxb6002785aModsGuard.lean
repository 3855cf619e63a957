/- The size guards of the row's law: zzBytes_FnCsvRowDecodesBack (16), zzRowBytes (17). -/
import Derived.Test.Qxb6002785aModsMore
namespace Go.Proofs.Qxb6002785aMods
open Go.RowKit

/-- A call that returns a bool, which, where it is true, says 'p'. -/
def Tells (p : Prop) (e : Ending) : Prop := ∃ r : Bool, e = .returned (.bool r) ∧ (r = true → p)
theorem Tells.no (p : Prop) : Tells p (.returned (.bool false)) := ⟨false, rfl, fun h => by cases h⟩
theorem Tells.yes {p : Prop} (h : p) : Tells p (.returned (.bool true)) := ⟨true, rfl, fun _ => h⟩

set_option maxHeartbeats 1000000 in
theorem bytes16_any (a0 a1 : Option Addr) (d c0 n c1 : Nat) (ss : List ByteArray) (w : World) (h : Rd w a1 c1 (S ss)) (hn : n = ss.length) (hd : d ≤ maxLen) :
    Calls Trym.prog 16 #[.slice a0 d c0, .slice a1 n c1] w fun e w' => Tells (d + ss.length + tot ss ≤ 1048576) e ∧ w = w' := by
  subst hn
  unfold maxLen at hd
  by_cases h1 : d ≤ 1048576
  · by_cases h2 : ss.length ≤ 1048576
    · by_cases h3 : d + ss.length ≤ 1048576
      · go_enter Trym.func16, Trym.ntmps16
        go_wp2
        go_loop [5, 6] (fun t i => ∃ k z : Nat, k ≤ ss.length ∧ i = .int .i64 k ∧ t = .int .i64 z ∧ z ≤ 1048576 ∧ Hid (z = d + ss.length + tot (ss.take k))) (fun _ i => ss.length - (intOf i).toNat)
        case atStart => exact ⟨0, d + ss.length, Nat.zero_le _, rfl, by go_num, h3, rfl⟩
        case round =>
          obtain ⟨k, z, hk, rfl, rfl, hz, hsum⟩ := hrel
          by_cases hlt : k < ss.length
          · obtain ⟨b, off, rfl, hb, hc⟩ := h.str (by omega)
            have ck := hc k hlt
            have hts : Hid (tot (ss.take (k + 1)) = tot (ss.take k) + ss[k].size) := tot_take_succ ss k hlt
            obtain ⟨s, hs⟩ : ∃ s, s = ss[k] := ⟨_, rfl⟩
            rw [← hs] at ck hts
            clear hc hs h
            by_cases h4 : s.size ≤ 1048576
            · by_cases h5 : z + s.size ≤ 1048576
              · go_wp2
                go_round
                case rel => exact ⟨k + 1, z + s.size, by omega, by go_num, by go_num, h5, by show _ = _; rw [hts.out, hsum.out]; omega⟩
                case measure => simp [intOf]; omega
              · go_wp2
                go_ret
                exact ⟨Tells.no _, rfl⟩
            · go_wp2
              go_ret
              exact ⟨Tells.no _, rfl⟩
          · go_wp2
            go_ret
            exact ⟨Tells.yes (by have := hsum.out; rw [tot_all ss k (by omega)] at this; omega), rfl⟩
      · go_enter Trym.func16, Trym.ntmps16
        go_wp2
        go_ret
        exact ⟨Tells.no _, rfl⟩
    · go_enter Trym.func16, Trym.ntmps16
      go_wp2
      go_ret
      exact ⟨Tells.no _, rfl⟩
  · go_enter Trym.func16, Trym.ntmps16
    go_wp2
    go_ret
    exact ⟨Tells.no _, rfl⟩

/-- A call that returns an int. -/
def IsInt (e : Ending) : Prop := ∃ z : Int, e = .returned (.int .i64 z)

set_option maxHeartbeats 1000000 in
theorem rowbytes_any (a0 a1 : Option Addr) (d c0 n c1 : Nat) (ss : List ByteArray) (w : World) (h : Rd w a1 c1 (S ss)) (hn : n = ss.length) (hd : d + ss.length + tot ss ≤ 1048576) :
    Calls Trym.prog 17 #[.slice a0 d c0, .slice a1 n c1] w fun e w' => IsInt e ∧ w = w' := by
  subst hn
  go_enter Trym.func17, Trym.ntmps17
  go_wp2
  go_loop [5, 6] (fun t i => ∃ (k : Nat) (z : Int), k ≤ ss.length ∧ i = .int .i64 k ∧ t = .int .i64 z ∧ 0 ≤ z ∧ z ≤ 20000000) (fun _ i => ss.length - (intOf i).toNat)
  case atStart => exact ⟨0, _, Nat.zero_le _, rfl, rfl, by omega, by omega⟩
  case round =>
    obtain ⟨k, z, hk, rfl, rfl, hz0, hz1⟩ := hrel
    by_cases hlt : k < ss.length
    · obtain ⟨b, off, rfl, hb, hc⟩ := h.str (by omega)
      have ck := hc k hlt
      have hsz := size_le_tot ss k hlt
      obtain ⟨s, hs⟩ : ∃ s, s = ss[k] := ⟨_, rfl⟩
      rw [← hs] at ck hsz
      clear hc hs h
      by_cases h5 : z + s.size ≤ 1048576
      · go_wp2
        go_round
        case rel => exact ⟨k + 1, _, by omega, by go_num, rfl, by omega, by omega⟩
        case measure => simp [intOf]; omega
      · go_wp2
        go_ret
        exact ⟨⟨_, rfl⟩, rfl⟩
    · go_wp2
      go_ret
      exact ⟨⟨_, rfl⟩, rfl⟩
end Go.Proofs.Qxb6002785aMods
