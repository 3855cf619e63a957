/- csvField (22), ZZcsvField (9). -/
import Derived.Test.Qxb6002785aModsLeaf
namespace Go.Proofs.Qxb6002785aMods
open Go.RowKit

theorem Own.base {w : World} {B : Nat} {v : Value} {l : List UInt8} (h : Own w B v l) : ∀ k, v.ownBlock = some k → B ≤ k := fun k hk => (World.ownsRow.lt h k hk).1

set_option maxHeartbeats 1000000 in
theorem field_plain (v : Value) (s : ByteArray) (l : List UInt8) (B : Nat) (w : World) (hown : Own w B v l) (hB : B ≤ w.heap.size) (hs : s.size ≤ 1048576) (hl : l.length ≤ 8388608) (hq : Plain.special s.data.toList = false) :
    Calls Trym.prog 22 #[v, .string s] w fun e w' => ∃ v', e = .returned v' ∧ Own w' B v' (l ++ s.data.toList) ∧ Ext w v w' v' := by
  have HQ : Hid (Plain.special s.data.toList = false) := hq
  have hbd : l.length + s.size ≤ 140737488355328 := by omega
  clear hq
  go_enter Trym.func22, Trym.ntmps22
  go_wp2
  go_loop [5, 6, 7] (fun q i _ => ∃ k : Nat, k ≤ s.size ∧ i = .int .i64 k ∧ q = .bool false) (fun _ i _ => s.size - (intOf i).toNat)
  case atStart => exact ⟨0, Nat.zero_le _, rfl, rfl⟩
  case round =>
    obtain ⟨k, hk, rfl, rfl⟩ := hrel
    by_cases hlt : k < s.size
    · obtain ⟨n1, n2, n3, n4⟩ := sp_beq _ (Plain.special_get s.data.toList HQ.out k hlt)
      rw [str_get s k hlt] at n1 n2 n3 n4
      go_wp2
      go_round
      case rel => exact ⟨k + 1, by omega, by go_num, rfl⟩
      case measure => simp [intOf]; omega
    · go_wp2_with (at_builtin; refine wpList_push_string _ rfl (.tmp 34) (.tmp 35) rfl B v l rfl hown s rfl hbd hB ?_)
      intro v' w' hown' hext
      go_wp2
      go_ret
      exact ⟨v', rfl, hown', hext⟩

theorem esc_one {s : ByteArray} {k : Nat} {l X : List UInt8} (hX : X = l ++ 34 :: Plain.esc (s.data.toList.take k)) (hk : k < s.size) (h : ¬ s[k] = 34) : X ++ [s[k]] = l ++ 34 :: Plain.esc (s.data.toList.take (k + 1)) := by
  have e := Plain.esc_snoc s.data.toList k hk
  rw [str_get s k hk, if_neg h] at e
  rw [hX, e]; simp
theorem esc_two {s : ByteArray} {k : Nat} {l X : List UInt8} (hX : X = l ++ 34 :: Plain.esc (s.data.toList.take k)) (hk : k < s.size) (h : s[k] = 34) : X ++ [34, s[k]] = l ++ 34 :: Plain.esc (s.data.toList.take (k + 1)) := by
  have e := Plain.esc_snoc s.data.toList k hk
  rw [str_get s k hk, if_pos h] at e
  rw [hX, e, h]; simp
theorem esc_end {s : ByteArray} {k : Nat} {l X : List UInt8} (hX : X = l ++ 34 :: Plain.esc (s.data.toList.take k)) (hk : s.size ≤ k) (h : Plain.special s.data.toList = true) : X ++ [34] = l ++ Plain.enc s.data.toList := by
  rw [List.take_of_length_le (by rw [str_size]; exact hk)] at hX
  rw [hX, Plain.enc, if_pos h]; simp

set_option maxHeartbeats 2000000 in
theorem field_quoted (v : Value) (s : ByteArray) (l : List UInt8) (B : Nat) (w : World) (hown : Own w B v l) (hB : B ≤ w.heap.size) (hs : s.size ≤ 1048576) (hl : l.length ≤ 8388608) (hq : Plain.special s.data.toList = true) :
    Calls Trym.prog 22 #[v, .string s] w fun e w' => ∃ v', e = .returned v' ∧ Own w' B v' (l ++ Plain.enc s.data.toList) ∧ Ext w v w' v' := by
  have HQ : Hid (Plain.special s.data.toList = true) := hq
  have hbd : l.length + 1 ≤ 140737488355328 := by omega
  clear hq
  go_enter Trym.func22, Trym.ntmps22
  go_wp2
  go_loop [5, 6, 7] (fun q i _ => ∃ k : Nat, k ≤ s.size ∧ i = .int .i64 k ∧ q = .bool false ∧ Hid (Plain.special (s.data.toList.take k) = false)) (fun _ i _ => s.size - (intOf i).toNat)
  case atStart => exact ⟨0, Nat.zero_le _, rfl, rfl, rfl⟩
  case round =>
    obtain ⟨k, hk, rfl, rfl, hn⟩ := hrel
    by_cases hlt : k < s.size
    · by_cases hsp : Plain.sp s[k] = true
      · have hc := (Plain.sp_iff s[k]).1 hsp
        clear hsp
        rcases hc with hc | hc | hc | hc
        all_goals
          go_wp2_with (at_builtin; refine wpList_push _ rfl (.tmp 37) (.tmp 38) rfl B v l rfl hown 34 34 rfl rfl hbd hB ?_)
          intro v1 w1 hown1 hext1
          have hB1 : B ≤ w1.heap.size := Nat.le_trans hB hext1.grown.size
          clear hc
          go_wp2
          go_loopw [0, 8] (fun x i wr => ∃ (j : Nat) (X : List UInt8), j ≤ s.size ∧ i = .int .i64 j ∧ Hid (X = l ++ 34 :: Plain.esc (s.data.toList.take j)) ∧ X.length ≤ l.length + 1 + 2 * j ∧ Own wr B x X ∧ Ext w v wr x ∧ B ≤ wr.heap.size)
            (fun _ i _ => s.size - (intOf i).toNat)
          case atStart => exact ⟨0, l ++ [34], Nat.zero_le _, rfl, by show _ = _; simp [Plain.esc], by simp, hown1, hext1, hB1⟩
          case round =>
            obtain ⟨j, X, hj, rfl, hX, hXl, hownX, hextX, hBX⟩ := hrel
            have hb1 : X.length + 1 ≤ 140737488355328 := by omega
            by_cases hjt : j < s.size
            · by_cases h34 : (s[j].toNat : Int) = 34
              · have H34 : Hid (s[j] = 34) := (Plain.eq34 _).2 h34
                go_wp2_with (at_builtin; refine wpList_push _ rfl (.tmp 50) (.tmp 51) rfl B _ X rfl hownX 34 34 rfl rfl hb1 hBX ?_)
                intro v2 w2 hown2 hext2
                have hB2 : B ≤ w2.heap.size := Nat.le_trans hBX hext2.grown.size
                have hb2 : (X ++ [34]).length + 1 ≤ 140737488355328 := by simp; omega
                go_wp2_with (at_builtin; refine wpList_push _ rfl (.tmp 53) (.tmp 57) rfl B _ (X ++ [34]) rfl hown2 s[j] _ h34.symm rfl hb2 hB2 ?_)
                intro v3 w3 hown3 hext3
                have hB3 : B ≤ w3.heap.size := Nat.le_trans hB2 hext3.grown.size
                go_wp2
                go_roundw
                case rel => exact ⟨j + 1, _, by omega, by go_num, esc_two hX.out hjt H34.out, by simp; omega, hown3, hextX.trans (hext2.trans hext3), hB3⟩
                case measure => simp [intOf]; omega
              · have H34 : Hid (¬ s[j] = 34) := fun h => h34 ((Plain.eq34 _).1 h)
                go_wp2_with (at_builtin; refine wpList_push _ rfl (.tmp 53) (.tmp 57) rfl B _ X rfl hownX s[j] _ rfl rfl hb1 hBX ?_)
                intro v3 w3 hown3 hext3
                have hB3 : B ≤ w3.heap.size := Nat.le_trans hBX hext3.grown.size
                go_wp2
                go_roundw
                case rel => exact ⟨j + 1, _, by omega, by go_num, esc_one hX.out hjt H34.out, by simp; omega, hown3, hextX.trans hext3, hB3⟩
                case measure => simp [intOf]; omega
            · go_wp2_with (at_builtin; refine wpList_push _ rfl (.tmp 59) (.tmp 60) rfl B _ X rfl hownX 34 34 rfl rfl hb1 hBX ?_)
              intro v3 w3 hown3 hext3
              go_wp2
              go_ret
              exact ⟨v3, rfl, by rw [← esc_end hX.out (by omega) HQ.out]; exact hown3, hextX.trans hext3⟩
      · have HS : Hid (Plain.sp s[k] = false) := by simpa [Hid] using hsp
        obtain ⟨n1, n2, n3, n4⟩ := sp_beq _ HS.out
        clear hsp
        go_wp2
        go_round
        case rel => exact ⟨k + 1, by omega, by go_num, rfl, by show _ = _; rw [Plain.special_snoc _ k hlt, hn.out]; exact HS.out⟩
        case measure => simp [intOf]; omega
    · have := Plain.special_all s.data.toList k (by rw [str_size]; omega) hn.out
      rw [HQ.out] at this
      cases this

/-- csvField, whatever the field. -/
theorem field_any (v : Value) (s : ByteArray) (l : List UInt8) (B : Nat) (w : World) (hown : Own w B v l) (hB : B ≤ w.heap.size) (hs : s.size ≤ 1048576) (hl : l.length ≤ 8388608) :
    Calls Trym.prog 22 #[v, .string s] w fun e w' => ∃ v', e = .returned v' ∧ Own w' B v' (l ++ Plain.enc s.data.toList) ∧ Ext w v w' v' := by
  cases hq : Plain.special s.data.toList with
  | true => exact field_quoted v s l B w hown hB hs hl hq
  | false =>
    have e : Plain.enc s.data.toList = s.data.toList := by rw [Plain.enc, hq]; rfl
    rw [e]
    exact field_plain v s l B w hown hB hs hl hq

set_option maxHeartbeats 400000 in
theorem zfield_any (v : Value) (s : ByteArray) (l : List UInt8) (B : Nat) (w : World) (hown : Own w B v l) (hB : B ≤ w.heap.size) (hs : s.size ≤ 1048576) (hl : l.length ≤ 8388608) :
    Calls Trym.prog 9 #[v, .string s] w fun e w' => ∃ v', e = .returned v' ∧ Own w' B v' (l ++ Plain.enc s.data.toList) ∧ Ext w v w' v' := by
  go_enter Trym.func9, Trym.ntmps9
  go_wp2_with fail
  refine (field_any v s l B w hown hB hs hl).mono ?_
  rintro e w' ⟨v', rfl, h1, h2⟩
  go_wp2
  go_ret
  exact ⟨v', rfl, h1, h2⟩
end Go.Proofs.Qxb6002785aMods
