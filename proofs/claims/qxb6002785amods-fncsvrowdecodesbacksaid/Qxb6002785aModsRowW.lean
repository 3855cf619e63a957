/- csvRow (23), ZZcsvRow (19). -/
import Derived.Test.Qxb6002785aModsMore
import Derived.Test.Qxb6002785aModsField
namespace Go.Proofs.Qxb6002785aMods
open Go.RowKit

theorem row_step {ss : List ByteArray} {l X : List UInt8} {k : Nat} (hX : X = l ++ Plain.rowBody (F (ss.take k))) (hk : k < ss.length) :
    (k = 0 → X ++ Plain.enc ss[k].data.toList = l ++ Plain.rowBody (F (ss.take (k + 1)))) ∧ (0 < k → X ++ [44] ++ Plain.enc ss[k].data.toList = l ++ Plain.rowBody (F (ss.take (k + 1)))) := by
  have e : Plain.rowBody (F (ss.take (k + 1))) = Plain.rowBody (F (ss.take k)) ++ ((if (F (ss.take k)).length = 0 then [] else [44]) ++ Plain.enc ss[k].data.toList) := by
    rw [List.take_succ_eq_append_getElem hk, F_append, ← Plain.rowBody_snoc]
    rfl
  have hl : (F (ss.take k)).length = k := by rw [F_length]; simp; omega
  rw [hl] at e
  constructor
  · intro h0
    rw [if_pos h0] at e
    rw [e, hX]; simp
  · intro h0
    rw [if_neg (by omega)] at e
    rw [e, hX]; simp

set_option maxHeartbeats 2000000 in
theorem row_any (v u : Value) (l : List UInt8) (ss : List ByteArray) (B B2 : Nat) (w : World) (hown : Own w B v l) (hB : B ≤ w.heap.size) (hu : w.ownsRow B2 9 1 u ss.length (S ss)) (hs : l.length + ss.length + tot ss ≤ 1048576) :
    Calls Trym.prog 23 #[v, u] w fun e w' => ∃ v', e = .returned v' ∧ Own w' B v' (l ++ (Plain.rowBody (F ss) ++ [10])) ∧ Ext w v w' v' ∧ w'.ownsRow B2 9 1 u ss.length (S ss) := by
  obtain ⟨a1, c1, rfl, -, hrd0⟩ := rd_of_owns hu
  go_enter Trym.func23, Trym.ntmps23
  go_wp2
  go_loopw [0, 5, 6, 9] (fun x _ _ i wr => ∃ (k : Nat) (X : List UInt8), k ≤ ss.length ∧ i = .int .i64 k ∧ Hid (X = l ++ Plain.rowBody (F (ss.take k))) ∧ X.length ≤ 6291456 ∧ Own wr B x X ∧ Ext w v wr x ∧ wr.ownsRow B2 9 1 (.slice a1 ss.length c1) ss.length (S ss) ∧ B ≤ wr.heap.size)
    (fun _ _ _ i _ => ss.length - (intOf i).toNat)
  case atStart => exact ⟨0, l, Nat.zero_le _, rfl, by show _ = _; simp [F, Plain.rowBody], by omega, hown, Ext.refl _ _, hu, hB⟩
  case round =>
    obtain ⟨k, X, hk, rfl, hX, hXl, hownX, hextX, huX, hBX⟩ := hrel
    by_cases hlt : k < ss.length
    · obtain ⟨a1', c1', e1, -, hrdX⟩ := rd_of_owns huX
      obtain ⟨rfl, -, rfl⟩ := e1
      obtain ⟨b, off, rfl, hb, hc⟩ := hrdX.str (by omega)
      have ck := hc k hlt
      have hst := row_step hX.out hlt
      have hsz := size_le_tot ss k hlt
      have hgr : ∀ Y : List UInt8, Y = l ++ Plain.rowBody (F (ss.take (k + 1))) → Y.length ≤ 6291456 := by
        intro Y hY
        have h1 := Plain.length_rowBody_le (F (ss.take (k + 1)))
        have h2 := tot_take_le ss (k + 1)
        unfold tot at h2 hs
        rw [F_length, List.length_take] at h1
        rw [hY, List.length_append]
        omega
      obtain ⟨s, hse⟩ : ∃ s, s = ss[k] := ⟨_, rfl⟩
      rw [← hse] at ck hst hsz
      have hs1 : s.size ≤ 1048576 := by omega
      have HG : Hid (∀ Y : List UInt8, Y = l ++ Plain.rowBody (F (ss.take (k + 1))) → Y.length ≤ 6291456) := hgr
      have HST : Hid ((k = 0 → X ++ Plain.enc s.data.toList = l ++ Plain.rowBody (F (ss.take (k + 1)))) ∧ (0 < k → X ++ [44] ++ Plain.enc s.data.toList = l ++ Plain.rowBody (F (ss.take (k + 1))))) := hst
      clear hc hse hst hrdX hrd0 hgr hX hu hown
      have hX8 : X.length ≤ 8388608 := by omega
      by_cases h0 : 0 < k
      · have hb1 : X.length + 1 ≤ 140737488355328 := by omega
        go_wp2_with (at_builtin; refine wpList_push _ rfl (.tmp 16) (.tmp 17) rfl B _ X rfl hownX 44 44 rfl rfl hb1 hBX ?_)
        intro v2 w2 hown2 hext2
        have hB2 : B ≤ w2.heap.size := Nat.le_trans hBX hext2.grown.size
        have hu2 := own_other huX hext2 hownX (by decide)
        go_wp2_with fail
        refine (field_any _ s (X ++ [44]) B _ hown2 hB2 hs1 (by simp; omega)).mono ?_
        rintro e w3 ⟨v3, rfl, hown3, hext3⟩
        have hB3 : B ≤ w3.heap.size := Nat.le_trans hB2 hext3.grown.size
        have hu3 := own_other hu2 hext3 hown2 (by decide)
        have hE := HST.out.2 h0
        have hL := HG.out _ hE
        have HE : Hid (X ++ [44] ++ Plain.enc s.data.toList = l ++ Plain.rowBody (F (ss.take (k + 1)))) := hE
        have HO : Hid (Own w3 B v3 (X ++ [44] ++ Plain.enc s.data.toList) ∧ (X ++ [44] ++ Plain.enc s.data.toList).length ≤ 6291456) := ⟨hown3, hL⟩
        clear hE hL hown3
        go_wp2
        go_roundw
        case rel => exact ⟨k + 1, _, by omega, by go_num, HE, HO.out.2, HO.out.1, hextX.trans (hext2.trans hext3), hu3, hB3⟩
        case measure => simp [intOf]; omega
      · go_wp2_with fail
        refine (field_any _ s X B _ hownX hBX hs1 hX8).mono ?_
        rintro e w3 ⟨v3, rfl, hown3, hext3⟩
        have hB3 : B ≤ w3.heap.size := Nat.le_trans hBX hext3.grown.size
        have hu3 := own_other huX hext3 hownX (by decide)
        have hE := HST.out.1 (by omega)
        have hL := HG.out _ hE
        have HE : Hid (X ++ Plain.enc s.data.toList = l ++ Plain.rowBody (F (ss.take (k + 1)))) := hE
        have HO : Hid (Own w3 B v3 (X ++ Plain.enc s.data.toList) ∧ (X ++ Plain.enc s.data.toList).length ≤ 6291456) := ⟨hown3, hL⟩
        clear hE hL hown3
        go_wp2
        go_roundw
        case rel => exact ⟨k + 1, _, by omega, by go_num, HE, HO.out.2, HO.out.1, hextX.trans hext3, hu3, hB3⟩
        case measure => simp [intOf]; omega
    · have hb1 : X.length + 1 ≤ 140737488355328 := by omega
      have HX : Hid (X = l ++ Plain.rowBody (F ss)) := by have := hX.out; rwa [List.take_of_length_le (by omega)] at this
      go_wp2_with (at_builtin; refine wpList_push _ rfl (.tmp 23) (.tmp 24) rfl B _ X rfl hownX 10 10 rfl rfl hb1 hBX ?_)
      intro v3 w3 hown3 hext3
      have hu3 := own_other huX hext3 hownX (by decide)
      go_wp2
      go_ret
      exact ⟨v3, rfl, by rw [← List.append_assoc, ← HX.out]; exact hown3, hextX.trans hext3, hu3⟩

set_option maxHeartbeats 400000 in
theorem zrow_any (v u : Value) (l : List UInt8) (ss : List ByteArray) (B B2 : Nat) (w : World) (hown : Own w B v l) (hB : B ≤ w.heap.size) (hu : w.ownsRow B2 9 1 u ss.length (S ss)) (hs : l.length + ss.length + tot ss ≤ 1048576) :
    Calls Trym.prog 19 #[v, u] w fun e w' => ∃ v', e = .returned v' ∧ Own w' B v' (l ++ (Plain.rowBody (F ss) ++ [10])) ∧ Ext w v w' v' ∧ w'.ownsRow B2 9 1 u ss.length (S ss) := by
  go_enter Trym.func19, Trym.ntmps19
  go_wp2_with fail
  refine (row_any v u l ss B B2 w hown hB hu hs).mono ?_
  rintro e w' ⟨v', rfl, h1, h2, h3⟩
  go_wp2
  go_ret
  exact ⟨v', rfl, h1, h2, h3⟩
end Go.Proofs.Qxb6002785aMods
