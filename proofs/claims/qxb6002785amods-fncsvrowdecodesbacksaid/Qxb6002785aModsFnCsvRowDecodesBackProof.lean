/- The proof of Rows.FnCsvRowDecodesBackSaid. The frame is the template of the guide, turned to this function's number and types (its second parameter is a slice of strings); the walk is typed by hand, over the callees' contracts. -/
import Derived.Test.Qxb6002785aModsRows
import Derived.Test.Qxb6002785aModsIn
import Derived.Test.Qxb6002785aModsClone
import Derived.Test.Qxb6002785aModsSame
import Derived.Test.Qxb6002785aModsGuard
import Derived.Test.Qxb6002785aModsRowW
import Derived.Test.Qxb6002785aModsParseRow
import Derived.SliceStrings
import Derived.WalkKit
import Derived.ProofKit
import Derived.OpenShut
import Derived.ShutString
import Derived.ChangeOld
import Derived.Below
namespace Go.Proofs.Qxb6002785aMods.fnCsvRowDecodesBack
open Go.ChangeShapes Go.WideShapes Go.ChangeAt Go.RowKit
open Go.ChangeMaps (open_string shut_string)
set_option linter.unusedVariables false

theorem own : ownKnob Trym.prog.godebug = none := by kernel_rfl
theorem laidOut : laidOutB Trym.prog = true := by kernel_rfl

/-! ### The walk -/
/-- What the walk is told of a slice of strings that came in. -/
def IsStrs (w : World) (a : Option Addr) (len cap : Nat) (ss : List ByteArray) : Prop :=
  (a = none ∧ len = 0 ∧ cap = 0 ∧ ss = []) ∨
  ∃ x, a = some x ∧ len ≤ cap ∧ cap ≤ maxLen ∧ ss.length = cap ∧ (∀ i, i < ss.length → w.cell? (x.add i) = some (.string (ss.getD i ByteArray.empty))) ∧ ∀ s ∈ ss, s.size ≤ maxLen

theorem rd_of_strs {w : World} {a : Option Addr} {len cap : Nat} {ss : List ByteArray} (h : IsStrs w a len cap ss) : ∃ l : List ByteArray, l.length = len ∧ Rd w a cap (S l) := by
  rcases h with ⟨rfl, rfl, rfl, rfl⟩ | ⟨x, rfl, h1, h2, h3, h4, h5⟩
  · exact ⟨[], rfl, ⟨Nat.le_refl _, by unfold maxLen; omega, fun _ => rfl, fun hp => by simp [S] at hp⟩⟩
  · refine ⟨ss.take len, by simp; omega, ⟨by simp [S]; omega, h2, fun e => by simp at e, fun hp => ?_⟩⟩
    have hlen : (S (ss.take len)).length = len := by simp [S]; omega
    obtain ⟨b, off, spot⟩ := x
    have hspot : spot = none := by simpa [Addr.add] using World.cell?_spot (h4 0 (by omega))
    subst hspot
    refine ⟨b, off, rfl, ?_, fun k hk => ?_⟩
    · exact World.block_lt_of_cell? w _ (h4 0 (by omega))
    · rw [hlen] at hk
      rw [← Addr.add_lit, h4 k (by omega)]
      simp [S, List.getD, show k < ss.length by omega]

theorem special_q (s : ByteArray) (w : World) (hs : s.size ≤ maxLen) :
    Calls Trym.prog 12 #[.string s] w fun e w' => e = .returned (.bool (Plain.special s.data.toList)) ∧ w' = w :=
  (special_any s w hs).mono fun _ _ ⟨h1, h2⟩ => ⟨h1, h2.symm⟩

theorem own_drewN {w : World} {B : Nat} {e : TypeId} {v : Value} {n : Nat} {xs : List Value} (h : w.ownsRow B e 1 v n xs) (k : Nat) : (w.drewN k).ownsRow B e 1 v n xs := h

set_option maxRecDepth 20000 in
set_option maxHeartbeats 8000000 in
theorem walk (a0 : Option Addr) (len0 cap0 : Nat) (z0 : List Int) (a1 : Option Addr) (len1 cap1 : Nat) (z1 : List ByteArray) (w : World) (w0 : IsRow .u8 w a0 len0 cap0 z0) (w1 : IsStrs w a1 len1 cap1 z1) :
    Calls Trym.prog 5 #[.slice a0 len0 cap0, .slice a1 len1 cap1] w fun e w' => e = .returned (.bool true) ∧ Below w.heap.size w w' := by
  obtain ⟨l, rfl, hrd⟩ := rd_of_row w0
  obtain ⟨ss, rfl, hrs⟩ := rd_of_strs w1
  clear w0 w1
  have hd1 := hrd.le
  have hd2 := hrd.max
  have hd3 := hrs.le
  have hd4 := hrs.max
  rw [U_length] at hd1
  rw [S_length] at hd3
  unfold maxLen at hd2 hd4
  go_enter Trym.func5, Trym.ntmps5
  go_wp2_with fail
  refine (bytes16_any _ _ _ _ _ _ ss _ hrs rfl (by unfold maxLen; omega)).mono ?_
  rintro e w' ⟨⟨r, rfl, hr⟩, rfl⟩
  cases r with
  | false =>
    go_wp2
    go_ret
    exact ⟨rfl, Below.refl _ _⟩
  | true =>
    have hbd := hr rfl
    clear hr
    by_cases h16 : ss.length ≤ 65536
    · go_wp2_with fail
      refine (rowbytes_any _ _ _ _ _ _ ss _ hrs rfl hbd).mono ?_
      rintro e w' ⟨⟨z, rfl⟩, rfl⟩
      by_cases hz : z ≤ 1048576
      · have hl : l.length ≤ 1048576 := by omega
        have hss : ss.length ≤ 1048576 := by omega
        go_wp2_with fail
        refine (clone_any _ _ l _ hrd hl).mono ?_
        rintro e wa ⟨va, rfl, hownA, hbA⟩
        obtain ⟨aa, ca, rfl, hrdA⟩ := hownA.rd
        go_wp2_with fail
        refine (clones_any _ _ ss _ (hrs.later hbA) hss).mono ?_
        rintro e wb ⟨vb, rfl, hownF, hbF⟩
        obtain ⟨af, cf, rfl, -, hrdF⟩ := rd_of_owns hownF
        have hownA1 : Own wb w.heap.size _ l := own_below hownA hbF
        go_wp2_with fail
        refine (clone_any _ _ l _ (hrdA.later hbF) hl).mono ?_
        rintro e wc ⟨vc, rfl, hownB, hbB⟩
        have hownA2 : Own wc w.heap.size _ l := own_below hownA1 hbB
        have hownF2 := own_below hownF hbB
        have hBc : w.heap.size ≤ wc.heap.size := Nat.le_trans (Nat.le_trans hbA.size hbF.size) hbB.size
        have hbC : Below w.heap.size w wc := hbA.trans ((hbF.mono hbA.size).trans (hbB.mono (Nat.le_trans hbA.size hbF.size)))
        obtain ⟨ab, cb, rfl, hrdB⟩ := hownB.rd
        go_wp2_with fail
        refine (zrow_any _ _ l ss w.heap.size wa.heap.size _ hownA2 hBc hownF2 hbd).mono ?_
        rintro e wd ⟨vd, rfl, hownD, hext, hownF3⟩
        have hownB2 : Own wd wb.heap.size _ l := own_beside hownB hext hownA1 rfl (Nat.le_refl _)
        have hbD : Below w.heap.size w wd := hext.below hbC hBc (fun k hk => (World.ownsRow.lt hownA k hk).1)
        obtain ⟨E, hE⟩ : ∃ E, E = Plain.rowBody (F ss) ++ [10] := ⟨_, rfl⟩
        rw [← hE] at hownD
        have HE : Hid (E = Plain.rowBody (F ss) ++ [10]) := hE
        have hE1 : 1 ≤ E.length := by rw [hE]; simp
        clear hE
        obtain ⟨ad, cd, rfl, hrdD⟩ := hownD.rd
        obtain ⟨ab', cb', e1, hrdB2⟩ := hownB2.rd
        obtain ⟨rfl, -, rfl⟩ := e1
        have hle := hrdD.le
        have hmx := hrdD.max
        rw [U_length, List.length_append] at hle
        unfold maxLen at hmx
        obtain ⟨g, o, rfl, hg, hcD⟩ := hrdD.byte (by rw [List.length_append]; omega)
        have hcc : ¬ cd = l.length := by omega
        have hrdE := Rd.drop hrdD l.length (by simp [U_length])
        rw [show (U (l ++ E)).drop l.length = U E by rw [U_append, List.drop_left' (U_length l)], if_neg hcc] at hrdE
        simp only [Option.map_some, Addr.add_lit] at hrdE
        clear hownA hownA1 hownA2 hownB hownB2 hownF hownF2 hrd hrs hrdA hrdB hrdF hext hownD
        go_wp2_with fail
        refine (begins_eq _ _ _ _ _ _ l E _ hrdD hrdB2 (by simp) rfl).mono ?_
        rintro e wx ⟨rfl, nd, rfl⟩
        by_cases h0 : 0 < ss.length
        · go_wp2_with fail
          refine (prow_any _ _ _ ss E _ (hrdE.drewN nd) HE.out (by simp) h0 (by omega)).mono ?_
          rintro e we ⟨v1, v2, rfl, hinv⟩
          have hbE := hinv.below
          have hownF4 := own_below (own_drewN hownF3 nd) hbE
          obtain ⟨ag, cg, rfl, -, hrdG⟩ := rd_of_owns hinv.fl
          obtain ⟨aq, cq, rfl, -, hrdQ⟩ := rd_of_owns hinv.qt
          obtain ⟨af', cf', e1, -, hrdF4⟩ := rd_of_owns hownF4
          obtain ⟨rfl, -, rfl⟩ := e1
          obtain ⟨bg, og, rfl, -, hcG⟩ := hrdG.str h0
          obtain ⟨bq, oq, rfl, -, hcQ⟩ := hrdQ.bools h0
          obtain ⟨bf, off, rfl, -, hcF⟩ := hrdF4.str h0
          have hbW : Below w.heap.size w we := (belowN hbD nd).trans (hbE.mono hbD.size)
          clear hinv hownF3 hownF4 hrdG hrdQ hrdF4 hrdD hrdE hrdB2 hbE hcD
          go_wp2
          go_loopw [11] (fun i wr => ∃ k m : Nat, k ≤ ss.length ∧ i = .int .i64 k ∧ wr = we.drewN m) (fun i _ => ss.length - (intOf i).toNat)
          case atStart => exact ⟨0, 0, Nat.zero_le _, rfl, rfl⟩
          case round =>
            obtain ⟨k, m, hk, rfl, hwr⟩ := hrel
            have HW : Hid (wr = we.drewN m) := hwr
            clear hwr
            by_cases hlt : k < ss.length
            · have c1 : wr.cell? ⟨bg, og + k, none⟩ = some (.string ss[k]) := by rw [HW.out]; exact hcG k hlt
              have c2 : wr.cell? ⟨bq, oq + k, none⟩ = some (.bool (Plain.special ss[k].data.toList)) := by rw [HW.out]; exact hcQ k hlt
              have c3 : wr.cell? ⟨bf, off + k, none⟩ = some (.string ss[k]) := by rw [HW.out]; exact hcF k hlt
              have hsz := size_le_tot ss k hlt
              have hlt' : (k : Int) < (ss.length : Int) := by omega
              obtain ⟨s, hs⟩ : ∃ s, s = ss[k] := ⟨_, rfl⟩
              rw [← hs] at c1 c2 c3 hsz
              have hsm : s.size ≤ maxLen := by unfold maxLen; omega
              clear hs hcG hcQ hcF
              go_wp2
              go_quiet ((go_at_call 12; exact Calls.quiet_of_same (special_q _ _ hsm)))
              go_wp2
              go_roundw
              case rel => exact ⟨k + 1, _, by omega, by go_num, by rw [HW.out, World.drewN_drewN]⟩
              case measure => simp [intOf]; omega
            · go_wp2
              go_ret
              exact ⟨rfl, by rw [HW.out]; exact belowN hbW m⟩
        · obtain rfl : ss = [] := List.eq_nil_of_length_eq_zero (by omega)
          obtain rfl : E = [10] := HE.out
          have c10 : wd.cell? ⟨g, o + l.length, none⟩ = some (.int .u8 10) := by have := hcD l.length (by simp); simpa using this
          clear hcD hrdD hrdE hrdB2 hownF3
          go_wp2
          go_ret
          exact ⟨rfl, belowN hbD nd⟩
      · go_wp2
        go_ret
        exact ⟨rfl, Below.refl _ _⟩
    · go_wp2
      go_ret
      exact ⟨rfl, Below.refl _ _⟩

/-! ### The row's step (the template's) -/
set_option maxRecDepth 100000 in
theorem lifted (os : Os) (started : os.Started) (H : Type) (enc : TypeId × Value → H) :
    ReturnsInHanded {} Trym.checked os 5 .any (Rows.fnCsvRowDecodesBackSpec.pre6 enc Trym.prog Trym.f5 Rows.fnCsvRowDecodesBackRow.domain false) (Rows.fnCsvRowDecodesBackSpec.post enc Trym.prog Trym.f5 false true false false) := by
  refine returnsInHanded_of_change (C := Trym.checked) own started (by kernel_rfl) Trym.func5
    (ChangeSpec.witness6 (enc := enc) (C := Trym.checked) false ⟨#[], #[.slice none 0 0, .slice none 0 0], []⟩ 8 (by kernel_rfl) (by kernel_rfl) (by kernel_rfl) (by kernel_rfl)) ?_
  intro W base args ds gs before hval0 hW hcnd _
  have hval : ∀ (j : Nat) t v, Trym.f5.params[j]? = some t → args[j]? = some v → Value.okWide Trym.prog W .any base t v := hval0
  have hW' := hW
  obtain ⟨p, q, hA0, hV, rfl, hfz, hnd⟩ := hW
  have hA : DataW.TrodAll enc Trym.prog W 0 (fun _ => true) true Trym.f5.params.toList args.toList ds p := hA0
  rw [Trym.params5] at hA hval
  obtain ⟨v0, vs0, d0, ds0, p0, q0, hargs, rfl, rfl, h0, r0⟩ := trodAll_cons hA
  obtain ⟨v1, vs1, d1, ds1, p1, q1, rfl, rfl, rfl, h1, r1⟩ := trodAll_cons r0
  obtain ⟨rfl, rfl, rfl⟩ := trodAll_nil r1
  obtain rfl : args = #[v0, v1] := by cases args; simp_all
  obtain ⟨rfl, rfl⟩ := trodVars_none hV
  obtain ⟨a0, len0, cap0, rfl⟩ := okWide_slice Trym.underlying22 (hval 0 22 v0 rfl rfl)
  have k0 := h0
  have lt0 : ∀ x ∈ p0, x.block < W.heap.size := by obtain ⟨m, hm⟩ := k0; exact DataW.trod_lt m _ _ _ hm
  obtain ⟨z0, w0⟩ : ∃ zs, IsRow .u8 W a0 len0 cap0 zs := by
    obtain ⟨fuel, hf⟩ := h0
    rcases open_ints Trym.underlying22 Trym.underlying5 (by kernel_rfl) hf with ⟨hcs, _⟩ | ⟨x, l, c, zs, hcs, _, hl, hm, hz, _, hcell, hwz⟩
    · simp [Value.cells] at hcs
      obtain ⟨rfl, rfl, rfl⟩ := hcs
      exact ⟨[], .inl ⟨rfl, rfl, rfl, rfl⟩⟩
    · simp [Value.cells] at hcs
      obtain ⟨rfl, rfl, rfl⟩ := hcs
      exact ⟨zs, .inr ⟨_, rfl, hl, hm, by simpa using hz, hcell, hwz⟩⟩
  obtain ⟨a1, len1, cap1, rfl⟩ := okWide_slice Trym.underlying31 (hval 1 31 v1 rfl rfl)
  have k1 := h1
  have lt1 : ∀ x ∈ p1, x.block < W.heap.size := by obtain ⟨m, hm⟩ := k1; exact DataW.trod_lt m _ _ _ hm
  obtain ⟨z1, w1⟩ : ∃ ss, IsStrs W a1 len1 cap1 ss := by
    obtain ⟨fuel, hf⟩ := h1
    rcases open_strings Trym.underlying31 Trym.underlying9 (by kernel_rfl) hf with ⟨hcs, _⟩ | ⟨x, l, c, ss, hcs, _, hl, hm, hz, _, hcell, hwz⟩
    · simp [Value.cells] at hcs
      obtain ⟨rfl, rfl, rfl⟩ := hcs
      exact ⟨[], .inl ⟨rfl, rfl, rfl, rfl⟩⟩
    · simp [Value.cells] at hcs
      obtain ⟨rfl, rfl, rfl⟩ := hcs
      exact ⟨ss, .inr ⟨_, rfl, hl, hm, by simpa using hz, hcell, hwz⟩⟩
  clear hA0 hval0
  refine (walk a0 len0 cap0 z0 a1 len1 cap1 z1 W w0 w1).mono fun e W' ⟨he, bel⟩ => ?_
  subst he
  exact ⟨_, rfl, _, _, _, [], _, [], hW', trodAll_mk1 (shut_bool Trym.underlying4 _), (trodAll_cons_mk (Below.trod laidOut (by kernel_rfl) (of_decide_eq_true (by kernel_rfl)) k0 bel lt0) (trodAll_cons_mk (Below.trod laidOut (by kernel_rfl) (of_decide_eq_true (by kernel_rfl)) k1 bel lt1) trodAll_mk0)), rfl, bel.frame _, fun h => by cases h⟩

theorem over : Rows.fnCsvRowDecodesBackRow.holds Trym.pinned (OpenSpec.ofChange Rows.fnCsvRowDecodesBackSpec) :=
  OpenClaim.holds_of_wide 5 Trym.f5 rfl rfl rfl rfl rfl rfl rfl ⟨rfl, rfl, rfl, rfl, rfl⟩ rfl rfl rfl rfl rfl (by kernel_rfl) Trym.func5 (by kernel_rfl)
    (of_decide_eq_true (by kernel_rfl)) (by unfold Func.isWrapper; first | (rw [if_pos (by decide +kernel)]; kernel_rfl) | (rw [if_neg (by decide +kernel)]; exact ⟨rfl, rfl⟩))
    (fun os started H enc _ => lifted os started H enc)

/-- The statement. -/
theorem proved : Rows.FnCsvRowDecodesBackSaid := over
end Go.Proofs.Qxb6002785aMods.fnCsvRowDecodesBack
