/- The proof of Rows.FnCsvFieldPrefixAndLengthSaid. The frame is the template of the guide at this function's number and types; the walk is typed by hand, over the callees' contracts. -/
import Derived.Test.Qxb6002785aModsRows
import Derived.Test.Qxb6002785aModsIn
import Derived.Test.Qxb6002785aModsClone
import Derived.Test.Qxb6002785aModsSame
import Derived.Test.Qxb6002785aModsField
import Derived.WalkKit
import Derived.ProofKit
import Derived.OpenShut
import Derived.ShutString
import Derived.ChangeOld
import Derived.Below
namespace Go.Proofs.Qxb6002785aMods.fnCsvFieldPrefixAndLength
open Go.ChangeShapes Go.WideShapes Go.ChangeAt Go.RowKit
open Go.ChangeMaps (open_string shut_string)
set_option linter.unusedVariables false

theorem own : ownKnob Trym.prog.godebug = none := by kernel_rfl
theorem laidOut : laidOutB Trym.prog = true := by kernel_rfl

/-! ### The walk -/
theorem enc_special (l : List UInt8) (h : Plain.special l = true) : (Plain.enc l).length ≤ l.length + (Plain.quotes l + 2) ∧ l.length + (Plain.quotes l + 2) ≤ (Plain.enc l).length := by
  have := Plain.length_enc l
  rw [h] at this
  simp only [if_true] at this
  omega
theorem enc_plain (l : List UInt8) (h : Plain.special l = false) : (Plain.enc l).length ≤ l.length ∧ l.length ≤ (Plain.enc l).length := by
  have := Plain.length_enc l
  rw [h] at this
  simp at this
  omega

set_option maxHeartbeats 4000000 in
theorem walk (a0 : Option Addr) (len0 cap0 : Nat) (z0 : List Int) (a1 : ByteArray) (w : World) (w0 : IsRow .u8 w a0 len0 cap0 z0) (w1 : a1.size ≤ maxLen) :
    Calls Trym.prog 4 #[.slice a0 len0 cap0, .string a1] w fun e w' => e = .returned (.bool true) ∧ Below w.heap.size w w' := by
  obtain ⟨l, rfl, hrd⟩ := rd_of_row w0
  clear w0
  unfold maxLen at w1
  by_cases hs : l.length + a1.size ≤ 1048576
  · have hl : l.length ≤ 1048576 := by omega
    have hs1 : a1.size ≤ 1048576 := by omega
    go_enter Trym.func4, Trym.ntmps4
    go_wp2_with fail
    refine (bytes13_yes _ _ _ _ _ hs).mono ?_
    rintro e w' ⟨rfl, rfl⟩
    go_wp2_with fail
    refine (clone_any _ _ l _ hrd hl).mono ?_
    rintro e wa ⟨va, rfl, hownA, hbA⟩
    obtain ⟨aa, ca, rfl, hrdA⟩ := hownA.rd
    go_wp2_with fail
    refine (clone_any _ _ l _ hrdA hl).mono ?_
    rintro e wb ⟨vb, rfl, hownB, hbB⟩
    obtain ⟨ab, cb, rfl, hrdB⟩ := hownB.rd
    go_wp2_with fail
    refine (zfield_any _ a1 [] wb.heap.size _ (World.ownsRow_nil _ _ _ _) (Nat.le_refl _) hs1 (by simp)).mono ?_
    rintro e wc ⟨vc, rfl, hownC, hextC⟩
    have hbC : Below wb.heap.size wb wc := hextC.below (Below.refl _ _) (Nat.le_refl _) (fun k hk => by simp [Value.ownBlock] at hk)
    rw [List.nil_append] at hownC
    have hq := Plain.quotes_le a1.data.toList
    rw [str_size] at hq
    have hE1 := Plain.length_enc_le a1.data.toList
    rw [str_size] at hE1
    have hEs := enc_special a1.data.toList
    have hEp := enc_plain a1.data.toList
    rw [str_size] at hEs hEp
    obtain ⟨E, hE⟩ : ∃ E, E = Plain.enc a1.data.toList := ⟨_, rfl⟩
    rw [← hE] at hownC hE1 hEs hEp
    have HE : Hid (E = Plain.enc a1.data.toList) := hE
    clear hE
    have hownB' : Own wc wa.heap.size _ l := own_below hownB hbC
    have hownA' : Own wc w.heap.size _ l := own_below (own_below hownA hbB) hbC
    have hBc : w.heap.size ≤ wc.heap.size := Nat.le_trans (Nat.le_trans hbA.size hbB.size) hbC.size
    obtain ⟨ac, cc, rfl, hrdC⟩ := hownC.rd
    go_wp2_with fail
    refine (zfield_any _ a1 l w.heap.size _ hownA' hBc hs1 (by omega)).mono ?_
    rintro e wd ⟨vd, rfl, hownD, hext⟩
    rw [← HE.out] at hownD
    have hownB2 : Own wd wa.heap.size _ l := own_beside hownB' hext hownA rfl (Nat.le_refl _)
    have hownC2 : Own wd wb.heap.size _ E := own_beside hownC hext hownA rfl hbB.size
    have hbD : Below w.heap.size w wd := hext.below (hbA.trans ((hbB.mono hbA.size).trans (hbC.mono (Nat.le_trans hbA.size hbB.size)))) hBc (fun k hk => (World.ownsRow.lt hownA k hk).1)
    obtain ⟨ad, cd, rfl, hrdD⟩ := hownD.rd
    obtain ⟨ab', cb', e1, hrdB'⟩ := hownB2.rd
    obtain ⟨rfl, -, rfl⟩ := e1
    obtain ⟨ac', cc', e1, hrdC'⟩ := hownC2.rd
    obtain ⟨rfl, -, rfl⟩ := e1
    clear hownA hownB hownC hownD hownB' hownA' hownB2 hownC2 hext hextC hrd hrdA hrdB hrdC
    cases hsp : Plain.special a1.data.toList with
    | true =>
      obtain ⟨e1, e2⟩ := hEs hsp
      clear hEs hEp
      have HS : Hid (Plain.special a1.data.toList = true) := hsp
      clear hsp
      go_wp2_with fail
      have hc := special_any a1 wd (by unfold maxLen; omega)
      rw [HS.out] at hc
      refine hc.mono ?_
      rintro e wx ⟨rfl, rfl⟩
      clear hc
      go_wp2_with fail
      refine (count_any a1 _ (by unfold maxLen; omega)).mono ?_
      rintro e wx ⟨rfl, rfl⟩
      have hle := hrdD.le
      have hmx := hrdD.max
      rw [U_length, List.length_append] at hle
      unfold maxLen at hmx
      have hrdE := Rd.drop hrdD l.length (by simp [U_length])
      rw [show (U (l ++ E)).drop l.length = U E by rw [U_append, List.drop_left' (U_length l)]] at hrdE
      by_cases hcc : cd = l.length
      · exfalso
        omega
      · rw [if_neg hcc] at hrdE
        go_wp2_with fail
        refine (begins_eq _ _ _ _ _ _ l E _ hrdD hrdB' (by simp) rfl).mono ?_
        rintro e wx ⟨rfl, nd, rfl⟩
        go_wp2_with fail
        refine (same_eq _ _ _ _ _ _ E _ (hrdE.drewN nd) (hrdC'.drewN nd) (by simp) (by simp)).mono ?_
        rintro e wx ⟨rfl, ne, rfl⟩
        go_wp2
        go_ret
        exact ⟨rfl, belowN hbD _⟩
    | false =>
      obtain ⟨e1, e2⟩ := hEp hsp
      clear hEs hEp
      have HS : Hid (Plain.special a1.data.toList = false) := hsp
      clear hsp
      go_wp2_with fail
      have hc := special_any a1 wd (by unfold maxLen; omega)
      rw [HS.out] at hc
      refine hc.mono ?_
      rintro e wx ⟨rfl, rfl⟩
      clear hc
      have hle := hrdD.le
      have hmx := hrdD.max
      rw [U_length, List.length_append] at hle
      unfold maxLen at hmx
      have hrdE := Rd.drop hrdD l.length (by simp [U_length])
      rw [show (U (l ++ E)).drop l.length = U E by rw [U_append, List.drop_left' (U_length l)]] at hrdE
      by_cases hcc : cd = l.length
      · subst hcc
        rw [if_pos rfl, Nat.sub_self] at hrdE
        go_wp2_with fail
        refine (begins_eq _ _ _ _ _ _ l E _ hrdD hrdB' (by simp) rfl).mono ?_
        rintro e wx ⟨rfl, nd, rfl⟩
        go_wp2_with fail
        refine (same_eq _ _ _ _ _ _ E _ (hrdE.drewN nd) (hrdC'.drewN nd) (by omega) (by simp)).mono ?_
        rintro e wx ⟨rfl, ne, rfl⟩
        go_wp2
        go_ret
        exact ⟨rfl, belowN hbD _⟩
      · rw [if_neg hcc] at hrdE
        go_wp2_with fail
        refine (begins_eq _ _ _ _ _ _ l E _ hrdD hrdB' (by simp) rfl).mono ?_
        rintro e wx ⟨rfl, nd, rfl⟩
        go_wp2_with fail
        refine (same_eq _ _ _ _ _ _ E _ (hrdE.drewN nd) (hrdC'.drewN nd) (by simp) (by simp)).mono ?_
        rintro e wx ⟨rfl, ne, rfl⟩
        go_wp2
        go_ret
        exact ⟨rfl, belowN hbD _⟩
  · go_enter Trym.func4, Trym.ntmps4
    go_wp2_with fail
    refine (bytes13_no _ _ _ _ _ hs).mono ?_
    rintro e w' ⟨rfl, rfl⟩
    go_wp2
    go_ret
    exact ⟨rfl, Below.refl _ _⟩

/-! ### The row's step (the template's) -/
set_option maxRecDepth 100000 in
theorem lifted (os : Os) (started : os.Started) (H : Type) (enc : TypeId × Value → H) :
    ReturnsInHanded {} Trym.checked os 4 .any (Rows.fnCsvFieldPrefixAndLengthSpec.pre6 enc Trym.prog Trym.f4 Rows.fnCsvFieldPrefixAndLengthRow.domain false) (Rows.fnCsvFieldPrefixAndLengthSpec.post enc Trym.prog Trym.f4 false true false false) := by
  refine returnsInHanded_of_change (C := Trym.checked) own started (by kernel_rfl) Trym.func4
    (ChangeSpec.witness6 (enc := enc) (C := Trym.checked) false ⟨#[], #[.slice none 0 0, .string ByteArray.empty], []⟩ 8 (by kernel_rfl) (by kernel_rfl) (by kernel_rfl) (by kernel_rfl)) ?_
  intro W base args ds gs before hval0 hW hcnd _
  have hval : ∀ (j : Nat) t v, Trym.f4.params[j]? = some t → args[j]? = some v → Value.okWide Trym.prog W .any base t v := hval0
  have hW' := hW
  obtain ⟨p, q, hA0, hV, rfl, hfz, hnd⟩ := hW
  have hA : DataW.TrodAll enc Trym.prog W 0 (fun _ => true) true Trym.f4.params.toList args.toList ds p := hA0
  rw [Trym.params4] at hA hval
  obtain ⟨v0, vs0, d0, ds0, p0, q0, hargs, rfl, rfl, h0, r0⟩ := trodAll_cons hA
  obtain ⟨v1, vs1, d1, ds1, p1, q1, rfl, rfl, rfl, h1, r1⟩ := trodAll_cons r0
  obtain ⟨rfl, rfl, rfl⟩ := trodAll_nil r1
  obtain rfl : args = #[v0, v1] := by cases args; simp_all
  obtain ⟨rfl, rfl⟩ := trodVars_none hV
  obtain ⟨a0, len0, cap0, rfl⟩ := okWide_slice Trym.underlying22 (hval 0 22 v0 rfl rfl)
  have k0 := h0
  have lt0 : ∀ x ∈ p0, x.block < W.heap.size := by obtain ⟨m, hm⟩ := k0; exact DataW.trod_lt m _ _ _ hm
  obtain ⟨z0, w0⟩ : ∃ zs, IsRow .u8 W a0 len0 cap0 zs := by
    obtain ⟨fuel, hf⟩ := h0
    rcases open_ints Trym.underlying22 Trym.underlying5 (by kernel_rfl) hf with ⟨hcs, _⟩ | ⟨x, l, c, zs, hcs, _, hl, hm, hz, _, hcell, hwz⟩
    · simp [Value.cells] at hcs
      obtain ⟨rfl, rfl, rfl⟩ := hcs
      exact ⟨[], .inl ⟨rfl, rfl, rfl, rfl⟩⟩
    · simp [Value.cells] at hcs
      obtain ⟨rfl, rfl, rfl⟩ := hcs
      exact ⟨zs, .inr ⟨_, rfl, hl, hm, by simpa using hz, hcell, hwz⟩⟩
  obtain ⟨a1, rfl, rfl, rfl, w1⟩ := open_string Trym.underlying9 (hval 1 9 v1 rfl rfl) h1
  clear hA0 hval0
  refine (walk a0 len0 cap0 z0 a1 W w0 w1).mono fun e W' ⟨he, bel⟩ => ?_
  subst he
  exact ⟨_, rfl, _, _, _, [], _, [], hW', trodAll_mk1 (shut_bool Trym.underlying4 _), (trodAll_cons_mk (Below.trod laidOut (by kernel_rfl) (of_decide_eq_true (by kernel_rfl)) k0 bel lt0) (trodAll_cons_mk (shut_string Trym.underlying9 w1) trodAll_mk0)), rfl, bel.frame _, fun h => by cases h⟩

theorem over : Rows.fnCsvFieldPrefixAndLengthRow.holds Trym.pinned (OpenSpec.ofChange Rows.fnCsvFieldPrefixAndLengthSpec) :=
  OpenClaim.holds_of_wide 4 Trym.f4 rfl rfl rfl rfl rfl rfl rfl ⟨rfl, rfl, rfl, rfl, rfl⟩ rfl rfl rfl rfl rfl (by kernel_rfl) Trym.func4 (by kernel_rfl)
    (of_decide_eq_true (by kernel_rfl)) (by unfold Func.isWrapper; first | (rw [if_pos (by decide +kernel)]; kernel_rfl) | (rw [if_neg (by decide +kernel)]; exact ⟨rfl, rfl⟩))
    (fun os started H enc _ => lifted os started H enc)

/-- The statement. -/
theorem proved : Rows.FnCsvFieldPrefixAndLengthSaid := over
end Go.Proofs.Qxb6002785aMods.fnCsvFieldPrefixAndLength
