/- The proof of Rows.FnCsvFieldDecodesBackSaid. The frame is the template of the guide at this function's number and types; the walk is typed by hand, over the callees' contracts. -/
import Derived.Test.Qxb6002785aModsRows
import Derived.Test.Qxb6002785aModsIn
import Derived.Test.Qxb6002785aModsClone
import Derived.Test.Qxb6002785aModsSame
import Derived.Test.Qxb6002785aModsField
import Derived.Test.Qxb6002785aModsParse
import Derived.WalkKit
import Derived.ProofKit
import Derived.OpenShut
import Derived.ShutString
import Derived.ChangeOld
import Derived.Below
namespace Go.Proofs.Qxb6002785aMods.fnCsvFieldDecodesBack
open Go.ChangeShapes Go.WideShapes Go.ChangeAt Go.RowKit
open Go.ChangeMaps (open_string shut_string)
set_option linter.unusedVariables false

theorem own : ownKnob Trym.prog.godebug = none := by kernel_rfl
theorem laidOut : laidOutB Trym.prog = true := by kernel_rfl

/-! ### The walk -/
set_option maxHeartbeats 2000000 in
theorem walk (a0 : Option Addr) (len0 cap0 : Nat) (z0 : List Int) (a1 : ByteArray) (w : World) (w0 : IsRow .u8 w a0 len0 cap0 z0) (w1 : a1.size ≤ maxLen) :
    Calls Trym.prog 3 #[.slice a0 len0 cap0, .string a1] w fun e w' => e = .returned (.bool true) ∧ Below w.heap.size w w' := by
  obtain ⟨l, rfl, hrd⟩ := rd_of_row w0
  clear w0
  unfold maxLen at w1
  by_cases hs : l.length + a1.size ≤ 1048576
  · have hl : l.length ≤ 1048576 := by omega
    have hs1 : a1.size ≤ 1048576 := by omega
    go_enter Trym.func3, Trym.ntmps3
    go_wp2_with fail
    refine (bytes7_yes _ _ _ _ _ hs).mono ?_
    rintro e w' ⟨rfl, rfl⟩
    go_wp2_with fail
    refine (clone_any _ _ l _ hrd hl).mono ?_
    rintro e wa ⟨va, rfl, hownA, hbA⟩
    obtain ⟨aa, ca, rfl, hrdA⟩ := hownA.rd
    go_wp2_with fail
    refine (clone_any _ _ l _ hrdA hl).mono ?_
    rintro e wb ⟨vb, rfl, hownB, hbB⟩
    have hownA' : Own wb w.heap.size _ l := own_below hownA hbB
    have hBb : w.heap.size ≤ wb.heap.size := Nat.le_trans hbA.size hbB.size
    obtain ⟨ab, cb, rfl, hrdB⟩ := hownB.rd
    go_wp2_with fail
    refine (zfield_any _ a1 l w.heap.size _ hownA' hBb hs1 (by omega)).mono ?_
    rintro e wc ⟨vc, rfl, hownC, hext⟩
    have hownB' : Own wc wa.heap.size _ l := own_beside hownB hext hownA rfl (Nat.le_refl _)
    have hbC : Below w.heap.size w wc := hext.below (hbA.trans (hbB.mono hbA.size)) hBb (fun k hk => (World.ownsRow.lt hownA k hk).1)
    obtain ⟨ac, cc, rfl, hrdC⟩ := hownC.rd
    obtain ⟨ab', cb', e1, hrdB'⟩ := hownB'.rd
    obtain ⟨rfl, -, rfl⟩ := e1
    have hle := hrdC.le
    have hmx := hrdC.max
    rw [U_length, List.length_append] at hle
    unfold maxLen at hmx
    go_wp2_with fail
    refine (begins_eq _ _ _ _ _ _ l (Plain.enc a1.data.toList) _ hrdC hrdB' (by simp) rfl).mono ?_
    rintro e wd ⟨rfl, nd, rfl⟩
    have hrdD := Rd.drop hrdC l.length (by simp [U_length])
    rw [show (U (l ++ Plain.enc a1.data.toList)).drop l.length = U (Plain.enc a1.data.toList) by rw [U_append, List.drop_left' (U_length l)]] at hrdD
    have hsl : a1.data.toList.length ≤ 1048576 := hs1
    by_cases hcc : cc = l.length
    · subst hcc
      rw [if_pos rfl, Nat.sub_self] at hrdD
      go_wp2_with fail
      have hp := parse_any ac 0 0 a1.data.toList (wc.drewN nd) (hrdD.drewN nd) (by omega) hsl
      rw [str_back] at hp
      refine hp.mono ?_
      rintro e we ⟨rfl, hbE⟩
      go_wp2_with fail
      refine (special_any _ _ (by unfold maxLen; omega)).mono ?_
      rintro e wf ⟨rfl, rfl⟩
      go_wp2
      go_ret
      exact ⟨rfl, (belowN hbC nd).trans (hbE.mono hbC.size)⟩
    · rw [if_neg hcc] at hrdD
      go_wp2_with fail
      have hp := parse_any _ (Plain.enc a1.data.toList).length _ a1.data.toList (wc.drewN nd) (hrdD.drewN nd) rfl hsl
      rw [str_back] at hp
      refine hp.mono ?_
      rintro e we ⟨rfl, hbE⟩
      go_wp2_with fail
      refine (special_any _ _ (by unfold maxLen; omega)).mono ?_
      rintro e wf ⟨rfl, rfl⟩
      go_wp2
      go_ret
      exact ⟨rfl, (belowN hbC nd).trans (hbE.mono hbC.size)⟩
  · go_enter Trym.func3, Trym.ntmps3
    go_wp2_with fail
    refine (bytes7_no _ _ _ _ _ hs).mono ?_
    rintro e w' ⟨rfl, rfl⟩
    go_wp2
    go_ret
    exact ⟨rfl, Below.refl _ _⟩

/-! ### The row's step (the template's) -/
set_option maxRecDepth 100000 in
theorem lifted (os : Os) (started : os.Started) (H : Type) (enc : TypeId × Value → H) :
    ReturnsInHanded {} Trym.checked os 3 .any (Rows.fnCsvFieldDecodesBackSpec.pre6 enc Trym.prog Trym.f3 Rows.fnCsvFieldDecodesBackRow.domain false) (Rows.fnCsvFieldDecodesBackSpec.post enc Trym.prog Trym.f3 false true false false) := by
  refine returnsInHanded_of_change (C := Trym.checked) own started (by kernel_rfl) Trym.func3
    (ChangeSpec.witness6 (enc := enc) (C := Trym.checked) false ⟨#[], #[.slice none 0 0, .string ByteArray.empty], []⟩ 8 (by kernel_rfl) (by kernel_rfl) (by kernel_rfl) (by kernel_rfl)) ?_
  intro W base args ds gs before hval0 hW hcnd _
  have hval : ∀ (j : Nat) t v, Trym.f3.params[j]? = some t → args[j]? = some v → Value.okWide Trym.prog W .any base t v := hval0
  have hW' := hW
  obtain ⟨p, q, hA0, hV, rfl, hfz, hnd⟩ := hW
  have hA : DataW.TrodAll enc Trym.prog W 0 (fun _ => true) true Trym.f3.params.toList args.toList ds p := hA0
  rw [Trym.params3] at hA hval
  obtain ⟨v0, vs0, d0, ds0, p0, q0, hargs, rfl, rfl, h0, r0⟩ := trodAll_cons hA
  obtain ⟨v1, vs1, d1, ds1, p1, q1, rfl, rfl, rfl, h1, r1⟩ := trodAll_cons r0
  obtain ⟨rfl, rfl, rfl⟩ := trodAll_nil r1
  obtain rfl : args = #[v0, v1] := by cases args; simp_all
  obtain ⟨rfl, rfl⟩ := trodVars_none hV
  obtain ⟨a0, len0, cap0, rfl⟩ := okWide_slice Trym.underlying22 (hval 0 22 v0 rfl rfl)
  have k0 := h0
  have lt0 : ∀ x ∈ p0, x.block < W.heap.size := by obtain ⟨m, hm⟩ := k0; exact DataW.trod_lt m _ _ _ hm
  obtain ⟨z0, w0⟩ : ∃ zs, IsRow .u8 W a0 len0 cap0 zs := by
    obtain ⟨fuel, hf⟩ := h0
    rcases open_ints Trym.underlying22 Trym.underlying5 (by kernel_rfl) hf with ⟨hcs, _⟩ | ⟨x, l, c, zs, hcs, _, hl, hm, hz, _, hcell, hwz⟩
    · simp [Value.cells] at hcs
      obtain ⟨rfl, rfl, rfl⟩ := hcs
      exact ⟨[], .inl ⟨rfl, rfl, rfl, rfl⟩⟩
    · simp [Value.cells] at hcs
      obtain ⟨rfl, rfl, rfl⟩ := hcs
      exact ⟨zs, .inr ⟨_, rfl, hl, hm, by simpa using hz, hcell, hwz⟩⟩
  obtain ⟨a1, rfl, rfl, rfl, w1⟩ := open_string Trym.underlying9 (hval 1 9 v1 rfl rfl) h1
  clear hA0 hval0
  refine (walk a0 len0 cap0 z0 a1 W w0 w1).mono fun e W' ⟨he, bel⟩ => ?_
  subst he
  exact ⟨_, rfl, _, _, _, [], _, [], hW', trodAll_mk1 (shut_bool Trym.underlying4 _), (trodAll_cons_mk (Below.trod laidOut (by kernel_rfl) (of_decide_eq_true (by kernel_rfl)) k0 bel lt0) (trodAll_cons_mk (shut_string Trym.underlying9 w1) trodAll_mk0)), rfl, bel.frame _, fun h => by cases h⟩

theorem over : Rows.fnCsvFieldDecodesBackRow.holds Trym.pinned (OpenSpec.ofChange Rows.fnCsvFieldDecodesBackSpec) :=
  OpenClaim.holds_of_wide 3 Trym.f3 rfl rfl rfl rfl rfl rfl rfl ⟨rfl, rfl, rfl, rfl, rfl⟩ rfl rfl rfl rfl rfl (by kernel_rfl) Trym.func3 (by kernel_rfl)
    (of_decide_eq_true (by kernel_rfl)) (by unfold Func.isWrapper; first | (rw [if_pos (by decide +kernel)]; kernel_rfl) | (rw [if_neg (by decide +kernel)]; exact ⟨rfl, rfl⟩))
    (fun os started H enc _ => lifted os started H enc)

/-- The statement. -/
theorem proved : Rows.FnCsvFieldDecodesBackSaid := over
end Go.Proofs.Qxb6002785aMods.fnCsvFieldDecodesBack
