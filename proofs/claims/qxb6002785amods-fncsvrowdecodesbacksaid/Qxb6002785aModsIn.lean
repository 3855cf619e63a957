/- What comes in: a slice of bytes among the arguments; the size guards (7, 13); memory carried along. -/
import Derived.Test.Qxb6002785aModsOwn
import Derived.OpenShut
namespace Go.Proofs.Qxb6002785aMods
open Go.RowKit

/-- What the walk is told of a slice of integers that came in: it is nil; or it leads to a row of 'cap' cells, the numbers 'zs' (the first 'len' are its elements, the rest its spare room), each fitting its kind. -/
def IsRow (k : IntKind) (w : World) (a : Option Addr) (len cap : Nat) (zs : List Int) : Prop :=
  (a = none ∧ len = 0 ∧ cap = 0 ∧ zs = []) ∨
  ∃ x, a = some x ∧ len ≤ cap ∧ cap ≤ maxLen ∧ zs.length = cap ∧ (∀ i, i < zs.length → w.cell? (x.add i) = some (.int k (zs.getD i 0))) ∧ ∀ n ∈ zs, (Lit.int k n).wf = true

theorem rd_of_row {w : World} {a : Option Addr} {len cap : Nat} {zs : List Int} (h : IsRow .u8 w a len cap zs) : ∃ l : List UInt8, l.length = len ∧ Rd w a cap (U l) := by
  rcases h with ⟨rfl, rfl, rfl, rfl⟩ | ⟨x, rfl, h1, h2, h3, h4, h5⟩
  · exact ⟨[], rfl, ⟨Nat.le_refl _, by unfold maxLen; omega, fun _ => rfl, fun hp => by simp [U] at hp⟩⟩
  · refine ⟨(zs.take len).map fun n => UInt8.ofNat n.toNat, by simp; omega, ⟨by simp [U]; omega, h2, fun e => by simp at e, fun hp => ?_⟩⟩
    have hlen : (U ((zs.take len).map fun n => UInt8.ofNat n.toNat)).length = len := by simp [U]; omega
    obtain ⟨b, off, rfl, hc⟩ := ints_at h4 (by omega)
    refine ⟨b, off, rfl, ?_, fun k hk => ?_⟩
    · exact World.block_lt_of_cell? w ⟨b, off + 0, none⟩ (hc 0 (by omega))
    · rw [hlen] at hk
      rw [hc k (by omega)]
      have := bounds_u8 (h5 zs[k] (List.getElem_mem (by omega)))
      simp [U, List.getD, show k < zs.length by omega]
      omega

/-- What is owned stays owned while nothing below the heap's size turns. -/
theorem own_below {w w' : World} {B : Nat} {e : TypeId} {v : Value} {n : Nat} {xs : List Value} (h : w.ownsRow B e 1 v n xs) (hb : Below w.heap.size w w') : w'.ownsRow B e 1 v n xs :=
  World.ownsRow.kept (row := none) h ⟨hb.os, hb.tape, hb.output, hb.size, fun k hk _ => hb.block k hk⟩ (by cases hv : v.ownBlock <;> simp)
/-- A row that was laid later than v's outlives the appends to v. -/
theorem own_beside {w w' : World} {B B' H : Nat} {e e' : TypeId} {v v' u : Value} {n m : Nat} {xs ys : List Value} (h : w.ownsRow B e 1 u n xs) (hx : Ext w v w' v') {w1 : World} (hv : w1.ownsRow B' e' 1 v m ys) (hH : w1.heap.size = H) (hB : H ≤ B) : w'.ownsRow B e 1 u n xs := by
  refine World.ownsRow.kept h hx.grown ?_
  cases hu : u.ownBlock with
  | none => exact .inl rfl
  | some k =>
    refine .inr fun e => ?_
    have h1 := World.ownsRow.lt h k hu
    have h2 := World.ownsRow.lt hv k e.symm
    omega

theorem bytes7_yes (a : Option Addr) (len cap : Nat) (s : ByteArray) (w : World) (h : len + s.size ≤ 1048576) :
    Calls Trym.prog 7 #[.slice a len cap, .string s] w fun e w' => e = .returned (.bool true) ∧ w = w' := by
  go_enter Trym.func7, Trym.ntmps7
  go_wp2
  go_ret
  exact ⟨rfl, rfl⟩
theorem bytes7_no (a : Option Addr) (len cap : Nat) (s : ByteArray) (w : World) (h : ¬ len + s.size ≤ 1048576) :
    Calls Trym.prog 7 #[.slice a len cap, .string s] w fun e w' => e = .returned (.bool false) ∧ w = w' := by
  by_cases h1 : len ≤ 1048576
  · by_cases h2 : s.size ≤ 1048576
    all_goals
      go_enter Trym.func7, Trym.ntmps7
      go_wp2
      go_ret
      exact ⟨rfl, rfl⟩
  · go_enter Trym.func7, Trym.ntmps7
    go_wp2
    go_ret
    exact ⟨rfl, rfl⟩
theorem bytes13_yes (a : Option Addr) (len cap : Nat) (s : ByteArray) (w : World) (h : len + s.size ≤ 1048576) :
    Calls Trym.prog 13 #[.slice a len cap, .string s] w fun e w' => e = .returned (.bool true) ∧ w = w' := by
  go_enter Trym.func13, Trym.ntmps13
  go_wp2
  go_ret
  exact ⟨rfl, rfl⟩
theorem bytes13_no (a : Option Addr) (len cap : Nat) (s : ByteArray) (w : World) (h : ¬ len + s.size ≤ 1048576) :
    Calls Trym.prog 13 #[.slice a len cap, .string s] w fun e w' => e = .returned (.bool false) ∧ w = w' := by
  by_cases h1 : len ≤ 1048576
  · by_cases h2 : s.size ≤ 1048576
    all_goals
      go_enter Trym.func13, Trym.ntmps13
      go_wp2
      go_ret
      exact ⟨rfl, rfl⟩
  · go_enter Trym.func13, Trym.ntmps13
    go_wp2
    go_ret
    exact ⟨rfl, rfl⟩
end Go.Proofs.Qxb6002785aMods
