/- zzClone (8), zzCloneStrings (18): a fresh copy. -/
import Derived.Test.Qxb6002785aModsOwn
namespace Go.Proofs.Qxb6002785aMods
open Go.RowKit

theorem make_bytes (n : Nat) (hn : n ≤ 1048576) (w : World) : ∃ M : List Value, M.length = n ∧
    (Instr.makeSlice 22 (.int .i64 (n : Int)) (.int .i64 (n : Int))).run Trym.prog w = .ok (.slice (some ⟨w.heap.size, 0, none⟩) n n) (w.alloc (.cells M.toArray 5)) := by
  obtain ⟨i0, hi, hz0, hz1, hz2⟩ := info_parts Trym.info5
  refine ⟨(madeCells (Value.int .u8 0).cells n).toList, by simp [size_madeCells], ?_⟩
  rw [run_make (P := Trym.prog) w 22 5 i0 _ Trym.underlying22 hi hz0 .i64 .i64 n n (by omega) (by omega) (by rw [hz2]; omega) (by omega), hz1]
  simp

theorem make_strings (n : Nat) (hn : n ≤ 1048576) (w : World) : ∃ M : List Value, M.length = n ∧
    (Instr.makeSlice 31 (.int .i64 (n : Int)) (.int .i64 (n : Int))).run Trym.prog w = .ok (.slice (some ⟨w.heap.size, 0, none⟩) n n) (w.alloc (.cells M.toArray 9)) := by
  obtain ⟨i0, hi, hz0, hz1, hz2⟩ := info_parts Trym.info9
  refine ⟨(madeCells (Value.string ByteArray.empty).cells n).toList, by simp [size_madeCells], ?_⟩
  rw [run_make (P := Trym.prog) w 31 9 i0 _ Trym.underlying31 hi hz0 .i64 .i64 n n (by omega) (by omega) (by rw [hz2]; omega) (by omega), hz1]
  simp

/-- The copy into a row that was just made. -/
theorem copy_made (t e : TypeId) (ty : TypeId) (hu : Trym.prog.underlying t = some (.slice e)) (hsz : (Trym.prog.info? e).map (·.size) = some 1) (ad : Addr) (cap n : Nat) (xs M : List Value) (w : World) (h : Rd w (some ad) cap xs)
    (hn : xs.length = n) (hM : M.length = n) (h1 : ∀ u ∈ xs, u.oneCell' = true) :
    ∃ w2, (Builtin.copy_ #[t, t] ty #[.slice (some ⟨w.heap.size, 0, none⟩) n n, .slice (some ad) n cap]).run Trym.prog (w.alloc (.cells M.toArray e)) = .ok (.int .i64 n) w2 ∧
      w2.heap[w.heap.size]? = some (.cells xs.toArray e (0, 0)) ∧ Below w.heap.size w w2 := by
  have hb : Below w.heap.size w (w.alloc (.cells M.toArray e)) := (Below.refl _ _).alloc (Nat.le_refl _) _
  have hg : (w.alloc (.cells M.toArray e)).heap[w.heap.size]? = some (.cells M.toArray e (0, 0)) := heap_alloc_new w _
  by_cases h0 : n = 0
  · subst h0
    obtain rfl := List.eq_nil_of_length_eq_zero hn
    obtain rfl := List.eq_nil_of_length_eq_zero hM
    exact ⟨_, run_copy_none (P := Trym.prog) _ t t ty e _ _ 0 0 0 cap hu hsz rfl, hg, hb⟩
  · obtain ⟨b, off, e1, hlt, hc⟩ := (h.later hb).at_ (by omega)
    obtain rfl := Option.some.inj e1
    have hr := run_copy_row (P := Trym.prog) (w.alloc (.cells M.toArray e)) t t ty e w.heap.size 0 n n ⟨b, off, none⟩ n cap M.toArray e xs hu hsz hg (by simp [hn])
      (fun j v hj => by obtain ⟨hj', rfl⟩ := List.getElem?_eq_some_iff.1 hj; rw [Addr.add_lit]; exact hc j hj') (by simp [hn, hM]) h1
    refine ⟨_, by rw [hr, hn]; rfl, ?_, below_setRow hb (Nat.le_refl _) _⟩
    rw [setRow_heap _ _ _ _ e _ hg]
    simp
    omega

set_option maxHeartbeats 400000 in
theorem clone_any (ao : Option Addr) (cap : Nat) (l : List UInt8) (w : World) (h : Rd w ao cap (U l)) (hl : l.length ≤ 1048576) :
    Calls Trym.prog 8 #[.slice ao l.length cap] w fun e w' => ∃ v', e = .returned v' ∧ Own w' w.heap.size v' l ∧ Below w.heap.size w w' := by
  cases ao with
  | none =>
    obtain rfl := h.nil rfl
    obtain rfl : l = [] := List.eq_nil_of_length_eq_zero (by have := h.le; rw [U_length] at this; omega)
    have heq := fun wx => Lib.run_eql_slice_nil (P := Trym.prog) wx 22 5 none 0 0 0 0 Trym.underlying22
    go_enter Trym.func8, Trym.ntmps8
    go_wp2
    go_ret
    exact ⟨_, rfl, World.ownsRow_nil _ _ _ _, Below.refl _ _⟩
  | some ad =>
    have heq := fun wx => Lib.run_eql_slice_nil (P := Trym.prog) wx 22 5 (some ad) l.length cap 0 0 Trym.underlying22
    obtain ⟨M, hM, hmk⟩ := make_bytes l.length hl w
    obtain ⟨w2, hcp, hg, hb⟩ := copy_made 22 5 3 Trym.underlying22 Trym.cells5 ad cap l.length (U l) M w h (U_length l) hM (U_one l)
    have HG : Hid (w2.heap[w.heap.size]? = some (.cells (U l).toArray 5 (0, 0))) := hg
    clear hg hM
    go_enter Trym.func8, Trym.ntmps8
    go_wp2
    go_ret
    exact ⟨_, rfl, own_of_block HG.out (U_length l) (by unfold maxLen; omega) (Nat.le_refl _), hb⟩

/-- Strings as cells. -/
def S (l : List ByteArray) : List Value := l.map Value.string
theorem S_length (l : List ByteArray) : (S l).length = l.length := by simp [S]
theorem S_one (l : List ByteArray) : ∀ u ∈ S l, u.oneCell' = true := by
  intro u hu
  obtain ⟨_, _, rfl⟩ := List.mem_map.1 hu
  rfl

set_option maxHeartbeats 400000 in
theorem clones_any (ao : Option Addr) (cap : Nat) (l : List ByteArray) (w : World) (h : Rd w ao cap (S l)) (hl : l.length ≤ 1048576) :
    Calls Trym.prog 18 #[.slice ao l.length cap] w fun e w' => ∃ v', e = .returned v' ∧ w'.ownsRow w.heap.size 9 1 v' l.length (S l) ∧ Below w.heap.size w w' := by
  cases ao with
  | none =>
    obtain rfl := h.nil rfl
    obtain rfl : l = [] := List.eq_nil_of_length_eq_zero (by have := h.le; rw [S_length] at this; omega)
    have heq := fun wx => Lib.run_eql_slice_nil (P := Trym.prog) wx 31 9 none 0 0 0 0 Trym.underlying31
    go_enter Trym.func18, Trym.ntmps18
    go_wp2
    go_ret
    exact ⟨_, rfl, World.ownsRow_nil _ _ _ _, Below.refl _ _⟩
  | some ad =>
    have heq := fun wx => Lib.run_eql_slice_nil (P := Trym.prog) wx 31 9 (some ad) l.length cap 0 0 Trym.underlying31
    obtain ⟨M, hM, hmk⟩ := make_strings l.length hl w
    obtain ⟨w2, hcp, hg, hb⟩ := copy_made 31 9 3 Trym.underlying31 Trym.cells9 ad cap l.length (S l) M w h (S_length l) hM (S_one l)
    have HG : Hid (w2.heap[w.heap.size]? = some (.cells (S l).toArray 9 (0, 0))) := hg
    clear hg hM
    go_enter Trym.func18, Trym.ntmps18
    go_wp2
    go_ret
    exact ⟨_, rfl, own_of_block HG.out (S_length l) (by unfold maxLen; omega) (Nat.le_refl _), hb⟩
end Go.Proofs.Qxb6002785aMods
