/- Rows of strings and of bools beside rows of bytes; the sums of lengths. -/
import Derived.Test.Qxb6002785aModsIn
import Derived.Test.Qxb6002785aModsClone
namespace Go.Proofs.Qxb6002785aMods
open Go.RowKit

/-- The bytes of each string. -/
def F (ss : List ByteArray) : List (List UInt8) := ss.map fun s => s.data.toList
/-- The sum of the lengths. -/
def tot (ss : List ByteArray) : Nat := Plain.rowSize (F ss)
/-- Which fields are quoted, as cells. -/
def Qs (ss : List ByteArray) : List Value := ss.map fun s => Value.bool (Plain.special s.data.toList)
theorem F_length (ss : List ByteArray) : (F ss).length = ss.length := by simp [F]
theorem F_append (a b : List ByteArray) : F (a ++ b) = F a ++ F b := by simp [F]
theorem Qs_length (ss : List ByteArray) : (Qs ss).length = ss.length := by simp [Qs]
theorem tot_take_succ (ss : List ByteArray) (k : Nat) (h : k < ss.length) : tot (ss.take (k + 1)) = tot (ss.take k) + ss[k].size := by
  rw [List.take_succ_eq_append_getElem h]
  unfold tot
  rw [F_append, Plain.rowSize_append]
  rfl
theorem tot_take_le (ss : List ByteArray) (k : Nat) : tot (ss.take k) ≤ tot ss := by
  have e : tot ss = tot (ss.take k) + tot (ss.drop k) := by
    unfold tot
    rw [← Plain.rowSize_append, ← F_append, List.take_append_drop]
  omega
theorem size_le_tot (ss : List ByteArray) (k : Nat) (h : k < ss.length) : ss[k].size ≤ tot ss := by
  have h1 := tot_take_succ ss k h
  have h2 := tot_take_le ss (k + 1)
  omega
theorem tot_all (ss : List ByteArray) (k : Nat) (h : ss.length ≤ k) : tot (ss.take k) = tot ss := by rw [List.take_of_length_le h]

/-- The strings of a slice that can be read. -/
theorem Rd.str {w : World} {ao : Option Addr} {cap : Nat} {l : List ByteArray} (h : Rd w ao cap (S l)) (hp : 0 < l.length) :
    ∃ b off, ao = some ⟨b, off, none⟩ ∧ b < w.heap.size ∧ ∀ k, (hk : k < l.length) → w.cell? ⟨b, off + k, none⟩ = some (.string l[k]) := by
  obtain ⟨b, off, e, hb, hc⟩ := h.at_ (by rw [S_length]; exact hp)
  refine ⟨b, off, e, hb, fun k hk => ?_⟩
  rw [hc k (by rw [S_length]; exact hk)]
  simp [S]
/-- The bools of a slice that can be read. -/
theorem Rd.bools {w : World} {ao : Option Addr} {cap : Nat} {l : List ByteArray} (h : Rd w ao cap (Qs l)) (hp : 0 < l.length) :
    ∃ b off, ao = some ⟨b, off, none⟩ ∧ b < w.heap.size ∧ ∀ k, (hk : k < l.length) → w.cell? ⟨b, off + k, none⟩ = some (.bool (Plain.special l[k].data.toList)) := by
  obtain ⟨b, off, e, hb, hc⟩ := h.at_ (by rw [Qs_length]; exact hp)
  refine ⟨b, off, e, hb, fun k hk => ?_⟩
  rw [hc k (by rw [Qs_length]; exact hk)]
  simp [Qs]

/-- One element more: 'xs = append(xs, x)', an element of one cell. -/
theorem wpList_pushG {ops : Array Oper} {rest : List Oper} {o : Oper} {a : Act} {Q : Exit → Act → World → Prop} (wr : World) (hgd : o.guard = none) (s x : Operand) (t : TypeId)
    (ho : o.op = .call { callee := .builtin .append, args := #[s, x], argTypes := #[t, t] }) (e : TypeId) (zero : Value) (bytes : Nat) (ht : Trym.prog.underlying t = some (.slice e))
    (hinfo : (Trym.prog.info? e).map (fun i => (i.zero, i.size, i.bytes)) = some (some zero, 1, bytes)) (hzc : zero.cells.size = 1)
    (B : Nat) (v : Value) (n : Nat) (xs : List Value) (hs : a.eval s = v) (hown : wr.ownsRow B e 1 v n xs) (z : Value) (hz : z.oneCell' = true)
    (hx : a.eval x = .slice (some ⟨wr.heap.size, 0, none⟩) 1 1) (hl : (n + 1) * bytes ≤ 140737488355328) (hl2 : n + 1 ≤ maxLen) (hB : B ≤ wr.heap.size)
    (h : ∀ v' w', w'.ownsRow B e 1 v' (n + 1) (xs ++ [z]) → Ext wr v w' v' → wpList Trym.prog ops Q rest (a.put o.dst v') w') :
    wpList Trym.prog ops Q (o :: rest) a (wr.alloc (.cells #[z] e)) := by
  obtain ⟨i0, hi, hz0, hz1, hz2⟩ := info_parts hinfo
  refine wpList_append_own_at _ hgd s x t ho B e i0 zero 1 bytes ht hi hz0 hz1 hz2 hzc (by decide) v n xs hs (World.ownsRow.alloc hown _)
    ⟨wr.heap.size, 0, none⟩ 1 1 [z] hx rfl (cell_one_new _ _ _) ?_ hl2 hl (by simp; omega) ?_
  · intro u hu
    simp at hu
    subst hu
    exact hz
  · intro v' w' h1 h2 _ h4
    refine h v' w' h1 ((Ext.alloc wr v _).trans ⟨h2, ?_⟩)
    rcases h4 with e | e
    · exact .inl e
    · exact .inr ⟨_, e, Nat.le_refl _⟩

/-- A row of other elements outlives the appends to v. -/
theorem own_other {w w' : World} {B B' : Nat} {e e' : TypeId} {v v' u : Value} {n m : Nat} {xs ys : List Value} (h : w.ownsRow B e 1 u n xs) (hx : Ext w v w' v') (hv : w.ownsRow B' e' 1 v m ys) (hne : e ≠ e') : w'.ownsRow B e 1 u n xs := by
  refine World.ownsRow.kept h hx.grown ?_
  rcases h.2 with ⟨rfl, _⟩ | ⟨g, cap, cur, rfl, _, hg, _⟩
  · exact .inl rfl
  · refine .inr fun hb => ?_
    rcases hv.2 with ⟨rfl, _⟩ | ⟨g', cap', cur', rfl, _, hg', _⟩
    · simp [Value.ownBlock] at hb
    · simp only [Value.ownBlock, Option.some.injEq] at hb
      subst hb
      rw [hg] at hg'
      simp at hg'
      exact hne hg'.2
end Go.Proofs.Qxb6002785aMods
