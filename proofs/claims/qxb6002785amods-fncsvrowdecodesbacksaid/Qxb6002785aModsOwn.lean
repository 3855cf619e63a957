/- What the walks carry of slices: rows of bytes that a call owns, slices that are read, how memory grows. -/
import Derived.Test.Qxb6002785aModsRows
import Derived.Test.Qxb6002785aModsPlain
import Derived.WalkKit
import Derived.WalkSpells
import Derived.Lib.AppendStr
import Derived.Maps.AppendAt
import Derived.Laws.CopyOwn
import Derived.Laws.BytesArg
import Derived.Deep.QuietTactic
import Derived.BigQuiet
namespace Go.Proofs.Qxb6002785aMods
open Go.RowKit

theorem Trym.info5 : (Trym.prog.info? 5).map (fun i => (i.zero, i.size, i.bytes)) = some (some (.int .u8 0), 1, 1) := by kernel_rfl
theorem Trym.info9 : (Trym.prog.info? 9).map (fun i => (i.zero, i.size, i.bytes)) = some (some (.string ByteArray.empty), 1, 16) := by kernel_rfl
theorem Trym.info4 : (Trym.prog.info? 4).map (fun i => (i.zero, i.size, i.bytes)) = some (some (.bool false), 1, 1) := by kernel_rfl
theorem Trym.cells5 : (Trym.prog.info? 5).map (·.size) = some 1 := by kernel_rfl
theorem Trym.cells9 : (Trym.prog.info? 9).map (·.size) = some 1 := by kernel_rfl

/-- Bytes as cells. -/
def U (l : List UInt8) : List Value := l.map fun b => Value.int .u8 b.toNat
theorem U_length (l : List UInt8) : (U l).length = l.length := by simp [U]
theorem U_append (a b : List UInt8) : U (a ++ b) = U a ++ U b := by simp [U]
theorem U_one (l : List UInt8) : ∀ u ∈ U l, u.oneCell' = true := by
  intro u hu
  obtain ⟨_, _, rfl⟩ := List.mem_map.1 hu
  rfl
theorem U_get (l : List UInt8) (k : Nat) (h : k < l.length) : (U l)[k]? = some (.int .u8 (l[k].toNat : Int)) := by
  simp [U, List.getElem?_eq_getElem h]

/-- A slice of bytes that the call owns, its row lying among the blocks from B on. -/
def Own (w : World) (B : Nat) (v : Value) (l : List UInt8) : Prop := w.ownsRow B 5 1 v l.length (U l)

/-- From w to w' only the row of v was written, and new blocks were laid; v' lies in that row or in a new block. -/
structure Ext (w : World) (v : Value) (w' : World) (v' : Value) : Prop where
  grown : w.grownBy w' v.ownBlock
  lies : v'.ownBlock = v.ownBlock ∨ ∃ g, v'.ownBlock = some g ∧ w.heap.size ≤ g

theorem Ext.refl (w : World) (v : Value) : Ext w v w v := ⟨World.grownBy.refl w _, .inl rfl⟩
theorem Ext.alloc (w : World) (v : Value) (o : Obj) : Ext w v (w.alloc o) v := ⟨World.grownBy_alloc w o _, .inl rfl⟩
theorem Ext.trans {w w1 w2 : World} {v v1 v2 : Value} (h : Ext w v w1 v1) (k : Ext w1 v1 w2 v2) : Ext w v w2 v2 := by
  refine ⟨⟨k.grown.os.trans h.grown.os, k.grown.tape.trans h.grown.tape, k.grown.output.trans h.grown.output, Nat.le_trans h.grown.size k.grown.size, fun i hi hne => ?_⟩, ?_⟩
  · refine (k.grown.block i (Nat.lt_of_lt_of_le hi h.grown.size) ?_).trans (h.grown.block i hi hne)
    rcases h.lies with e | ⟨g, e, hg⟩
    · rw [e]; exact hne
    · rw [e]; intro hh; have := Option.some.inj hh; omega
  · rcases k.lies with e | ⟨g, e, hg⟩
    · rcases h.lies with e' | ⟨g', e', hg'⟩
      · exact .inl (e.trans e')
      · exact .inr ⟨g', e.trans e', hg'⟩
    · exact .inr ⟨g, e, Nat.le_trans h.grown.size hg⟩
/-- What lies below B stays, where v's row does not lie there. -/
theorem Ext.below {w w' : World} {v v' : Value} {B : Nat} {w0 : World} (h : Ext w v w' v') (hb : Below B w0 w) (hB : B ≤ w.heap.size) (hv : ∀ k, v.ownBlock = some k → B ≤ k) : Below B w0 w' :=
  hb.grown h.grown hB hv

/-- One byte more: 'x = append(x, c)'. -/
theorem wpList_push {ops : Array Oper} {rest : List Oper} {o : Oper} {a : Act} {Q : Exit → Act → World → Prop} (wr : World) (hgd : o.guard = none) (s x : Operand)
    (ho : o.op = .call { callee := .builtin .append, args := #[s, x], argTypes := #[22, 22] })
    (B : Nat) (v : Value) (l : List UInt8) (hs : a.eval s = v) (hown : Own wr B v l) (c : UInt8) (z : Int) (hz : z = (c.toNat : Int))
    (hx : a.eval x = .slice (some ⟨wr.heap.size, 0, none⟩) 1 1) (hl : l.length + 1 ≤ 140737488355328) (hB : B ≤ wr.heap.size)
    (h : ∀ v' w', Own w' B v' (l ++ [c]) → Ext wr v w' v' → wpList Trym.prog ops Q rest (a.put o.dst v') w') :
    wpList Trym.prog ops Q (o :: rest) a (wr.alloc (.cells #[.int .u8 z] 5)) := by
  obtain ⟨i0, hi, hz0, hz1, hz2⟩ := info_parts Trym.info5
  refine wpList_append_own_at _ hgd s x 22 ho B 5 i0 (.int .u8 0) 1 1 Trym.underlying22 hi hz0 hz1 hz2 rfl (by decide) v l.length (U l) hs (World.ownsRow.alloc hown _)
    ⟨wr.heap.size, 0, none⟩ 1 1 [.int .u8 z] hx rfl (cell_one_new _ _ _) ?_ (by unfold maxLen; omega) (by omega) (by simp; omega) ?_
  · intro u hu
    simp at hu
    subst hu
    rfl
  · intro v' w' h1 h2 _ h4
    refine h v' w' ?_ ((Ext.alloc wr v _).trans ⟨h2, ?_⟩)
    · unfold Own
      rw [U_append, List.length_append]
      subst hz
      exact h1
    · rcases h4 with e | e
      · exact .inl e
      · exact .inr ⟨_, e, Nat.le_refl _⟩

/-- A string's bytes more: 'append(x, s...)'. -/
theorem run_push_string (w : World) (ty : TypeId) (B : Nat) (v : Value) (l : List UInt8) (hown : Own w B v l) (s : ByteArray) (hl : l.length + s.size ≤ 140737488355328) (hB : B ≤ w.heap.size) :
    ∃ v' w', (Builtin.append_ #[22, 9] ty #[v, .string s]).run Trym.prog w = .ok v' w' ∧ Own w' B v' (l ++ s.data.toList) ∧ Ext w v w' v' := by
  obtain ⟨i0, hi, hz0, hz1, hz2⟩ := info_parts Trym.info5
  obtain ⟨v', w', hr, h2, h3, h4⟩ := Lib.run_append_own_string (P := Trym.prog) w B 22 9 ty 5 i0 Trym.underlying22 Trym.underlying9 hi hz0 hz1 hz2 v l.length (U l) hown s (by unfold maxLen; omega) hl hB
  refine ⟨v', w', hr, ?_, h3, ?_⟩
  · unfold Own
    rw [U_append, List.length_append]
    exact h2
  · have hll : (U l).length = l.length := U_length l
    rcases hown.2 with ⟨rfl, h0⟩ | ⟨g, cap, cur, rfl, hbg, hg, hnc, hcm, hcs, htake⟩
    · by_cases hs0 : s.size = 0
      · rw [h4.2 ⟨rfl, hs0⟩]
        exact .inl rfl
      · have hr2 := run_append_nil_string (P := Trym.prog) w 22 9 ty 5 i0 (.int .u8 0) Trym.underlying22 Trym.underlying9 hi hz0 s (by omega) (by omega) (by rw [hz2]; omega)
        rw [hr] at hr2
        simp only [Result.ok.injEq] at hr2
        rw [hr2.1]
        exact .inr ⟨_, rfl, Nat.le_refl _⟩
    · by_cases hroom : l.length + s.size ≤ cap
      · have hr2 := Lib.run_append_room_string (P := Trym.prog) w 22 9 ty 5 i0 Trym.underlying22 Trym.underlying9 hi hz1 g l.length cap cur hg s hroom (by omega)
        rw [hr] at hr2
        simp only [Result.ok.injEq] at hr2
        rw [hr2.1]
        exact .inl rfl
      · have hr2 := Lib.run_append_grow_string (P := Trym.prog) w 22 9 ty 5 i0 (.int .u8 0) Trym.underlying22 Trym.underlying9 hi hz0 ⟨g, 0, none⟩ l.length cap (U l) (by rw [hz1]; omega) (World.ownsRow.cells hown (g := g) rfl) s (by omega) (by omega)
          (by rw [hz2]; exact growslice_fits (by omega) (by omega))
        rw [hr] at hr2
        simp only [Result.ok.injEq] at hr2
        rw [hr2.1]
        exact .inr ⟨_, rfl, Nat.le_refl _⟩
theorem wpList_push_string {ops : Array Oper} {rest : List Oper} {o : Oper} {a : Act} {Q : Exit → Act → World → Prop} (wr : World) (hgd : o.guard = none) (sl x : Operand)
    (ho : o.op = .call { callee := .builtin .append, args := #[sl, x], argTypes := #[22, 9] })
    (B : Nat) (v : Value) (l : List UInt8) (hs : a.eval sl = v) (hown : Own wr B v l) (s : ByteArray) (hx : a.eval x = .string s) (hl : l.length + s.size ≤ 140737488355328) (hB : B ≤ wr.heap.size)
    (h : ∀ v' w', Own w' B v' (l ++ s.data.toList) → Ext wr v w' v' → wpList Trym.prog ops Q rest (a.put o.dst v') w') :
    wpList Trym.prog ops Q (o :: rest) a wr := by
  refine wpList_plain hgd fun K hK => ?_
  obtain ⟨v', w', hr, h2, h3⟩ := run_push_string wr o.type B v l hown s hl hB
  unfold Oper.wp execOp
  simp only [ho, resolve, invoke, builtin, Sem.run_bind, Sem.run_pure, Result.andThen_ok, List.map_toArray, List.map_cons, List.map_nil, hs, hx, hr]
  exact hK _ _ (h v' w' h2 h3)

/-- A slice that can be read, its elements of one cell each: nil or not, cut or not. -/
structure Rd (w : World) (ao : Option Addr) (cap : Nat) (xs : List Value) : Prop where
  le : xs.length ≤ cap
  max : cap ≤ maxLen
  nil : ao = none → cap = 0
  at_ : 0 < xs.length → ∃ b off, ao = some ⟨b, off, none⟩ ∧ b < w.heap.size ∧ ∀ k, (h : k < xs.length) → w.cell? ⟨b, off + k, none⟩ = some xs[k]
/-- What is owned can be read. -/
theorem rd_of_owns {w : World} {B : Nat} {e : TypeId} {v : Value} {n : Nat} {xs : List Value} (h : w.ownsRow B e 1 v n xs) : ∃ ao cap, v = .slice ao n cap ∧ n = xs.length ∧ Rd w ao cap xs := by
  have hl : xs.length = n := by simpa using h.1
  rcases h.2 with ⟨rfl, h0⟩ | ⟨g, cap, cur, rfl, hb, hg, hn, hm, hc, ht⟩
  · refine ⟨none, 0, by rw [h0], hl.symm, ⟨by omega, by unfold maxLen; omega, fun _ => rfl, fun hp => by omega⟩⟩
  · refine ⟨_, cap, rfl, hl.symm, ⟨by omega, hm, fun e => by simp at e, fun hp => ⟨g, 0, rfl, (Array.getElem?_eq_some_iff.1 hg).1, fun k hk => ?_⟩⟩⟩
    have := World.ownsRow.cellAt h k (by omega)
    rw [Nat.zero_add, this]
    exact List.getElem?_eq_getElem hk
theorem Own.rd {w : World} {B : Nat} {v : Value} {l : List UInt8} (h : Own w B v l) : ∃ ao cap, v = .slice ao l.length cap ∧ Rd w ao cap (U l) := by
  obtain ⟨ao, cap, hv, _, hr⟩ := rd_of_owns h
  exact ⟨ao, cap, hv, hr⟩
/-- The bytes of a slice that can be read. -/
theorem Rd.byte {w : World} {ao : Option Addr} {cap : Nat} {l : List UInt8} (h : Rd w ao cap (U l)) (hp : 0 < l.length) :
    ∃ b off, ao = some ⟨b, off, none⟩ ∧ b < w.heap.size ∧ ∀ k, (hk : k < l.length) → w.cell? ⟨b, off + k, none⟩ = some (.int .u8 (l[k].toNat : Int)) := by
  obtain ⟨b, off, e, hb, hc⟩ := h.at_ (by rw [U_length]; exact hp)
  refine ⟨b, off, e, hb, fun k hk => ?_⟩
  rw [hc k (by rw [U_length]; exact hk)]
  simp [U]
/-- A cut at the head. -/
theorem Rd.take {w : World} {ao : Option Addr} {cap : Nat} {l : List Value} (h : Rd w ao cap l) (n : Nat) (hn : n ≤ l.length) : Rd w ao cap (l.take n) := by
  have h1 := h.le
  refine ⟨by simp; omega, h.max, h.nil, fun hp => ?_⟩
  simp only [List.length_take] at hp
  obtain ⟨b, off, e, hb, hc⟩ := h.at_ (by omega)
  refine ⟨b, off, e, hb, fun k hk => ?_⟩
  simp only [List.length_take] at hk
  rw [hc k (by omega)]
  simp
/-- A cut at the tail. -/
theorem Rd.drop {w : World} {ao : Option Addr} {cap : Nat} {l : List Value} (h : Rd w ao cap l) (n : Nat) (hn : n ≤ l.length) :
    Rd w (if cap = n then ao else ao.map (·.add n)) (cap - n) (l.drop n) := by
  have h1 := h.le
  have h2 := h.max
  refine ⟨by simp; omega, by omega, fun e => ?_, fun hp => ?_⟩
  · split at e
    · have := h.nil e; omega
    · have := h.nil (by simpa using e); omega
  · simp only [List.length_drop] at hp
    obtain ⟨b, off, e, hb, hc⟩ := h.at_ (by omega)
    subst e
    refine ⟨b, off + n, ?_, hb, fun k hk => ?_⟩
    · rw [if_neg (by omega)]
      simp [Addr.add_lit]
    · simp only [List.length_drop] at hk
      rw [Nat.add_assoc, hc (n + k) (by omega)]
      simp
/-- What is read stays readable while nothing old turns. -/
theorem Rd.later {w w' : World} {ao : Option Addr} {cap : Nat} {l : List Value} (h : Rd w ao cap l) (hb : Below w.heap.size w w') : Rd w' ao cap l := by
  refine ⟨h.le, h.max, h.nil, fun hp => ?_⟩
  obtain ⟨b, off, e, hlt, hc⟩ := h.at_ hp
  have := hb.size
  exact ⟨b, off, e, by omega, fun k hk => (hb.cell (p := ⟨b, off + k, none⟩) hlt).trans (hc k hk)⟩
/-- A block that is known whole, under a slice over all of it. -/
theorem own_of_block {w : World} {g B : Nat} {e : TypeId} {xs : List Value} {n : Nat} (hg : w.heap[g]? = some (.cells xs.toArray e (0, 0))) (hn : xs.length = n) (hm : n ≤ maxLen) (hB : B ≤ g) :
    w.ownsRow B e 1 (.slice (some ⟨g, 0, none⟩) n n) n xs :=
  ⟨by omega, .inr ⟨g, n, xs.toArray, rfl, hB, hg, Nat.le_refl _, hm, by simpa using hn, by simp [← hn]⟩⟩

theorem belowN {B : Nat} {a w : World} (h : Below B a w) (n : Nat) : Below B a (w.drewN n) := ⟨h.os, h.tape, h.output, h.size, h.block⟩
theorem Rd.drewN {w : World} {ao : Option Addr} {cap : Nat} {l : List Value} (h : Rd w ao cap l) (n : Nat) : Rd (w.drewN n) ao cap l := h.later (belowN (Below.refl _ _) n)

theorem ret_bool {a b : Bool} (h : a = b) : Ending.returned (.bool a) = .returned (.bool b) := by rw [h]
theorem ret_int {k : IntKind} {a b : Int} (h : a = b) : Ending.returned (.int k a) = .returned (.int k b) := by rw [h]
end Go.Proofs.Qxb6002785aMods
