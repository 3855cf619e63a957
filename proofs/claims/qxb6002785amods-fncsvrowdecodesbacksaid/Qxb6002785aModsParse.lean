/- zzParseField (11), at what csvField writes. -/
import Derived.Test.Qxb6002785aModsLeaf
namespace Go.Proofs.Qxb6002785aMods
open Go.RowKit

theorem drop_cons {E : List UInt8} {n : Nat} {x : UInt8} {y : List UInt8} (h : E.drop n = x :: y) : ∃ hlt : n < E.length, E[n] = x ∧ E.drop (n + 1) = y ∧ E.length = n + 1 + y.length := by
  have hlt : n < E.length := by
    rcases Nat.lt_or_ge n E.length with h1 | h1
    · exact h1
    · rw [List.drop_eq_nil_of_le h1] at h; cases h
  have e := List.drop_eq_getElem_cons hlt
  rw [h] at e
  simp only [List.cons.injEq] at e
  refine ⟨hlt, e.1.symm, e.2.symm, ?_⟩
  have := congrArg List.length h
  simp at this
  omega

theorem str_back (s : ByteArray) : (⟨s.data.toList.toArray⟩ : ByteArray) = s := by simp

/-- A slice of bytes turned into a string. -/
theorem conv_any {w : World} {ao : Option Addr} {cap : Nat} {l : List UInt8} (h : Rd w ao cap (U l)) : (convert 22 9 (.slice ao l.length cap)).run Trym.prog w = .ok (.string ⟨l.toArray⟩) w := by
  cases ao with
  | none =>
    obtain rfl := h.nil rfl
    obtain rfl : l = [] := List.eq_nil_of_length_eq_zero (by have := h.le; rw [U_length] at this; omega)
    exact run_convert_bytes_nil (P := Trym.prog) w 22 5 Trym.underlying22 Trym.underlying5 _ _ 9 Trym.underlying9
  | some ad =>
    have hsrc : ∀ j v, (U l)[j]? = some v → w.cell? (ad.add j) = some v := by
      intro j v hj
      obtain ⟨hj', rfl⟩ := List.getElem?_eq_some_iff.1 hj
      obtain ⟨b, off, e, _, hc⟩ := h.at_ (by omega)
      obtain rfl := Option.some.inj e
      rw [Addr.add_lit]
      exact hc j hj'
    have hl := run_loadCells_list (P := Trym.prog) w ad (U l) hsrc
    rw [U_length] at hl
    have e : U l = (l.map fun b => (b.toNat : Int)).map (Value.int .u8) := by simp [U]
    rw [e] at hl
    rw [run_convert_bytes_string w 22 9 5 _ _ _ Trym.underlying22 Trym.underlying5 Trym.underlying9, run_bytesToString w ad _ _ _ hl, foldl_push_bytes]
    simp [ByteArray.empty, ByteArray.emptyWithCapacity, Function.comp_def]
    rfl

set_option maxHeartbeats 1000000 in
theorem parse_plain (ao : Option Addr) (la cap : Nat) (l : List UInt8) (w : World) (h : Rd w ao cap (U l)) (hla : la = l.length) (hq : Plain.special l = false) :
    Calls Trym.prog 11 #[.slice ao la cap] w fun e w' => e = .returned (.tuple #[.string ⟨l.toArray⟩, .bool false, .bool true]) ∧ w = w' := by
  subst hla
  have hcv := conv_any h
  have hmx := h.max
  have hle := h.le
  rw [U_length] at hle
  unfold maxLen at hmx
  have HQ : Hid (Plain.special l = false) := hq
  clear hq
  by_cases h0 : 0 < l.length
  · obtain ⟨b, off, rfl, hb, hc⟩ := h.byte h0
    have c0 := hc 0 h0
    obtain ⟨n1, n2, n3, n4⟩ := sp_beq _ (Plain.special_get l HQ.out 0 h0)
    simp only [Nat.add_zero] at c0
    clear h
    go_enter Trym.func11, Trym.ntmps11
    go_wp2
    go_loop [7, 8] (fun i _ => ∃ k : Nat, k ≤ l.length ∧ i = .int .i64 k) (fun i _ => l.length - (intOf i).toNat)
    case atStart => exact ⟨0, Nat.zero_le _, rfl⟩
    case round =>
      obtain ⟨k, hk, rfl⟩ := hrel
      by_cases hlt : k < l.length
      · have ck := hc k hlt
        obtain ⟨m1, m2, m3, m4⟩ := sp_beq _ (Plain.special_get l HQ.out k hlt)
        go_wp2
        go_round
        case rel => exact ⟨k + 1, by omega, by go_num⟩
        case measure => simp [intOf]; omega
      · go_wp2
        go_ret3
        exact ⟨rfl, rfl⟩
  · obtain rfl : l = [] := List.eq_nil_of_length_eq_zero (by omega)
    have hcv0 : Sem.run Trym.prog (convert 22 9 (.slice ao 0 cap)) w = .ok (.string ⟨#[]⟩) w := hcv
    go_enter Trym.func11, Trym.ntmps11
    go_wp2
    go_loop [7, 8] (fun i _ => i = .int .i64 0) (fun _ _ => 0)
    case atStart => exact rfl
    case round =>
      obtain rfl := hrel
      go_wp2
      go_ret3
      exact ⟨rfl, rfl⟩

theorem esc_round (x : UInt8) (r : List UInt8) (h : ¬ x = 34) (t : List UInt8) : Plain.esc (x :: r) ++ t = x :: (Plain.esc r ++ t) := by
  simp [Plain.esc, h]
theorem esc_round34 (r : List UInt8) (t : List UInt8) : Plain.esc (34 :: r) ++ t = 34 :: 34 :: (Plain.esc r ++ t) := by
  simp [Plain.esc]

set_option maxHeartbeats 1000000 in
theorem parse_quoted (ao : Option Addr) (la cap : Nat) (l E : List UInt8) (w : World) (h : Rd w ao cap (U E)) (hE : E = 34 :: (Plain.esc l ++ [34])) (hla : la = E.length) (hll : l.length ≤ 1048576) :
    Calls Trym.prog 11 #[.slice ao la cap] w fun e w' => e = .returned (.tuple #[.string ⟨l.toArray⟩, .bool true, .bool true]) ∧ Below w.heap.size w w' := by
  subst hla
  have hmx := h.max
  have hle := h.le
  rw [U_length] at hle
  unfold maxLen at hmx
  have hp : 0 < E.length := by rw [hE]; simp
  obtain ⟨b, off, rfl, hb, hc⟩ := h.byte hp
  clear h
  have c0 : w.cell? ⟨b, off, none⟩ = some (.int .u8 34) := by have := hc 0 hp; simp only [Nat.add_zero] at this; rw [this]; subst hE; rfl
  have HE : Hid (E.drop 1 = Plain.esc l ++ [34]) := by show _ = _; rw [hE]; rfl
  clear hE
  go_enter Trym.func11, Trym.ntmps11
  go_wp2
  go_loopw [5, 6] (fun f i wr => ∃ (n : Nat) (done rem : List UInt8), n ≤ E.length ∧ i = .int .i64 n ∧ Hid (l = done ++ rem) ∧ Hid (E.drop n = Plain.esc rem ++ [34]) ∧ Own wr w.heap.size f done ∧ Below w.heap.size w wr)
    (fun _ i _ => E.length - (intOf i).toNat)
  case atStart => exact ⟨1, [], l, by omega, rfl, rfl, HE, World.ownsRow_nil _ _ _ _, Below.refl _ _⟩
  case round =>
    obtain ⟨n, done, rem, hn, rfl, hl, hd, hown, hbel⟩ := hrel
    have hbd : done.length + 1 ≤ 140737488355328 := by have := congrArg List.length hl.out; simp at this; omega
    have hsz := hbel.size
    cases rem with
    | nil =>
      obtain ⟨hlt, e1, e2, e3⟩ := drop_cons (x := 34) (y := []) hd.out
      have cn : wr.cell? ⟨b, off + n, none⟩ = some (.int .u8 34) := by rw [hbel.cell (p := ⟨b, off + n, none⟩) hb, hc n hlt, e1]; rfl
      obtain ⟨ao, fcap, rfl, hrd⟩ := hown.rd
      have hcv := conv_any hrd
      have hge : ¬ (n : Int) + 1 < (E.length : Int) := by simp at e3; omega
      have heq : ((n : Int) + 1 == (E.length : Int)) = true := by simp at e3; simp; omega
      have el : l = done := by have := hl.out; simpa using this
      clear e1 e2 e3 hd
      go_wp2
      go_ret3
      exact ⟨rfl, hbel⟩
    | cons c r =>
      by_cases h34 : c = 34
      · subst h34
        obtain ⟨hlt, e1, e2, e3⟩ := drop_cons (hd.out.trans (esc_round34 r _))
        obtain ⟨hlt2, e4, e5, e6⟩ := drop_cons e2
        have cn : wr.cell? ⟨b, off + n, none⟩ = some (.int .u8 34) := by rw [hbel.cell (p := ⟨b, off + n, none⟩) hb, hc n hlt, e1]; rfl
        have cn2 : wr.cell? ⟨b, off + (n + 1), none⟩ = some (.int .u8 34) := by rw [hbel.cell (p := ⟨b, off + (n + 1), none⟩) hb, hc (n + 1) hlt2, e4]; rfl
        have hlt3 : (n : Int) + 1 < (E.length : Int) := by omega
        have hD : Hid (E.drop (n + 2) = Plain.esc r ++ [34]) := e5
        clear e1 e2 e3 e4 e5 e6 hd
        go_wp2_with (at_builtin; refine wpList_push _ rfl (.tmp 40) (.tmp 41) rfl w.heap.size _ done rfl hown 34 34 rfl rfl hbd hsz ?_)
        intro v1 w1 hown1 hext1
        have hbel1 := hext1.below hbel hsz (fun k hk => (World.ownsRow.lt hown k hk).1)
        go_wp2
        go_roundw
        case rel => exact ⟨n + 2, done ++ [34], r, by omega, by go_num, by show _ = _; rw [hl.out]; simp, hD, hown1, hbel1⟩
        case measure => simp [intOf]; omega
      · obtain ⟨hlt, e1, e2, e3⟩ := drop_cons (hd.out.trans (esc_round c r h34 _))
        have cn : wr.cell? ⟨b, off + n, none⟩ = some (.int .u8 (c.toNat : Int)) := by rw [hbel.cell (p := ⟨b, off + n, none⟩) hb, hc n hlt, e1]
        have hD : Hid (E.drop (n + 1) = Plain.esc r ++ [34]) := e2
        have hne : ((c.toNat : Int) == 34) = false := by simpa using fun hh => h34 ((Plain.eq34 c).2 hh)
        clear e1 e2 e3 hd
        go_wp2_with (at_builtin; refine wpList_push _ rfl (.tmp 52) (.tmp 57) rfl w.heap.size _ done rfl hown c _ rfl rfl hbd hsz ?_)
        intro v1 w1 hown1 hext1
        have hbel1 := hext1.below hbel hsz (fun k hk => (World.ownsRow.lt hown k hk).1)
        go_wp2
        go_roundw
        case rel => exact ⟨n + 1, done ++ [c], r, by omega, by go_num, by show _ = _; rw [hl.out]; simp, hD, hown1, hbel1⟩
        case measure => simp [intOf]; omega

/-- The reader at what csvField writes: the field comes back, quoted just where it needs it. -/
theorem parse_any (ao : Option Addr) (la cap : Nat) (l : List UInt8) (w : World) (h : Rd w ao cap (U (Plain.enc l))) (hla : la = (Plain.enc l).length) (hll : l.length ≤ 1048576) :
    Calls Trym.prog 11 #[.slice ao la cap] w fun e w' => e = .returned (.tuple #[.string ⟨l.toArray⟩, .bool (Plain.special l), .bool true]) ∧ Below w.heap.size w w' := by
  cases hq : Plain.special l with
  | true => exact parse_quoted ao la cap l (Plain.enc l) w h (by rw [Plain.enc, hq]; rfl) hla hll
  | false =>
    have e : Plain.enc l = l := by rw [Plain.enc, hq]; rfl
    rw [e] at h hla
    refine (parse_plain ao la cap l w h hla hq).mono ?_
    rintro e w' ⟨h1, rfl⟩
    exact ⟨h1, Below.refl _ _⟩
end Go.Proofs.Qxb6002785aMods
