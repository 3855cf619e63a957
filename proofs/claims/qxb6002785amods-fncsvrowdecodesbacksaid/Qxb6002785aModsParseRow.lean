/- zzParseRow (20), at what csvRow writes. -/
import Derived.Test.Qxb6002785aModsMore
import Derived.Test.Qxb6002785aModsParse
namespace Go.Proofs.Qxb6002785aMods
open Go.RowKit

/-- What the reader has gathered: the fields and which of them were quoted, in rows of its own. -/
structure PInv (w wr : World) (fl qt : Value) (done : List ByteArray) : Prop where
  fl : wr.ownsRow w.heap.size 9 1 fl done.length (S done)
  qt : wr.ownsRow w.heap.size 4 1 qt done.length (Qs done)
  below : Below w.heap.size w wr
theorem PInv.start (w : World) : PInv w w (.slice none 0 0) (.slice none 0 0) [] := ⟨World.ownsRow_nil _ _ _ _, World.ownsRow_nil _ _ _ _, Below.refl _ _⟩
theorem PInv.byte {w wr w1 : World} {fl qt v v1 : Value} {done : List ByteArray} {dn : List UInt8} (h : PInv w wr fl qt done) (hown : Own wr w.heap.size v dn) (hx : Ext wr v w1 v1) : PInv w w1 fl qt done :=
  ⟨own_other h.fl hx hown (by decide), own_other h.qt hx hown (by decide), hx.below h.below h.below.size (fun k hk => (World.ownsRow.lt hown k hk).1)⟩
theorem PInv.field {w wr w1 w2 : World} {fl qt fl1 qt1 : Value} {done : List ByteArray} {f : ByteArray} {q : Bool} (h : PInv w wr fl qt done) (hq : Plain.special f.data.toList = q)
    (h1 : w1.ownsRow w.heap.size 9 1 fl1 (done.length + 1) (S done ++ [.string f])) (x1 : Ext wr fl w1 fl1) (h2 : w2.ownsRow w.heap.size 4 1 qt1 (done.length + 1) (Qs done ++ [.bool q])) (x2 : Ext w1 qt w2 qt1) : PInv w w2 fl1 qt1 (done ++ [f]) := by
  have hb1 := x1.below h.below h.below.size (fun k hk => (World.ownsRow.lt h.fl k hk).1)
  have hqt := own_other h.qt x1 h.fl (by decide)
  refine ⟨?_, ?_, x2.below hb1 hb1.size (fun k hk => (World.ownsRow.lt hqt k hk).1)⟩
  · have := own_other h1 x2 hqt (by decide)
    simpa [S] using this
  · subst hq
    simpa [Qs] using h2
/-- What zzParseRow answers. -/
def Parsed (w : World) (ss : List ByteArray) (e : Ending) (w' : World) : Prop := ∃ v1 v2, e = .returned (.tuple #[v1, v2, .bool true]) ∧ PInv w w' v1 v2 ss

theorem bcell {w w' : World} {p : Addr} (h : Below w.heap.size w w') (hp : p.block < w.heap.size) : w'.cell? p = w.cell? p := h.cell hp
theorem tail_head (rest : List ByteArray) : ∃ t0 t1, Plain.rowTail (F rest) = t0 :: t1 ∧ ((t0.toNat : Int) == 34) = false := by
  cases rest with
  | nil => exact ⟨10, [], rfl, rfl⟩
  | cons g gs => exact ⟨44, _, rfl, rfl⟩
theorem field_bound {ss done rest : List ByteArray} {f : ByteArray} (h : ss = done ++ f :: rest) (hb : ss.length + tot ss ≤ 1048576) : f.data.toList.length ≤ 1048576 ∧ done.length + 1 ≤ 1048576 := by
  have e1 := congrArg List.length h
  have e2 : tot ss = tot done + (f.data.toList.length + tot rest) := by
    rw [h]; unfold tot; rw [F_append, Plain.rowSize_append]; rfl
  simp only [List.length_append, List.length_cons] at e1
  omega

theorem plain_mid {l dn r : List UInt8} {c : UInt8} (h : l = dn ++ c :: r) (hq : Plain.special l = false) : Plain.sp c = false := by
  rw [h, Plain.special_append] at hq
  simp [Plain.special] at hq
  exact hq.2.1
theorem plain_head {l r : List UInt8} {c : UInt8} (h : l = c :: r) (hq : Plain.special l = false) : Plain.sp c = false := plain_mid (dn := []) h hq

set_option maxRecDepth 20000 in
set_option maxHeartbeats 8000000 in
theorem prow_any (ao : Option Addr) (la cap : Nat) (ss : List ByteArray) (E : List UInt8) (w : World) (h : Rd w ao cap (U E)) (hE : E = Plain.rowBody (F ss) ++ [10]) (hla : la = E.length) (hne : 0 < ss.length) (hbd : ss.length + tot ss ≤ 1048576) :
    Calls Trym.prog 20 #[.slice ao la cap] w fun e w' => Parsed w ss e w' := by
  subst hla
  have hmx := h.max
  have hle := h.le
  rw [U_length] at hle
  unfold maxLen at hmx
  have hp : 0 < E.length := by rw [hE]; simp
  obtain ⟨b, off, rfl, hb, hc⟩ := h.byte hp
  clear h
  obtain ⟨f0, r0, hs0⟩ : ∃ f0 r0, ss = f0 :: r0 := by
    cases ss with
    | nil => simp at hne
    | cons f r => exact ⟨f, r, rfl⟩
  have HS0 : Hid (ss = [] ++ f0 :: r0) := hs0
  have HE : Hid (E.drop 0 = Plain.enc f0.data.toList ++ Plain.rowTail (F r0)) := by show _ = _; rw [hE, hs0]; exact Plain.rowBody_cons _ _
  clear hE hs0 hne
  go_enter Trym.func20, Trym.ntmps20
  go_wp2
  go_loopw [5, 6, 7, 8, 9, 10] (fun fl qt i _ _ _ wr => ∃ (n : Nat) (done : List ByteArray) (f : ByteArray) (rest : List ByteArray), n ≤ E.length ∧ i = .int .i64 n ∧ Hid (ss = done ++ f :: rest) ∧ Hid (E.drop n = Plain.enc f.data.toList ++ Plain.rowTail (F rest)) ∧ PInv w wr fl qt done)
    (fun _ _ i _ _ _ _ => E.length - (intOf i).toNat)
  case atStart => exact ⟨0, [], f0, r0, by omega, rfl, HS0, HE, PInv.start w⟩
  case round =>
    obtain ⟨n, done, f, rest, hn, rfl, hss, hd, hinv⟩ := hrel
    obtain ⟨hfl, hdl⟩ := field_bound hss.out hbd
    have hb16 : (done.length + 1) * 16 ≤ 140737488355328 := by omega
    have hb1 : (done.length + 1) * 1 ≤ 140737488355328 := by omega
    have hbm : done.length + 1 ≤ maxLen := by unfold maxLen; omega
    obtain ⟨t0, t1, ht, ht34⟩ := tail_head rest
    have HT : Hid (Plain.rowTail (F rest) = t0 :: t1) := ht
    clear ht HE HS0
    cases hq : Plain.special f.data.toList with
    | true =>
      have HQ : Hid (Plain.special f.data.toList = true) := hq
      have e0 : E.drop n = 34 :: (Plain.esc f.data.toList ++ 34 :: Plain.rowTail (F rest)) := by rw [hd.out, Plain.enc, HQ.out]; simp
      clear hq hd
      obtain ⟨hlt0, e1, e2, e3⟩ := drop_cons e0
      have cn : wr.cell? ⟨b, off + n, none⟩ = some (.int .u8 34) := (bcell (p := ⟨b, off + n, none⟩) hinv.below hb).trans ((hc n hlt0).trans (by rw [e1]; rfl))
      have HD0 : Hid (E.drop (n + 1) = Plain.esc f.data.toList ++ 34 :: Plain.rowTail (F rest)) := e2
      clear e0 e1 e2 e3
      go_wp2
      go_loopw [7, 8, 10] (fun i x c wx => ∃ (m : Nat) (dn rm : List UInt8) (cl : Bool), m ≤ E.length ∧ n < m ∧ i = .int .i64 m ∧ c = .bool cl ∧ Hid (f.data.toList = dn ++ rm) ∧ Own wx w.heap.size x dn ∧ PInv w wx u5 u6 done ∧ Hid ((cl = false ∧ E.drop m = Plain.esc rm ++ 34 :: Plain.rowTail (F rest)) ∨ (cl = true ∧ rm = [] ∧ E.drop m = Plain.rowTail (F rest))))
        (fun i _ _ _ => E.length - (intOf i).toNat)
      case atStart => exact ⟨n + 1, [], f.data.toList, false, by omega, by omega, by go_num, rfl, rfl, World.ownsRow_nil _ _ _ _, hinv, .inl ⟨rfl, HD0⟩⟩
      case round =>
        obtain ⟨m, dn, rm, cl, hm, hnm, rfl, rfl, hf, hown, hinv, hdis⟩ := hrel
        have hdl1 : dn.length + 1 ≤ 140737488355328 := by have := congrArg List.length hf.out; rw [List.length_append] at this; omega
        have hszx := hinv.below.size
        rcases hdis.out with ⟨hcl, hdm⟩ | ⟨hcl, hrm, hdm⟩
        · subst hcl
          have HDM : Hid (E.drop m = Plain.esc rm ++ 34 :: Plain.rowTail (F rest)) := hdm
          clear hdis hdm
          cases rm with
          | nil =>
            obtain ⟨hlt, e1, e2, e3⟩ := drop_cons (x := 34) (y := Plain.rowTail (F rest)) HDM.out
            obtain ⟨hlt2, e4, e5, e6⟩ := drop_cons (e2.trans HT.out)
            have cm : wr.cell? ⟨b, off + m, none⟩ = some (.int .u8 34) := (bcell (p := ⟨b, off + m, none⟩) hinv.below hb).trans ((hc m hlt).trans (by rw [e1]; rfl))
            have cm2 : wr.cell? ⟨b, off + (m + 1), none⟩ = some (.int .u8 (t0.toNat : Int)) := (bcell (p := ⟨b, off + (m + 1), none⟩) hinv.below hb).trans ((hc (m + 1) hlt2).trans (by rw [e4]))
            have hlt3 : (m : Int) + 1 < (E.length : Int) := by omega
            have HN : Hid (E.drop (m + 1) = Plain.rowTail (F rest)) := e2
            clear e1 e2 e3 e4 e5 e6
            go_wp2
            go_roundw
            case rel => exact ⟨m + 1, dn, [], true, by omega, by omega, by go_num, rfl, hf, hown, hinv, .inr ⟨rfl, rfl, HN.out⟩⟩
            case measure => simp [intOf]; omega
          | cons c r =>
            by_cases h34 : c = 34
            · subst h34
              obtain ⟨hlt, e1, e2, e3⟩ := drop_cons (HDM.out.trans (esc_round34 r _))
              obtain ⟨hlt2, e4, e5, e6⟩ := drop_cons e2
              have cm : wr.cell? ⟨b, off + m, none⟩ = some (.int .u8 34) := (bcell (p := ⟨b, off + m, none⟩) hinv.below hb).trans ((hc m hlt).trans (by rw [e1]; rfl))
              have cm2 : wr.cell? ⟨b, off + (m + 1), none⟩ = some (.int .u8 34) := (bcell (p := ⟨b, off + (m + 1), none⟩) hinv.below hb).trans ((hc (m + 1) hlt2).trans (by rw [e4]; rfl))
              have hlt3 : (m : Int) + 1 < (E.length : Int) := by omega
              have hm2 : m + 2 ≤ E.length := by omega
              have HN : Hid (E.drop (m + 2) = Plain.esc r ++ 34 :: Plain.rowTail (F rest)) := e5
              have HF : Hid (f.data.toList = (dn ++ [34]) ++ r) := by show _ = _; rw [hf.out]; simp
              clear e1 e2 e3 e4 e5 e6
              go_wp2_with (at_builtin; refine wpList_push _ rfl (.tmp 54) (.tmp 55) rfl w.heap.size _ dn rfl hown 34 34 rfl rfl hdl1 hszx ?_)
              intro v1 w1 hown1 hext1
              have hinv1 := hinv.byte hown hext1
              go_wp2
              go_roundw
              case rel => exact ⟨m + 2, dn ++ [34], r, false, hm2, by omega, by go_num, rfl, HF, hown1, hinv1, .inl ⟨rfl, HN.out⟩⟩
              case measure => simp [intOf]; omega
            · obtain ⟨hlt, e1, e2, e3⟩ := drop_cons (HDM.out.trans (esc_round c r h34 _))
              have cm : wr.cell? ⟨b, off + m, none⟩ = some (.int .u8 (c.toNat : Int)) := (bcell (p := ⟨b, off + m, none⟩) hinv.below hb).trans ((hc m hlt).trans (by rw [e1]))
              have hne : ((c.toNat : Int) == 34) = false := by simpa using fun hh => h34 ((Plain.eq34 c).2 hh)
              have HN : Hid (E.drop (m + 1) = Plain.esc r ++ 34 :: Plain.rowTail (F rest)) := e2
              have HF : Hid (f.data.toList = (dn ++ [c]) ++ r) := by show _ = _; rw [hf.out]; simp
              clear e1 e2 e3
              go_wp2_with (at_builtin; refine wpList_push _ rfl (.tmp 61) (.tmp 66) rfl w.heap.size _ dn rfl hown c _ rfl rfl hdl1 hszx ?_)
              intro v1 w1 hown1 hext1
              have hinv1 := hinv.byte hown hext1
              go_wp2
              go_roundw
              case rel => exact ⟨m + 1, dn ++ [c], r, false, by omega, by omega, by go_num, rfl, HF, hown1, hinv1, .inl ⟨rfl, HN.out⟩⟩
              case measure => simp [intOf]; omega
        · subst hcl hrm
          have HDM : Hid (E.drop m = Plain.rowTail (F rest)) := hdm
          have HDN : Hid (dn = f.data.toList) := by show _ = _; have := hf.out; simpa using this.symm
          clear hdis hdm hf
          obtain ⟨ax, cx, rfl, hrdx⟩ := hown.rd
          have hcv0 := conv_any hrdx
          have hcv : Sem.run Trym.prog (convert 22 9 (.slice ax dn.length cx)) wr = .ok (.string f) wr := by rw [hcv0, HDN.out, str_back]
          have hinvfl := hinv.fl
          have hinvqt := hinv.qt
          have hsz := hinv.below.size
          clear hcv0 hrdx hown
          cases rest with
          | nil =>
            obtain ⟨hlt, e1, e2, e3⟩ := drop_cons (x := 10) (y := []) HDM.out
            have cm := (bcell (p := ⟨b, off + m, none⟩) hinv.below hb).trans ((hc m hlt).trans (by rw [e1]))
            have hend : ((m : Int) + 1 != (E.length : Int)) = false := by simp at e3; simp; omega
            have hlt' : ¬ (E.length : Int) ≤ (m : Int) := by omega
            clear e1 e2 e3
            go_wp2_with (at_builtin; refine wpList_pushG _ rfl (.tmp 111) (.tmp 114) 31 rfl 9 (.string ByteArray.empty) 16 Trym.underlying31 Trym.info9 rfl w.heap.size _ done.length (S done) rfl hinvfl (.string f) rfl rfl hb16 hbm hsz ?_)
            intro v3 w3 hfl3 hext3
            have hqt3 := own_other hinvqt hext3 hinvfl (by decide)
            have hbel3 := hext3.below hinv.below hsz (fun k hk => (World.ownsRow.lt hinvfl k hk).1)
            have hsz3 := hbel3.size
            go_wp2_with (at_builtin; refine wpList_pushG _ rfl (.tmp 116) (.tmp 118) 36 rfl 4 (.bool false) 1 Trym.underlying36 Trym.info4 rfl w.heap.size _ done.length (Qs done) rfl hqt3 (.bool true) rfl rfl hb1 hbm hsz3 ?_)
            intro v4 w4 hqt4 hext4
            have hinv4 : PInv w w4 v3 v4 (done ++ [f]) := hinv.field HQ.out hfl3 hext3 hqt4 hext4
            have cm4 : w4.cell? ⟨b, off + m, none⟩ = some (.int .u8 10) := (bcell (p := ⟨b, off + m, none⟩) hinv4.below hb).trans (by rw [← bcell (p := ⟨b, off + m, none⟩) hinv.below hb]; exact cm)
            clear cm hinv hinvfl hinvqt hfl3 hext3 hqt3 hbel3 hqt4 hext4 hcv
            go_wp2
            go_ret3
            exact ⟨_, _, rfl, by rw [hss.out]; exact hinv4⟩
          | cons g gs =>
            obtain ⟨hlt, e1, e2, e3⟩ := drop_cons (x := 44) (y := Plain.rowBody (F (g :: gs)) ++ [10]) HDM.out
            have cm := (bcell (p := ⟨b, off + m, none⟩) hinv.below hb).trans ((hc m hlt).trans (by rw [e1]))
            have hlt' : ¬ (E.length : Int) ≤ (m : Int) := by omega
            have HN : Hid (E.drop (m + 1) = Plain.enc g.data.toList ++ Plain.rowTail (F gs)) := e2.trans (Plain.rowBody_cons _ _)
            have HS : Hid (ss = (done ++ [f]) ++ g :: gs) := by show _ = _; rw [hss.out]; simp
            clear e1 e2 e3
            go_wp2_with (at_builtin; refine wpList_pushG _ rfl (.tmp 111) (.tmp 114) 31 rfl 9 (.string ByteArray.empty) 16 Trym.underlying31 Trym.info9 rfl w.heap.size _ done.length (S done) rfl hinvfl (.string f) rfl rfl hb16 hbm hsz ?_)
            intro v3 w3 hfl3 hext3
            have hqt3 := own_other hinvqt hext3 hinvfl (by decide)
            have hbel3 := hext3.below hinv.below hsz (fun k hk => (World.ownsRow.lt hinvfl k hk).1)
            have hsz3 := hbel3.size
            go_wp2_with (at_builtin; refine wpList_pushG _ rfl (.tmp 116) (.tmp 118) 36 rfl 4 (.bool false) 1 Trym.underlying36 Trym.info4 rfl w.heap.size _ done.length (Qs done) rfl hqt3 (.bool true) rfl rfl hb1 hbm hsz3 ?_)
            intro v4 w4 hqt4 hext4
            have hinv4 : PInv w w4 v3 v4 (done ++ [f]) := hinv.field HQ.out hfl3 hext3 hqt4 hext4
            have cm4 : w4.cell? ⟨b, off + m, none⟩ = some (.int .u8 44) := (bcell (p := ⟨b, off + m, none⟩) hinv4.below hb).trans (by rw [← bcell (p := ⟨b, off + m, none⟩) hinv.below hb]; exact cm)
            clear cm hinv hinvfl hinvqt hfl3 hext3 hqt3 hbel3 hqt4 hext4 hcv
            go_wp2
            go_roundw
            case rel => exact ⟨m + 1, done ++ [f], g, gs, by omega, by go_num, HS, HN, hinv4⟩
            case measure => simp [intOf]; omega
    | false =>
      have HQ : Hid (Plain.special f.data.toList = false) := hq
      have HD0 : Hid (E.drop n = f.data.toList ++ Plain.rowTail (F rest)) := by show _ = _; rw [hd.out, Plain.enc, HQ.out]; rfl
      clear hq hd
      obtain ⟨x0, y0, e0, hx34⟩ : ∃ x0 y0, E.drop n = x0 :: y0 ∧ ((x0.toNat : Int) == 34) = false := by
        cases hfl0 : f.data.toList with
        | nil => exact ⟨t0, t1, by rw [HD0.out, hfl0]; exact HT.out, ht34⟩
        | cons c r => exact ⟨c, r ++ Plain.rowTail (F rest), by rw [HD0.out, hfl0]; rfl, (sp_beq c (plain_head hfl0 HQ.out)).2.1⟩
      obtain ⟨hlt0, e1, e2, e3⟩ := drop_cons e0
      have cn : wr.cell? ⟨b, off + n, none⟩ = some (.int .u8 (x0.toNat : Int)) := (bcell (p := ⟨b, off + n, none⟩) hinv.below hb).trans ((hc n hlt0).trans (by rw [e1]))
      clear e0 e1 e2 e3
      go_wp2
      go_loopw [7, 8] (fun i x wx => ∃ (m : Nat) (dn rm : List UInt8), m ≤ E.length ∧ n ≤ m ∧ i = .int .i64 m ∧ Hid (f.data.toList = dn ++ rm) ∧ Own wx w.heap.size x dn ∧ PInv w wx u5 u6 done ∧ Hid (E.drop m = rm ++ Plain.rowTail (F rest)))
        (fun i _ _ => E.length - (intOf i).toNat)
      case atStart => exact ⟨n, [], f.data.toList, by omega, by omega, rfl, rfl, World.ownsRow_nil _ _ _ _, hinv, HD0⟩
      case round =>
        obtain ⟨m, dn, rm, hm, hnm, rfl, hf, hown, hinv, HDM⟩ := hrel
        have hdl1 : dn.length + 1 ≤ 140737488355328 := by have := congrArg List.length hf.out; rw [List.length_append] at this; omega
        have hszx := hinv.below.size
        cases rm with
        | nil =>
          have HDN : Hid (dn = f.data.toList) := by show _ = _; have := hf.out; simpa using this.symm
          clear hf
          obtain ⟨ax, cx, rfl, hrdx⟩ := hown.rd
          have hcv0 := conv_any hrdx
          have hcv : Sem.run Trym.prog (convert 22 9 (.slice ax dn.length cx)) wr = .ok (.string f) wr := by rw [hcv0, HDN.out, str_back]
          have hinvfl := hinv.fl
          have hinvqt := hinv.qt
          have hsz := hinv.below.size
          clear hcv0 hrdx hown
          cases rest with
          | nil =>
            obtain ⟨hlt, e1, e2, e3⟩ := drop_cons (x := 10) (y := []) HDM.out
            have cm := (bcell (p := ⟨b, off + m, none⟩) hinv.below hb).trans ((hc m hlt).trans (by rw [e1]))
            have hend : ((m : Int) + 1 != (E.length : Int)) = false := by simp at e3; simp; omega
            have hlt' : ¬ (E.length : Int) ≤ (m : Int) := by omega
            clear e1 e2 e3
            go_wp2_with (at_builtin; refine wpList_pushG _ rfl (.tmp 111) (.tmp 114) 31 rfl 9 (.string ByteArray.empty) 16 Trym.underlying31 Trym.info9 rfl w.heap.size _ done.length (S done) rfl hinvfl (.string f) rfl rfl hb16 hbm hsz ?_)
            intro v3 w3 hfl3 hext3
            have hqt3 := own_other hinvqt hext3 hinvfl (by decide)
            have hbel3 := hext3.below hinv.below hsz (fun k hk => (World.ownsRow.lt hinvfl k hk).1)
            have hsz3 := hbel3.size
            go_wp2_with (at_builtin; refine wpList_pushG _ rfl (.tmp 116) (.tmp 118) 36 rfl 4 (.bool false) 1 Trym.underlying36 Trym.info4 rfl w.heap.size _ done.length (Qs done) rfl hqt3 (.bool false) rfl rfl hb1 hbm hsz3 ?_)
            intro v4 w4 hqt4 hext4
            have hinv4 : PInv w w4 v3 v4 (done ++ [f]) := hinv.field HQ.out hfl3 hext3 hqt4 hext4
            have cm4 : w4.cell? ⟨b, off + m, none⟩ = some (.int .u8 10) := (bcell (p := ⟨b, off + m, none⟩) hinv4.below hb).trans (by rw [← bcell (p := ⟨b, off + m, none⟩) hinv.below hb]; exact cm)
            clear cm hinv hinvfl hinvqt hfl3 hext3 hqt3 hbel3 hqt4 hext4 hcv
            go_wp2
            go_ret3
            exact ⟨_, _, rfl, by rw [hss.out]; exact hinv4⟩
          | cons g gs =>
            obtain ⟨hlt, e1, e2, e3⟩ := drop_cons (x := 44) (y := Plain.rowBody (F (g :: gs)) ++ [10]) HDM.out
            have cm := (bcell (p := ⟨b, off + m, none⟩) hinv.below hb).trans ((hc m hlt).trans (by rw [e1]))
            have hlt' : ¬ (E.length : Int) ≤ (m : Int) := by omega
            have HN : Hid (E.drop (m + 1) = Plain.enc g.data.toList ++ Plain.rowTail (F gs)) := e2.trans (Plain.rowBody_cons _ _)
            have HS : Hid (ss = (done ++ [f]) ++ g :: gs) := by show _ = _; rw [hss.out]; simp
            clear e1 e2 e3
            go_wp2_with (at_builtin; refine wpList_pushG _ rfl (.tmp 111) (.tmp 114) 31 rfl 9 (.string ByteArray.empty) 16 Trym.underlying31 Trym.info9 rfl w.heap.size _ done.length (S done) rfl hinvfl (.string f) rfl rfl hb16 hbm hsz ?_)
            intro v3 w3 hfl3 hext3
            have hqt3 := own_other hinvqt hext3 hinvfl (by decide)
            have hbel3 := hext3.below hinv.below hsz (fun k hk => (World.ownsRow.lt hinvfl k hk).1)
            have hsz3 := hbel3.size
            go_wp2_with (at_builtin; refine wpList_pushG _ rfl (.tmp 116) (.tmp 118) 36 rfl 4 (.bool false) 1 Trym.underlying36 Trym.info4 rfl w.heap.size _ done.length (Qs done) rfl hqt3 (.bool false) rfl rfl hb1 hbm hsz3 ?_)
            intro v4 w4 hqt4 hext4
            have hinv4 : PInv w w4 v3 v4 (done ++ [f]) := hinv.field HQ.out hfl3 hext3 hqt4 hext4
            have cm4 : w4.cell? ⟨b, off + m, none⟩ = some (.int .u8 44) := (bcell (p := ⟨b, off + m, none⟩) hinv4.below hb).trans (by rw [← bcell (p := ⟨b, off + m, none⟩) hinv.below hb]; exact cm)
            clear cm hinv hinvfl hinvqt hfl3 hext3 hqt3 hbel3 hqt4 hext4 hcv
            go_wp2
            go_roundw
            case rel => exact ⟨m + 1, done ++ [f], g, gs, by omega, by go_num, HS, HN, hinv4⟩
            case measure => simp [intOf]; omega
        | cons c r =>
          obtain ⟨hlt, e1, e2, e3⟩ := drop_cons (x := c) (y := r ++ Plain.rowTail (F rest)) HDM.out
          obtain ⟨n1, n2, n3, n4⟩ := sp_beq c (plain_mid hf.out HQ.out)
          obtain ⟨m1, m2, m3, m4⟩ := Plain.sp_false c (plain_mid hf.out HQ.out)
          have b1 : ((c.toNat : Int) != 44) = true := by simpa using m1
          have b4 : ((c.toNat : Int) != 10) = true := by simpa using m4
          have cm : wr.cell? ⟨b, off + m, none⟩ = some (.int .u8 (c.toNat : Int)) := (bcell (p := ⟨b, off + m, none⟩) hinv.below hb).trans ((hc m hlt).trans (by rw [e1]))
          have HN : Hid (E.drop (m + 1) = r ++ Plain.rowTail (F rest)) := e2
          have HF : Hid (f.data.toList = (dn ++ [c]) ++ r) := by show _ = _; rw [hf.out]; simp
          clear e1 e2 e3
          go_wp2_with (at_builtin; refine wpList_push _ rfl (.tmp 102) (.tmp 107) rfl w.heap.size _ dn rfl hown c _ rfl rfl hdl1 hszx ?_)
          intro v1 w1 hown1 hext1
          have hinv1 := hinv.byte hown hext1
          go_wp2
          go_roundw
          case rel => exact ⟨m + 1, dn ++ [c], r, by omega, by omega, by go_num, HF, hown1, hinv1, HN⟩
          case measure => simp [intOf]; omega
end Go.Proofs.Qxb6002785aMods
