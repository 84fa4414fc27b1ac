/- A part of the proof: csv.(*Reader).readLine: one line, its end made plain, counted. -/
import Derived.Test.YtfadgnopfjajbaaGreatDoorP02
namespace Go.Proofs.YtfadgnopfjajbaaGreatDoor
open Go.RowKit

/-- Where a line lies: in the buffer, ahead of what is still to come, or in the raw buffer. -/
def Spot (c : CSt) (lb lo n : Nat) : Prop := (lb = c.b.buf ∧ (n ≠ 0 → lo + n ≤ c.b.r)) ∨ c.raw.ownBlock = some lb

/-- A line as it came, and what is left. -/
def Cut (R raw rest : List UInt8) (atEnd : Bool) : Prop :=
  raw ++ rest = R ∧ ((atEnd = false ∧ ∃ l0, raw = l0 ++ [10] ∧ Csv.indexByte 10 l0 = none) ∨ (atEnd = true ∧ rest = [] ∧ Csv.indexByte 10 raw = none))

/-- Behind the reading of the raw line. -/
structure Got (B : Nat) (G : Glob) (w0 : World) (c0 : CSt) (w : World) (c : CSt) (raw : List UInt8) (atEnd : Bool) (lb lo cap : Nat) : Prop where
  inv : LInv B G w c
  same : c = { c0 with b := c.b, raw := c.raw }
  rb : c.b.rb = c0.b.rb
  buf : c.b.buf = c0.b.buf
  s : c.b.s = c0.b.s
  only : Only c0.lown w0 w
  rawnew : c.raw.ownBlock = c0.raw.ownBlock ∨ ∃ g, c.raw.ownBlock = some g ∧ w0.heap.size ≤ g
  cut : Cut c0.b.rest raw c.b.rest atEnd
  at_ : BytesAt w lb lo raw
  capl : raw.length ≤ cap
  caps : cap ≤ 9223372036854775807
  spot : Spot c lb lo raw.length

/-- Behind the test for the end of the text. -/
def MidLine (G : Glob) (raw : List UInt8) (atEnd : Bool) (l : List UInt8) (errV : Value) : Prop :=
  (atEnd = false ∧ l = raw ∧ errV = .nilIface) ∨ (atEnd = true ∧ raw = [] ∧ l = [] ∧ errV = errVal G.eof) ∨
  (atEnd = true ∧ raw ≠ [] ∧ errV = .nilIface ∧ l = if raw.getLast? = some 13 then raw.dropLast else raw)
theorem cut_raw {R raw rest : List UInt8} {atEnd : Bool} (h : Cut R raw rest atEnd) : Csv.rawLine R = (raw, rest) := by
  obtain ⟨h1, h2⟩ := h
  subst h1
  have key : ∀ (l t : List UInt8), Csv.indexByte 10 l = none → Csv.rawLine (l ++ t) = (l ++ (Csv.rawLine t).1, (Csv.rawLine t).2) := by
    intro l t hl
    rw [indexByte_none] at hl
    induction l with
    | nil => rfl
    | cons a l ih =>
      simp only [List.mem_cons, not_or] at hl
      simp only [List.cons_append, Csv.rawLine]
      rw [if_neg (fun e => hl.1 e.symm), ih hl.2]
  rcases h2 with ⟨_, l0, rfl, h0⟩ | ⟨_, rfl, h0⟩
  · rw [List.append_assoc, key l0 _ h0]
    simp [Csv.rawLine]
  · rw [key raw [] h0]
    simp [Csv.rawLine]
theorem mid_len {G : Glob} {raw l : List UInt8} {atEnd : Bool} {errV : Value} (h : MidLine G raw atEnd l errV) : ∃ t, raw = l ++ t := by
  rcases h with ⟨_, rfl, _⟩ | ⟨_, rfl, rfl, _⟩ | ⟨_, _, _, rfl⟩
  · exact ⟨[], by simp⟩
  · exact ⟨[], rfl⟩
  · split
    · rename_i h
      exact ⟨[13], by
        obtain ⟨ys, hy⟩ := List.getLast?_eq_some_iff.1 h
        rw [hy]; simp⟩
    · exact ⟨[], by simp⟩
theorem mid_err {G : Glob} {R raw rest l : List UInt8} {atEnd : Bool} {errV : Value} (h : MidLine G raw atEnd l errV) (hc : Cut R raw rest atEnd) : errV = if R.isEmpty then errVal G.eof else .nilIface := by
  obtain ⟨h1, h2⟩ := hc
  subst h1
  rcases h with ⟨rfl, rfl, rfl⟩ | ⟨rfl, rfl, rfl, rfl⟩ | ⟨rfl, h3, rfl, _⟩
  · rcases h2 with ⟨_, l0, rfl, _⟩ | ⟨h, _⟩
    · simp
    · cases h
  · rcases h2 with ⟨h, _⟩ | ⟨_, rfl, _⟩
    · cases h
    · simp
  · simp [h3]
theorem mid_crlf {G : Glob} {R raw rest l l1 : List UInt8} {atEnd : Bool} {errV : Value} (h : MidLine G raw atEnd l errV) (hc : Cut R raw rest atEnd) (hl : l = l1 ++ [13, 10]) : Csv.normLine raw = l1 ++ [10] := by
  obtain ⟨t, ht⟩ := mid_len h
  rcases h with ⟨rfl, rfl, rfl⟩ | ⟨rfl, rfl, rfl, rfl⟩ | ⟨rfl, h3, rfl, h4⟩
  · rw [hl]
    have e : l1 ++ [13, 10] = (l1 ++ [13]) ++ [10] := by simp
    rw [e]
    unfold Csv.normLine
    simp
  · simp at hl
  · rcases hc.2 with ⟨h, _⟩ | ⟨_, _, h0⟩
    · cases h
    · rw [indexByte_none] at h0
      exact absurd (show (10 : UInt8) ∈ raw by rw [ht, hl]; simp) h0
theorem mid_else {G : Glob} {R raw rest l : List UInt8} {atEnd : Bool} {errV : Value} (h : MidLine G raw atEnd l errV) (hc : Cut R raw rest atEnd) (hl : ∀ l1, l ≠ l1 ++ [13, 10]) : Csv.normLine raw = l := by
  rcases h with ⟨rfl, rfl, rfl⟩ | ⟨rfl, rfl, rfl, rfl⟩ | ⟨rfl, h3, rfl, rfl⟩
  · rcases hc.2 with ⟨_, l0, h0, _⟩ | ⟨h, _⟩
    · rw [h0]
      unfold Csv.normLine
      simp only [List.getLast?_concat, if_true, List.dropLast_concat]
      rw [if_neg]
      intro h
      obtain ⟨ys, hy⟩ := List.getLast?_eq_some_iff.1 h
      exact hl ys (by rw [h0, hy]; simp)
    · cases h
  · rfl
  · rcases hc.2 with ⟨h, _⟩ | ⟨_, _, h0⟩
    · cases h
    · rw [indexByte_none] at h0
      unfold Csv.normLine
      rw [if_neg]
      intro h
      obtain ⟨ys, hy⟩ := List.getLast?_eq_some_iff.1 h
      exact h0 (by rw [hy]; simp)
/-- What readLine leaves. -/
def LinePost (B : Nat) (G : Glob) (w : World) (c : CSt) (e : Ending) (w' : World) : Prop :=
  ∃ (c' : CSt) (lb lo cap : Nat), e = .returned (.tuple #[.slice (some ⟨lb, lo, none⟩) (Csv.normLine (Csv.rawLine c.b.rest).1).length cap, if c.b.rest.isEmpty then errVal G.eof else .nilIface]) ∧
    LInv B G w' c' ∧ c' = { c with b := c'.b, raw := c'.raw, numLine := c.numLine + 1, offset := c.offset + (Csv.rawLine c.b.rest).1.length } ∧ c'.b.rest = (Csv.rawLine c.b.rest).2 ∧ c'.b.rb = c.b.rb ∧ c'.b.buf = c.b.buf ∧ c'.b.s = c.b.s ∧
    Only c.lown w w' ∧ (c'.raw.ownBlock = c.raw.ownBlock ∨ ∃ g, c'.raw.ownBlock = some g ∧ w.heap.size ≤ g) ∧
    BytesAt w' lb lo (Csv.normLine (Csv.rawLine c.b.rest).1) ∧ (Csv.normLine (Csv.rawLine c.b.rest).1).length ≤ cap ∧ cap ≤ 9223372036854775807 ∧ (lb = c'.b.buf ∨ c'.raw.ownBlock = some lb)
theorem got_count {B : Nat} {G : Glob} {w w2 : World} {c c1 : CSt} {raw : List UInt8} {atEnd : Bool} {lb lo cap : Nat} (hc : LInv B G w c) (hs : c.numLine + c.b.rest.length + 1 < 70368744177664) (hg : Got B G w c w2 c1 raw atEnd lb lo cap) :
    LInv B G ((w2.setCell ⟨c.cr, 8, none⟩ (.int .i64 ((c.numLine : Int) + 1))).setCell ⟨c.cr, 9, none⟩ (.int .i64 ((c.offset : Int) + (raw.length : Int)))) { c with b := c1.b, raw := c1.raw, numLine := c.numLine + 1, offset := c.offset + raw.length } ∧
      Only c.lown w ((w2.setCell ⟨c.cr, 8, none⟩ (.int .i64 ((c.numLine : Int) + 1))).setCell ⟨c.cr, 9, none⟩ (.int .i64 ((c.offset : Int) + (raw.length : Int)))) ∧
      BytesAt ((w2.setCell ⟨c.cr, 8, none⟩ (.int .i64 ((c.numLine : Int) + 1))).setCell ⟨c.cr, 9, none⟩ (.int .i64 ((c.offset : Int) + (raw.length : Int)))) lb lo raw ∧ lb ≠ c.cr := by
  have ecr : c1.cr = c.cr := by rw [hg.same]
  have hln := congrArg List.length hg.cut.1
  simp only [List.length_append] at hln
  have hos := hc.osmall
  have hlb : lb ≠ c.cr := by
    rw [← ecr]
    rcases hg.spot with ⟨h, _⟩ | h
    · rw [h]; exact fun e => hg.inv.cr_ne (.inr (.inl e.symm))
    · exact (hg.inv.raw_ne lb h).2
  have h := hg.inv.count (c.numLine + 1) (c.offset + raw.length) (by omega) (by omega)
  rw [Int.natCast_add, Int.natCast_add, ecr] at h
  have e : ({ c1 with numLine := c.numLine + 1, offset := c.offset + raw.length } : CSt) = { c with b := c1.b, raw := c1.raw, numLine := c.numLine + 1, offset := c.offset + raw.length } := by rw [hg.same]
  refine ⟨?_, (hg.only.setCell (p := ⟨c.cr, 8, none⟩) (fun _ => .inl rfl) _).setCell (p := ⟨c.cr, 9, none⟩) (fun _ => .inl rfl) _, ?_, hlb⟩
  · rw [← e]; rw [ecr]; exact h
  · refine BytesAt.keep hg.at_ ?_
    rw [Below.heap_setCell _ _ _ _ hlb, Below.heap_setCell _ _ _ _ hlb]
theorem close_plain {B : Nat} {G : Glob} {w w2 : World} {c c1 : CSt} {raw l : List UInt8} {atEnd : Bool} {lb lo cap : Nat} {errV : Value} (hc : LInv B G w c) (hs : c.numLine + c.b.rest.length + 1 < 70368744177664) (hg : Got B G w c w2 c1 raw atEnd lb lo cap)
    (hm : MidLine G raw atEnd l errV) (hno : ∀ l1, l ≠ l1 ++ [13, 10]) :
    LinePost B G w c (.returned (.tuple #[.slice (some ⟨lb, lo, none⟩) l.length cap, errV])) ((w2.setCell ⟨c.cr, 8, none⟩ (.int .i64 ((c.numLine : Int) + 1))).setCell ⟨c.cr, 9, none⟩ (.int .i64 ((c.offset : Int) + (raw.length : Int)))) := by
  obtain ⟨h1, h2, h3, h4⟩ := got_count hc hs hg
  have hr := cut_raw hg.cut
  have hn := mid_else hm hg.cut hno
  have he := mid_err hm hg.cut
  obtain ⟨t, ht⟩ := mid_len hm
  unfold LinePost
  rw [hr]
  dsimp only
  rw [hn]
  refine ⟨_, lb, lo, cap, by rw [he], h1, rfl, rfl, hg.rb, hg.buf, hg.s, h2, hg.rawnew, ?_, ?_, hg.caps, ?_⟩
  · have h := h3.take l.length
    rw [ht, List.take_left] at h
    rw [ht]
    exact h
  · have := hg.capl
    rw [ht] at this
    simp at this
    omega
  · rcases hg.spot with ⟨h, _⟩ | h
    · exact .inl h
    · exact .inr h
theorem close_crlf {B : Nat} {G : Glob} {w w2 : World} {c c1 : CSt} {raw l l1 : List UInt8} {atEnd : Bool} {lb lo cap : Nat} {errV : Value} (hc : LInv B G w c) (hs : c.numLine + c.b.rest.length + 1 < 70368744177664) (hg : Got B G w c w2 c1 raw atEnd lb lo cap)
    (hm : MidLine G raw atEnd l errV) (hl : l = l1 ++ [13, 10]) :
    LinePost B G w c (.returned (.tuple #[.slice (some ⟨lb, lo, none⟩) (l1.length + 1) cap, errV])) (((w2.setCell ⟨c.cr, 8, none⟩ (.int .i64 ((c.numLine : Int) + 1))).setCell ⟨c.cr, 9, none⟩ (.int .i64 ((c.offset : Int) + (raw.length : Int)))).setCell ⟨lb, lo + l1.length, none⟩ (.int .u8 10)) := by
  obtain ⟨h1, h2, h3, h4⟩ := got_count hc hs hg
  have hr := cut_raw hg.cut
  have hn := mid_crlf hm hg.cut hl
  have he := mid_err hm hg.cut
  obtain ⟨t, ht⟩ := mid_len hm
  have hrl : raw.length = l1.length + 2 + t.length := by rw [ht, hl]; simp; omega
  obtain ⟨b', p1, p2, p3, p4, p5, p6⟩ := h1.poke lb (lo + l1.length) 10 (by
    rcases hg.spot with ⟨h, h'⟩ | h
    · exact .inl ⟨h, by have := h' (by omega); show lo + l1.length < c1.b.r; omega⟩
    · exact .inr h)
  unfold LinePost
  rw [hr]
  dsimp only
  rw [hn]
  refine ⟨_, lb, lo, cap, by rw [he]; simp, p1, rfl, p5, p2.trans hg.rb, p3.trans hg.buf, p4.trans hg.s, h2.setCell (p := ⟨lb, lo + l1.length, none⟩) (fun hlt => ?_) _, hg.rawnew, ?_, ?_, hg.caps, ?_⟩
  · rcases hg.spot with ⟨h, _⟩ | h
    · exact .inr (.inl (.inr (.inl (h.trans hg.buf))))
    · rcases hg.rawnew with h5 | ⟨g, h5, h6⟩
      · exact .inr (.inr (h5.symm.trans h))
      · have h7 : some g = some lb := h5.symm.trans h
        injection h7 with h7
        have hlt' : lb < w.heap.size := hlt
        omega
  · intro j u hu
    rcases Nat.lt_trichotomy j l1.length with hj | hj | hj
    · rw [List.getElem?_append_left hj] at hu
      rw [World.cell?_setCell_other]
      · refine h3 j u ?_
        rw [ht, hl, List.append_assoc, List.getElem?_append_left hj]
        exact hu
      · intro e; injection e with _ e; omega
    · subst hj
      rw [List.getElem?_append_right (Nat.le_refl _)] at hu
      simp at hu
      subst hu
      have hcell := h3 l1.length 13 (by rw [ht, hl, List.append_assoc, List.getElem?_append_right (Nat.le_refl _)]; simp)
      exact World.cell?_setCell_same _ _ _ hcell
    · rw [List.getElem?_eq_none (by simp; omega)] at hu
      cases hu
  · have := hg.capl
    simp
    omega
  · rcases hg.spot with ⟨h, _⟩ | h
    · exact .inl (h.trans p3.symm)
    · exact .inr h
/-- While a long line is gathered in the raw buffer. -/
structure RawSt (B : Nat) (G : Glob) (w0 : World) (c0 : CSt) (w : World) (c : CSt) (acc : List UInt8) : Prop where
  inv : LInv B G w c
  same : c = { c0 with b := c.b, raw := c.raw }
  rb : c.b.rb = c0.b.rb
  buf : c.b.buf = c0.b.buf
  s : c.b.s = c0.b.s
  only : Only c0.lown w0 w
  rawnew : c.raw.ownBlock = c0.raw.ownBlock ∨ ∃ g, c.raw.ownBlock = some g ∧ w0.heap.size ≤ g
  own : w.ownsRow B 5 1 c.raw acc.length (acc.map b8)
  ne : acc ≠ []
  all : acc ++ c.b.rest = c0.b.rest
set_option maxRecDepth 100000 in
set_option maxHeartbeats 1000000 in
theorem readLine_any (B : Nat) (G : Glob) (w : World) (c : CSt) (hc : LInv B G w c) (hsmall : c.numLine + c.b.rest.length + 1 < 70368744177664) :
    Calls Tryz.prog 70 [.pointer (some ⟨c.cr, 0, none⟩)].toArray w (LinePost B G w c) := by
  have Hsm := Lib.hid hsmall
  clear hsmall
  have Hc := Lib.hid hc
  have hcr := hc.cr.cell
  have hcf := hc.cr.frozen
  unfold crCells at hcr
  clear hc
  refine enter 117 Tryz.func70 rfl rfl (by simp) ?_
  go_wp
  refine (ReadSlice_any B (errVal G.eof) (errVal G.full) w c.b Hc.out.b ⟨_, _, rfl⟩ Hc.out.glob.full.var Hc.out.glob.full.gB).mono ?_
  rintro e w1 ⟨b1, line, lineV, errV, rfl, hb1, e1, e2, e3, hO1, hL⟩
  dsimp only
  have hL' := hL
  obtain ⟨o, off, cp, rfl, hlc, hc4, hoo, hoff, hline, hrest, hcase⟩ := hL'
  have hlr : b1.rest.length ≤ c.b.rest.length := by rw [← hrest]; simp
  have hc1 := Hc.out.newb hb1 e1 e2 hO1 hlr
  have hG1 := hc1.glob
  have hat : BytesAt w1 c.b.buf off line := by
    have h := BytesAt.of_blk hb1.buf off line.length
    rw [hline, e2] at h; exact h
  have hat' : BytesAt w1 c.b.buf o line := by
    rcases Classical.em (line = []) with h | h
    · rw [h]; exact BytesAt.nil _ _ _
    · rw [hoo h]; exact hat
  have hfv := hG1.full.var
  have hspot : ∀ n, n = line.length → n ≠ 0 → o + n ≤ b1.r := fun n hn h0 => by
    rw [hoo (fun h => by rw [h] at hn; simp at hn; exact h0 hn), hn]; omega
  have Hfin := Lib.hid (And.intro hb1 (And.intro e1 (And.intro e2 (And.intro e3 (And.intro hO1 (And.intro hrest (And.intro hc1 (And.intro hat' hspot))))))))
  clear hb1 e1 e2 e3 hO1 hL hcr hcf hrest hc1 hat hat' hline hoff hlr hspot hoo
  have hJ : ∀ (atEnd : Bool), Cut c.b.rest line b1.rest atEnd → Got B G w c w1 { c with b := b1 } line atEnd c.b.buf o cp := fun atEnd hcut => by
    obtain ⟨g1, g2, g3, g4, g5, g6, g7, g8, g9⟩ := Hfin.out
    exact ⟨g7, rfl, g2, g3, g4, g5.mono (fun k _ h => .inr (.inl h)), .inl rfl, hcut, g8, hlc, by omega, .inl ⟨g3.symm, g9 _ rfl⟩⟩
  have HJ := Lib.hid hJ
  clear hJ
  have Hcase := Lib.hid hcase
  clear hcase
  go_wp
  rename_i K2 hK2 K1 hK1 K0 hK0
  have tail : ∀ (f : Nat → Value) (w' : World) (c1 : CSt) (raw : List UInt8) (atEnd : Bool) (lb lo cap : Nat), Got B G w c w' c1 raw atEnd lb lo cap →
      K2 (Fr 117 [(0, .pointer (some ⟨c.cr, 0, none⟩)), (4, .slice (some ⟨lb, lo, none⟩) raw.length cap), (5, if atEnd then errVal G.eof else .nilIface)] f) w' := by
    as_aux_lemma =>
      intro f w' c1 raw atEnd lb lo cap hg
      apply hK2
      clear hK2 hK1 hK0 Hcase HJ Hfin hG1 hfv hlc hc4
      have hlen : raw.length < 70368744177664 := by
        have h1 := Hc.out.small
        have h2 := congrArg List.length hg.cut.1
        simp only [List.length_append] at h2
        omega
      refine wp_seq_mid (fun a w1 => ∃ f, a = Fr 117 [(0, .pointer (some ⟨c.cr, 0, none⟩)), (4, .slice (some ⟨lb, lo, none⟩) raw.length cap), (5, if atEnd then errVal G.eof else .nilIface), (6, .int .i64 raw.length)] f ∧ w1 = w') ?_ ?_
      · go_wp
        exact ⟨_, Fr_forget _ _ _ [(0, _), (4, _), (5, _), (6, _)] (tells_all ⟨rfl, rfl, rfl, rfl, trivial⟩), trivial⟩
      rintro a w1 ⟨f1, rfl, rfl⟩
      have hev := hg.inv.glob.eof.var
      have hcapl := hg.capl
      have hcaps := hg.caps
      have Hg := Lib.hid hg
      refine wp_seq_mid (fun a w2 => ∃ f l errV', a = Fr 117 [(0, .pointer (some ⟨c.cr, 0, none⟩)), (4, .slice (some ⟨lb, lo, none⟩) l.length cap), (5, errV'), (6, .int .i64 raw.length)] f ∧ w2 = w1 ∧ MidLine G raw atEnd l errV') ?_ ?_
      · clear hg
        cases atEnd
        · have hq := eql_nil_left G.eof w1
          simp only [Bool.false_eq_true, if_false]
          have hpos : 0 < raw.length := by
            rcases Hg.out.cut.2 with ⟨_, l0, h, _⟩ | ⟨h, _⟩
            · rw [h]; simp
            · cases h
          have hposi : (0 : Int) < (raw.length : Int) := by omega
          go_wp
          refine wp_if_false rfl (by simp [lk]) ?_
          go_wp
          exact ⟨_, raw, _, Fr_forget _ _ _ [(0, _), (4, _), (5, _), (6, _)] (tells_all ⟨rfl, rfl, rfl, rfl, trivial⟩), trivial, .inl ⟨rfl, rfl, rfl⟩⟩
        · simp only [if_true]
          rcases List.eq_nil_or_concat raw with hn | ⟨l0, x, hx⟩
          · have h0 : ((raw.length : Nat) : Int) = 0 := by rw [hn]; rfl
            have h1 : raw.length = 0 := by rw [hn]; rfl
            have Hn := Lib.hid hn
            clear hn
            go_wp
            refine wp_if_false rfl (by simp [lk]) ?_
            go_wp
            exact ⟨_, [], _, Fr_forget _ _ _ [(0, _), (4, _), (5, _), (6, _)] (tells_all ⟨rfl, rfl, rfl, by simp [lk, h1], trivial⟩), trivial, .inr (.inl ⟨rfl, Hn.out, rfl, rfl⟩)⟩
          · have hq := eql_same G.eof w1
            have hl : raw.length = l0.length + 1 := by rw [hx]; simp
            have hlast : w1.cell? ⟨lb, lo + l0.length, none⟩ = some (b8 x) := Hg.out.at_ l0.length x (by rw [hx]; simp)
            obtain ⟨n, hn⟩ : ∃ n, n = l0.length := ⟨_, rfl⟩
            rw [← hn] at hlast
            have i1 : (raw.length : Int) - 1 = (n : Int) := by omega
            have i2 : n < raw.length := by omega
            have i3 : (0 : Int) < (raw.length : Int) := by omega
            have i4 : n ≤ cap := by omega
            have hgl : raw.getLast? = some x := by rw [hx]; simp
            have hdl : raw.dropLast = l0 := by rw [hx]; simp
            have hne : raw ≠ [] := by rw [hx]; simp
            have Hx := Lib.hid (And.intro hgl (And.intro hdl (And.intro hne hn)))
            clear hgl hdl hne hn hx hl
            unfold b8 at hlast
            by_cases h13 : x = 13
            · have hc13 : (((x.toNat : Nat) : Int) == 13) = true := by rw [h13]; rfl
              have H13 := Lib.hid h13
              clear h13
              go_wp
              refine wp_if_true rfl (by simp [lk]) ?_
              go_wp
              refine wp_if_true rfl (by simp [lk]) ?_
              go_wp
              refine ⟨_, l0, _, Fr_forget _ _ _ [(0, _), (4, _), (5, _), (6, _)] (tells_all ⟨rfl, by simp [lk, Hx.out.2.2.2], rfl, rfl, trivial⟩), trivial, .inr (.inr ⟨rfl, Hx.out.2.2.1, rfl, by rw [Hx.out.1, H13.out, Hx.out.2.1]; simp⟩)⟩
            · have hc13 : (((x.toNat : Nat) : Int) == 13) = false := by
                rw [beq_eq_false_iff_ne]
                intro h
                exact h13 (UInt8.toNat_inj.1 (by simpa using (by exact_mod_cast h : x.toNat = 13)))
              have H13 := Lib.hid h13
              clear h13
              go_wp
              refine wp_if_true rfl (by simp [lk]) ?_
              go_wp
              refine wp_if_false rfl (by simp [lk]) ?_
              go_wp
              refine ⟨_, raw, _, Fr_forget _ _ _ [(0, _), (4, _), (5, _), (6, _)] (tells_all ⟨rfl, rfl, rfl, rfl, trivial⟩), trivial, .inr (.inr ⟨rfl, Hx.out.2.2.1, rfl, by rw [Hx.out.1, if_neg (fun h => H13.out (by injection h))]⟩)⟩
      · rintro a w2 ⟨f2, l, errV', rfl, rfl, hmid⟩
        have Hmid := Lib.hid hmid
        obtain ⟨t, ht⟩ := mid_len hmid
        have hat : BytesAt w2 lb lo l := by
          have h := (hg.at_).take l.length
          rw [ht, List.take_left] at h
          exact h
        have hll : l.length ≤ raw.length := by rw [ht]; simp
        have ecr : c1.cr = c.cr := by rw [hg.same]
        have hcr := hg.inv.cr.cell
        have hcf := hg.inv.cr.frozen
        rw [hg.same] at hcr
        unfold crCells at hcr
        dsimp only at hcr
        rw [ecr] at hcf
        have hlbcr : lb ≠ c.cr := by
          rw [← ecr]
          rcases hg.spot with ⟨h, _⟩ | h
          · rw [h]; exact fun e => hg.inv.cr_ne (.inr (.inl e.symm))
          · exact (hg.inv.raw_ne lb h).2
        have b1 : c.numLine < 70368744177664 := by have := Hc.out.small; omega
        have b2 : c.offset < 70368744177664 := by have := Hc.out.osmall; omega
        have Hat := Lib.hid hat
        have Ht := Lib.hid ht
        clear hmid ht hat hg ecr
        refine wp_seq_mid (fun a w3 => ∃ f, a = Fr 117 [(0, .pointer (some ⟨c.cr, 0, none⟩)), (4, .slice (some ⟨lb, lo, none⟩) l.length cap), (5, errV'), (6, .int .i64 raw.length)] f ∧ w3 = w2.setCell ⟨c.cr, 8, none⟩ (.int .i64 ((c.numLine : Int) + 1))) ?_ ?_
        · go_wp
          exact ⟨_, Fr_forget _ _ _ [(0, _), (4, _), (5, _), (6, _)] (tells_all ⟨rfl, rfl, rfl, rfl, trivial⟩), trivial⟩
        rintro a w3 ⟨f3, rfl, hw3⟩
        have h9 : w3.cell? ⟨c.cr, 9, none⟩ = some (.int .i64 c.offset) := by
          rw [hw3, World.cell?_setCell_other _ _ _ _ (by intro e; injection e with _ e; omega)]
          exact hcr 9
        have hf9 : w3.frozen? ⟨c.cr, 9, none⟩ = false := by rw [hw3, World.frozen?_setCell]; exact hcf 9
        refine wp_seq_mid (fun a w4 => ∃ f, a = Fr 117 [(0, .pointer (some ⟨c.cr, 0, none⟩)), (4, .slice (some ⟨lb, lo, none⟩) l.length cap), (5, errV')] f ∧ w4 = w3.setCell ⟨c.cr, 9, none⟩ (.int .i64 ((c.offset : Int) + (raw.length : Int)))) ?_ ?_
        · clear hw3 hcr hcf
          go_wp
          exact ⟨_, Fr_forget _ _ _ [(0, _), (4, _), (5, _)] (tells_all ⟨rfl, rfl, rfl, trivial⟩), trivial⟩
        rintro a w4 ⟨f4, rfl, hw4⟩
        rw [hw3] at hw4
        have hcell : ∀ j u, l[j]? = some u → w4.cell? ⟨lb, lo + j, none⟩ = some (b8 u) := fun j u hu => by
          rw [hw4, World.cell?_setCell_other _ _ _ _ (by intro e; injection e with e _; exact hlbcr e.symm), World.cell?_setCell_other _ _ _ _ (by intro e; injection e with e _; exact hlbcr e.symm)]
          exact Hat.out j u hu
        have hp : ∀ hno : (∀ l1, l ≠ l1 ++ [13, 10]), LinePost B G w c (.returned (.tuple #[.slice (some ⟨lb, lo, none⟩) l.length cap, errV'])) w4 := fun hno => by
          rw [hw4]; exact close_plain Hc.out Hsm.out Hg.out Hmid.out hno
        have hq : ∀ l1, l = l1 ++ [13, 10] → LinePost B G w c (.returned (.tuple #[.slice (some ⟨lb, lo, none⟩) (l1.length + 1) cap, errV'])) (w4.setCell ⟨lb, lo + l1.length, none⟩ (.int .u8 10)) := fun l1 hl1 => by
          rw [hw4]; exact close_crlf Hc.out Hsm.out Hg.out Hmid.out hl1
        have hfz : ∀ j, lo + j < lo + l.length → w4.frozen? ⟨lb, lo + j, none⟩ = false := fun j hj => by
          rw [hw4]
          obtain ⟨h1, h2, h3, h4⟩ := got_count Hc.out Hsm.out Hg.out
          rcases Hg.out.spot with ⟨h, _⟩ | h
          · have h5 := h1.b.buf.frozen (lo + j)
            rw [h]; exact h5
          · obtain ⟨lr, h6⟩ := h1.raw
            rcases h6.2 with ⟨h7, _⟩ | ⟨g, cap', cur, h7, hb, hg', _⟩
            · have h8 : c1.raw = _ := h7
              rw [h8] at h; cases h
            · have h8 : c1.raw = _ := h7
              rw [h8] at h
              have h9 : some g = some lb := h
              injection h9 with h9
              subst h9
              simp [World.frozen?, hg']
        have HP := Lib.hid (And.intro hp (And.intro hq (And.intro hcell hfz)))
        clear hp hq hcell hfz hw3 hw4 hcr hcf h9 hf9
        have hl3 : l.length < 70368744177664 := by omega
        rcases Nat.lt_or_ge l.length 2 with hlt | hge
        · have hlti : (l.length : Int) < 2 := by omega
          go_wp
          refine wp_if_false rfl (by simp [lk]) ?_
          go_wp
          exact ret2 rfl rfl rfl (HP.out.1 (fun l1 h => by rw [h] at hlt; simp at hlt; omega))
        · obtain ⟨l1, y, z, hl1⟩ : ∃ l1 y z, l = l1 ++ [y, z] := by
            rcases List.eq_nil_or_concat l with h | ⟨l0, z, h⟩
            · rw [h] at hge; simp at hge
            · rcases List.eq_nil_or_concat l0 with h' | ⟨l1, y, h'⟩
              · rw [h, h'] at hge; simp at hge
              · exact ⟨l1, y, z, by rw [h, h']; simp⟩
          have hn : l.length = l1.length + 2 := by rw [hl1]; simp
          have hy := HP.out.2.2.1 l1.length y (by rw [hl1]; simp)
          have hz := HP.out.2.2.1 (l1.length + 1) z (by rw [hl1, List.getElem?_append_right (by omega)]; simp)
          have hfy := HP.out.2.2.2 l1.length (by omega)
          obtain ⟨n, hnn⟩ : ∃ n, n = l1.length := ⟨_, rfl⟩
          obtain ⟨m, hm⟩ : ∃ m, m = n + 1 := ⟨_, rfl⟩
          rw [← hnn] at hn hy hz hfy
          rw [← hm] at hz
          unfold b8 at hy hz
          have i1 : (l.length : Int) - 2 = (n : Int) := by omega
          have i2 : (l.length : Int) - 1 = (m : Int) := by omega
          have i3 : (2 : Int) ≤ (l.length : Int) := by omega
          have i4 : n < l.length := by omega
          have i5 : m < l.length := by omega
          have i6 : m ≤ cap := by omega
          have key : ∀ (x : UInt8) (k : Nat) (hk : k < 256), x ≠ UInt8.ofNat k → ((((x.toNat : Nat) : Int)) == (k : Int)) = false := fun x k hk h => by
            rw [beq_eq_false_iff_ne]
            intro e
            apply h
            have e : x.toNat = k := by exact_mod_cast e
            rw [← e]; simp
          have HL := Lib.hid (And.intro hl1 (And.intro hnn hm))
          clear hl1 hnn hm hn
          by_cases h13 : y = 13
          · have hc13 : (((y.toNat : Nat) : Int) == 13) = true := by rw [h13]; rfl
            have H13 := Lib.hid h13
            clear h13
            by_cases h10 : z = 10
            · have hc10 : (((z.toNat : Nat) : Int) == 10) = true := by rw [h10]; rfl
              have H10 := Lib.hid h10
              clear h10 key
              go_wp
              refine wp_if_true rfl (by simp [lk]) ?_
              go_wp
              refine ret2 rfl rfl rfl ?_
              have h := HP.out.2.1 l1 (by rw [HL.out.1, H13.out, H10.out])
              rw [← HL.out.2.1, ← HL.out.2.2] at h
              exact h
            · have hc10 : (((z.toNat : Nat) : Int) == 10) = false := key z 10 (by omega) h10
              have H10 := Lib.hid h10
              clear h10 key
              go_wp
              refine wp_if_false rfl (by simp [lk]) ?_
              go_wp
              refine ret2 rfl rfl rfl (HP.out.1 (fun l1' h => H10.out ?_))
              have h' := HL.out.1.symm.trans h
              have h'' := congrArg List.getLast? h'
              simpa using h''
          · have hc13 : (((y.toNat : Nat) : Int) == 13) = false := key y 13 (by omega) h13
            have H13 := Lib.hid h13
            clear h13 key
            go_wp
            refine wp_if_false rfl (by simp [lk]) ?_
            go_wp
            refine ret2 rfl rfl rfl (HP.out.1 (fun l1' h => H13.out ?_))
            have h' := HL.out.1.symm.trans h
            have h'' := congrArg (fun l => (l.dropLast).getLast?) h'
            have e : ∀ (l : List UInt8) (a b : UInt8), (l ++ [a, b]).dropLast.getLast? = some a := fun l a b => by
              rw [show l ++ [a, b] = (l ++ [a]) ++ [b] by simp, List.dropLast_concat]; simp
            simp only [e] at h''
            injection h''
  have Htail := Lib.hid tail
  clear tail hK2
  rcases Hcase.out with ⟨rfl, hl⟩ | ⟨rfl, hr, hn⟩ | ⟨rfl, hn, hl⟩
  · have HL := Lib.hid (HJ.out false ⟨Hfin.out.2.2.2.2.2.1, .inl ⟨rfl, hl⟩⟩)
    clear hl
    have hq := eql_nil_left G.full w1
    go_simp
    go_wp
    refine wp_if_false rfl (by simp [lk]) ?_
    refine wp_skip ?_
    simp only [Exit.then]
    exact Fr_keep (K := fun a => K2 a w1) [(0, _), (4, _), (5, _)] (tells_all ⟨rfl, rfl, rfl, trivial⟩) (fun g => Htail.out g w1 _ line false _ _ _ HL.out)
  · have HL := Lib.hid (HJ.out true ⟨Hfin.out.2.2.2.2.2.1, .inr ⟨rfl, hr, hn⟩⟩)
    have hq := eql_other hG1.eof hG1.full (by decide)
    go_simp
    go_wp
    refine wp_if_false rfl (by simp [lk]) ?_
    refine wp_skip ?_
    simp only [Exit.then]
    exact Fr_keep (K := fun a => K2 a w1) [(0, _), (4, _), (5, _)] (tells_all ⟨rfl, rfl, rfl, trivial⟩) (fun g => Htail.out g w1 _ line true _ _ _ HL.out)
  · have hq := eql_same G.full w1
    have HN := Lib.hid hn
    have HLn := Lib.hid hl
    obtain ⟨g1, g2, g3, g4, g5, g6, g7, g8, g9⟩ := Hfin.out
    obtain ⟨lr, hraw⟩ := g7.raw
    dsimp only at hraw
    obtain ⟨A, cz, hA, hcz1, hcz2, hA0, hA1⟩ := ownsRow_form hraw
    have hzero := hraw
    rw [hA] at hzero
    have hzero := ownsRow_zero hzero
    have hbnd : line.length < 140737488355328 := by omega
    obtain ⟨v2, w2, hrun, hown2, hgr2, hnil2, hat2⟩ := append_bytes w1 B 63 _ [] (by simpa using hzero) c.b.buf o cp line g8 (by simpa using hbnd) g7.size
    obtain ⟨A2, c2, hv2, hv2c, hv2m, hv2n, hv2s⟩ := ownsRow_form hown2
    subst hv2
    have hvo : Value.ownBlock (.slice A 0 cz) = c.raw.ownBlock := by rw [hA]; cases A <;> rfl
    obtain ⟨k1, k2, k3, k4⟩ := LInv.append g7 hvo hown2 hgr2 hat2
    have hcr := g7.cr.cell
    have hcrf2 := (Blk.grown (w := w1) g7.cr hgr2 (by rw [hvo]; exact fun e => (g7.raw_ne _ e.symm).2 rfl)).frozen
    have hcrc2 := (Blk.grown (w := w1) g7.cr hgr2 (by rw [hvo]; exact fun e => (g7.raw_ne _ e.symm).2 rfl)).cell
    unfold crCells at hcr hcrc2
    dsimp only at hcr hcrc2 hcrf2
    rw [hA] at hcr
    have hcz3 : cz ≤ 9223372036854775807 := by simp only [maxLen] at hcz2; omega
    have HS := Lib.hid (And.intro k1 (And.intro k2 (And.intro k3 (And.intro k4 (And.intro g5 g6)))))
    clear hl hn g1 g2 g3 g4 g5 g6 g7 g8 g9 hraw hA hzero hown2 hgr2 hnil2 hat2 hvo k1 k2 k3 k4 hA0 hA1 hcz2
    go_simp
    go_wp
    refine wp_if_true rfl (by simp [lk]) ?_
    refine wp_seq_mid (fun a w' => (∃ f, a = Fr 117 [(0, .pointer (some ⟨c.cr, 0, none⟩)), (4, .slice (some ⟨c.b.buf, o, none⟩) line.length cp), (5, errVal G.full)] f) ∧ w' = w2.setCell ⟨c.cr, 10, none⟩ (.slice A2 ([] ++ line).length c2)) ?_ ?_
    · clear HS
      refine region_split 7 ?_
      simp only [List.take_succ_cons, List.take_zero, List.drop_succ_cons, List.drop_zero]
      rcases A with _ | A
      all_goals
        go_wp
        refine Stop.mk (wl_append _ _ _ rfl rfl (by rw [Fr_eval _ _ _ _ rfl]; simp only [lk]; rfl) (by rw [Fr_eval _ _ _ _ rfl]; simp only [lk]; rfl) hrun ?_)
        rw [Fr_put]
        go_wp
        exact ⟨⟨_, Fr_forget _ _ _ [(0, _), (4, _), (5, _)] (tells_all ⟨rfl, rfl, rfl, trivial⟩)⟩, rfl⟩
    clear hrun hcr hcrf2 hcrc2 hq hG1 hfv
    rintro a w3 ⟨⟨f, rfl⟩, hw3⟩
    rw [← hw3] at HS
    clear hw3
    refine wp_seq_mid (fun a w' => ∃ (f : Nat → Value) (v4 : Value) (c4 : CSt) (acc : List UInt8) (atEnd : Bool), a = Fr 117 [(0, .pointer (some ⟨c.cr, 0, none⟩)), (4, v4), (5, if atEnd then errVal G.eof else .nilIface)] f ∧
      RawSt B G w c w' c4 acc ∧ Cut c.b.rest acc c4.b.rest atEnd) ?_ ?_
    · refine wp_block ?_
      refine wp_loop_n (fun k a w' => ∃ (f : Nat → Value) (v4 errV : Value) (c4 : CSt) (acc : List UInt8), a = Fr 117 [(0, .pointer (some ⟨c.cr, 0, none⟩)), (4, v4), (5, errV)] f ∧ RawSt B G w c w' c4 acc ∧
        ((errV = errVal G.full ∧ Csv.indexByte 10 acc = none ∧ k = 2 * c4.b.rest.length + 1) ∨ ∃ atEnd, errV = (if atEnd then errVal G.eof else .nilIface) ∧ Cut c.b.rest acc c4.b.rest atEnd ∧ k = 0)) (2 * b1.rest.length + 1)
        ⟨f, _, _, { c with b := b1, raw := .slice A2 ([] ++ line).length c2 }, line, rfl, ?_, .inl ⟨rfl, HN.out, rfl⟩⟩ ?_
      · obtain ⟨k1, k2, k3, k4, g5, g6⟩ := HS.out
        obtain ⟨_, g2, g3, g4, _⟩ := Hfin.out
        have hln := HLn.out
        exact ⟨k1, rfl, g2, g3, g4, (g5.mono (fun k _ h => .inr (.inl h))).trans k3 (fun k _ h => h.elim .inl (fun h => .inr (.inr h))), k4.elim .inl (fun h => .inr ⟨_, h, g5.size⟩), k2, (fun h => by rw [h] at hln; cases hln), g6⟩
      · clear HS HLn HN hv2c hv2m hv2n hv2s
        rintro k a w4 ⟨f4, v4, errV, c4, acc, rfl, hI, hcase⟩
        rcases hcase with ⟨rfl, hn, rfl⟩ | ⟨atEnd, rfl, hC, rfl⟩
        · have hfv := hI.inv.glob.full.var
          have hq := eql_same G.full w4
          have hcr := hI.inv.cr.cell
          rw [hI.same] at hcr
          unfold crCells at hcr
          dsimp only at hcr
          have HI := Lib.hid hI
          have HN4 := Lib.hid hn
          clear hI hn
          go_wp
          refine wp_if_true rfl (by simp [lk]) ?_
          refine wp_skip ?_
          simp only [Exit.then]
          rename_i Kb hKb
          apply hKb
          clear hKb hq hfv
          refine wp_block ?_
          refine wp_seq_mid (fun a w' => ∃ (f : Nat → Value) (b5 : BSt) (line5 : List UInt8) (o5 cp5 : Nat) (errV : Value), a = Fr 117 [(0, .pointer (some ⟨c.cr, 0, none⟩)), (4, .slice (some ⟨c4.b.buf, o5, none⟩) line5.length cp5), (5, errV)] f ∧
            LInv B G w' { c4 with b := b5 } ∧ b5.rb = c4.b.rb ∧ b5.buf = c4.b.buf ∧ b5.s = c4.b.s ∧ Only c4.b.own w4 w' ∧ BytesAt w' c4.b.buf o5 line5 ∧ line5.length ≤ 4096 ∧ line5 ++ b5.rest = c4.b.rest ∧
            ((errV = .nilIface ∧ ∃ l0, line5 = l0 ++ [10] ∧ Csv.indexByte 10 l0 = none) ∨ (errV = errVal G.eof ∧ b5.rest = [] ∧ Csv.indexByte 10 line5 = none) ∨ (errV = errVal G.full ∧ Csv.indexByte 10 line5 = none ∧ line5.length = 4096))) ?_ ?_
          · go_wp
            refine (ReadSlice_any B (errVal G.eof) (errVal G.full) w4 c4.b HI.out.inv.b ⟨_, _, rfl⟩ HI.out.inv.glob.full.var HI.out.inv.glob.full.gB).mono ?_
            rintro e w5 ⟨b5, line5, lineV5, errV5, rfl, hb5, f1, f2, f3, hO5, o5, off5, cp5, rfl, hl1, hl2, hl3, hl4, hl5, hl6, hl7⟩
            dsimp only
            have Hr := Lib.hid (And.intro hb5 (And.intro f1 (And.intro f2 (And.intro f3 (And.intro hO5 (And.intro hl1 (And.intro hl2 (And.intro hl3 (And.intro hl4 (And.intro hl5 (And.intro hl6 hl7)))))))))))
            clear hb5 f1 f2 f3 hO5 hl1 hl2 hl3 hl4 hl5 hl6 hl7 hcr
            go_wp
            obtain ⟨hb5, f1, f2, f3, hO5, hl1, hl2, hl3, hl4, hl5, hl6, hl7⟩ := Hr.out
            refine ⟨_, b5, line5, o5, cp5, errV5, Fr_forget _ _ _ [(0, _), (4, _), (5, _)] (tells_all ⟨rfl, rfl, rfl, trivial⟩), HI.out.inv.newb hb5 f1 f2 hO5 (by rw [← hl6]; simp), f1, f2, f3, hO5, ?_, by omega, hl6, hl7⟩
            have h := BytesAt.of_blk hb5.buf off5 line5.length
            rw [hl5, f2] at h
            rcases Classical.em (line5 = []) with h0 | h0
            · rw [h0]; exact BytesAt.nil _ _ _
            · rw [hl3 h0]; exact h
          · rintro a w5 ⟨f5, b5, line5, o5, cp5, errV5, rfl, hI5, f1, f2, f3, hO5, hat5, hll5, hl6, hl7⟩
            have hI := HI.out
            have hraw5 : w5.ownsRow B 5 1 c4.raw acc.length (acc.map b8) := ownsRow_only hI.own hO5 (fun k hk => (hI.inv.raw_ne k hk).1)
            obtain ⟨A, cz, hA, hcz1, hcz2, hA0, hA1⟩ := ownsRow_form hraw5
            have hal : acc.length + line5.length ≤ c.b.rest.length := by
              have h1 := congrArg List.length hI.all
              have h2 := congrArg List.length hl6
              simp only [List.length_append] at h1 h2
              omega
            have hsm := Hc.out.small
            obtain ⟨v6, w6, hrun, hown6, hgr6, _, hat6⟩ := append_bytes w5 B 63 _ acc hraw5 c4.b.buf o5 cp5 line5 hat5 (by omega) hI5.size
            obtain ⟨A6, c6, hv6, hv6c, _, _, _⟩ := ownsRow_form hown6
            obtain ⟨nl, hnl⟩ : ∃ nl, nl = (acc ++ line5).length := ⟨_, rfl⟩
            rw [← hnl] at hv6
            subst hv6
            have Hnl := Lib.hid hnl
            clear hnl
            obtain ⟨k1, k2, k3, k4⟩ := LInv.append hI5 (v0 := c4.raw) rfl hown6 hgr6 hat6
            have hcr5 := hI5.cr.cell
            have hcr6 := Blk.grown (w := w5) hI5.cr hgr6 (fun e => (hI5.raw_ne _ e.symm).2 rfl)
            have hcf6 := hcr6.frozen
            have hcr6 := hcr6.cell
            unfold crCells at hcr5 hcr6
            dsimp only at hcr5 hcr6 hcf6
            have ecr : c4.cr = c.cr := by rw [hI.same]
            rw [ecr] at hcr5 hcr6 hcf6
            rw [hA] at hcr5 hrun
            have HK := Lib.hid (And.intro k1 (And.intro k2 (And.intro k3 (And.intro k4 (And.intro hI (And.intro f1 (And.intro f2 (And.intro f3 (And.intro hO5 (And.intro hl6 hl7))))))))))
            clear hI k1 k2 k3 k4 f1 f2 f3 hO5 hl6 hl7 hI5 hat5 hraw5 hown6 hgr6 hat6 hA0 hA1 ecr hA hcr hal hsm
            refine region_split 6 ?_
            simp only [List.take_succ_cons, List.take_zero, List.drop_succ_cons, List.drop_zero]
            go_wp
            refine Stop.mk (wl_append _ _ _ rfl rfl (by rw [Fr_eval _ _ _ _ rfl]; simp only [lk]; rfl) (by rw [Fr_eval _ _ _ _ rfl]; simp only [lk]; rfl) hrun ?_)
            rw [Fr_put]
            go_wp
            obtain ⟨k1, k2, k3, k4, hI, f1, f2, f3, hO5, hl6, hl7⟩ := HK.out
            have ecr : c4.cr = c.cr := by rw [hI.same]
            rw [ecr] at k2 k3
            have k1 : LInv B G (w6.setCell ⟨c.cr, 10, none⟩ (.slice A6 nl c6)) { c4 with b := b5, raw := .slice A6 nl c6 } := by rw [← ecr]; exact k1
            have hraws : RawSt B G w c (w6.setCell ⟨c.cr, 10, none⟩ (.slice A6 nl c6)) { c4 with b := b5, raw := .slice A6 nl c6 } (acc ++ line5) := by
              refine ⟨k1, by rw [hI.same], f1.trans hI.rb, f2.trans hI.buf, f3.trans hI.s, ?_, ?_, k2, fun h => hI.ne (List.append_eq_nil_iff.1 h).1, by rw [List.append_assoc]; show acc ++ (line5 ++ b5.rest) = _; rw [hl6]; exact hI.all⟩
              · refine (hI.only.trans hO5 (fun k _ h => .inr (.inl ?_))).trans k3 (fun k hk h => ?_)
                · rcases h with h | h | h
                  · exact .inl (h.trans hI.rb)
                  · exact .inr (.inl (h.trans hI.buf))
                  · exact .inr (.inr (h.trans hI.s))
                · rcases h with h | h
                  · exact .inl h
                  · rcases hI.rawnew with h2 | ⟨g, h2, h3⟩
                    · exact .inr (.inr (h2.symm.trans h))
                    · have h4 : some g = some k := h2.symm.trans h
                      injection h4 with h4
                      omega
              · rcases k4 with h | h
                · rcases hI.rawnew with h2 | ⟨g, h2, h3⟩
                  · exact .inl (h.trans h2)
                  · exact .inr ⟨g, h.trans h2, h3⟩
                · exact .inr ⟨_, h, Nat.le_trans hI.only.size hO5.size⟩
            have hna : ∀ x : List UInt8, Csv.indexByte 10 x = none → Csv.indexByte 10 (acc ++ x) = none := fun x hx => by
              have h4 := HN4.out
              rw [indexByte_none] at h4 hx ⊢
              rw [List.mem_append]
              exact fun h => h.elim h4 hx
            rcases hl7 with ⟨rfl, l0, hl0, hn0⟩ | ⟨rfl, hr5, hn5⟩ | ⟨rfl, hn5, hl5⟩
            · exact ⟨0, by omega, _, _, _, _, acc ++ line5, Fr_forget _ _ _ [(0, _), (4, _), (5, _)] (tells_all ⟨rfl, rfl, rfl, trivial⟩), hraws, .inr ⟨false, rfl, ⟨hraws.all, .inl ⟨rfl, acc ++ l0, by rw [hl0, List.append_assoc], hna l0 hn0⟩⟩, rfl⟩⟩
            · exact ⟨0, by omega, _, _, _, _, acc ++ line5, Fr_forget _ _ _ [(0, _), (4, _), (5, _)] (tells_all ⟨rfl, rfl, rfl, trivial⟩), hraws, .inr ⟨true, rfl, ⟨hraws.all, .inr ⟨rfl, hr5, hna _ hn5⟩⟩, rfl⟩⟩
            · refine ⟨2 * b5.rest.length + 1, ?_, _, _, _, _, acc ++ line5, Fr_forget _ _ _ [(0, _), (4, _), (5, _)] (tells_all ⟨rfl, rfl, rfl, trivial⟩), hraws, .inl ⟨rfl, hna _ hn5, rfl⟩⟩
              have h2 := congrArg List.length hl6
              simp only [List.length_append] at h2
              omega
        · have hfv := hI.inv.glob.full.var
          have Hx := Lib.hid (And.intro hI hC)
          have hg4 := hI.inv.glob
          clear hI hC
          cases atEnd
          · have hq := eql_nil_left G.full w4
            clear hg4
            simp only [Bool.false_eq_true, if_false]
            go_wp
            refine wp_if_false rfl (by simp [lk]) ?_
            go_wp
            exact ⟨_, _, c4, acc, false, Fr_forget _ _ _ [(0, _), (4, _), (5, _)] (tells_all ⟨rfl, rfl, rfl, trivial⟩), Hx.out.1, Hx.out.2⟩
          · have hq := eql_other hg4.eof hg4.full (by decide)
            clear hg4
            simp only [if_true]
            go_wp
            refine wp_if_false rfl (by simp [lk]) ?_
            go_wp
            exact ⟨_, _, c4, acc, true, Fr_forget _ _ _ [(0, _), (4, _), (5, _)] (tells_all ⟨rfl, rfl, rfl, trivial⟩), Hx.out.1, Hx.out.2⟩
    · rintro a w4 ⟨f4, v4, c4, acc, atEnd, rfl, hI, hC⟩
      obtain ⟨A, cz, hA, hcz1, hcz2, hA0, hA1⟩ := ownsRow_form hI.own
      have hcr := hI.inv.cr.cell
      have ecr : c4.cr = c.cr := by rw [hI.same]
      rw [ecr] at hcr
      unfold crCells at hcr
      rw [hA] at hcr
      rcases A with _ | A
      · exfalso
        exact hI.ne (List.eq_nil_of_length_eq_zero (hA0 rfl).1)
      · obtain ⟨g, rfl, _, _⟩ := hA1 A rfl
        have hob : c4.raw.ownBlock = some g := by rw [hA]; rfl
        have hat : BytesAt w4 g 0 acc := by
          have h := hI.own
          rw [hA] at h
          obtain ⟨g', he, hb, _⟩ := ownsRow_bytes h
          injection he with he
          subst he
          exact hb
        have HG := Lib.hid (show Got B G w c w4 c4 acc atEnd g 0 cz from ⟨hI.inv, hI.same, hI.rb, hI.buf, hI.s, hI.only, hI.rawnew, hC, hat, hcz1, by simp only [maxLen] at hcz2; omega, .inr hob⟩)
        clear hI hC hA hob hat ecr hA0 hA1 hcz1 hcz2
        go_wp
        exact Fr_keep (K := fun a => K2 a w4) [(0, _), (4, _), (5, _)] (tells_all ⟨rfl, rfl, rfl, trivial⟩) (fun g' => Htail.out g' w4 c4 acc atEnd _ _ _ HG.out)
end Go.Proofs.YtfadgnopfjajbaaGreatDoor
