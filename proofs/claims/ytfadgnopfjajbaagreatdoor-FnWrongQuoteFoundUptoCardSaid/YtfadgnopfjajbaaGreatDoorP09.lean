/- A part of the proof: readRecord: one field, step by step. readRecord: quoted fields. -/
import Derived.Test.YtfadgnopfjajbaaGreatDoorP08
namespace Go.Proofs.YtfadgnopfjajbaaGreatDoor
open Go.RowKit
abbrev lineV (lb lo n cp : Nat) : Value := .slice (some ⟨lb, lo, none⟩) n cp
noncomputable def recTrim : Code := part [true, false, true, true, true, true, true, true, true, true, true, true, true, true, true, false, false, false, false, false] recBody
theorem rec_trimmed {B : Nat} {G : Glob} {w0 : World} {c0 : CSt} {w : World} {c : CSt} {r : RSt} {pb lb lo cp : Nat} {l : List (Nat × Value)} {f : Nat → Value} {dst : Value} {n rec : Nat} (s : Csv.St)
    (hT : Tl l f c0.cr dst n rec pb (lineV lb lo s.line.length cp)) (hP : Core B G w0 c0 w c r pb (s.pl, s.pc) s.line lb lo cp) (h1 : 1 ≤ s.pc) (hb : s.pc + s.size < 70368744177664) :
    recTrim.wp Tryz.prog (NPost fun a w' => ∃ l' lo' cp', a = Fr 560 l' f ∧ Tl l' f c0.cr dst n rec pb (lineV lb lo' (s.trimmed c0.opt).line.length cp') ∧ Core B G w0 c0 w' c r pb (s.pl, (s.trimmed c0.opt).pc) (s.trimmed c0.opt).line lb lo' cp') (Fr 560 l f) w := by
  have ecr : c.cr = c0.cr := by rw [hP.st.same]
  have etr : c.trim = c0.opt.trim := by rw [hP.st.same]; rfl
  unfold Csv.St.size at hb
  refine seq_part (x := rec20) (rec_opt20 B G w c r l f hP.st.inv (by rw [ecr]; exact hT.h0)) ?_
  rintro a w1 ⟨l1, rfl, hk1, rfl⟩
  have hT1 := (hT.keep hk1).far (j := 132) (v := .bool c.trim) rfl
  cases htr : c0.opt.trim
  · refine wp_if_false rfl (by rw [lk_same, etr, htr]) ?_
    have e : s.trimmed c0.opt = s := by unfold Csv.St.trimmed; rw [htr]; rfl
    rw [e]
    exact wp_skip ⟨_, lo, cp, rfl, hT1, hP⟩
  · refine wp_if_true rfl (by rw [lk_same, etr, htr]) ?_
    refine seq_part (x := rec21) (rec_space21 B w1 _ f lb lo cp s.line hP.st.inv.l.glob.tabs hT1.h6 hP.line.at_ hP.line.len hP.line.cap) ?_
    rintro a w2 ⟨l2, rfl, hk2, hb2⟩
    have hT2 := (hT1.keep hk2).far (j := 12) (v := .int .i64 (goIdx (Csv.spaceEnd s.line.length s.line))) rfl
    have hP2 := hP.below hb2
    refine seq_part (R := fun a w' => ∃ l' k col, a = Fr 560 l' f ∧ Tl l' f c0.cr dst n rec pb (lineV lb lo s.line.length cp) ∧ lk l' f 12 = .int .i64 ((k : Nat) : Int) ∧ k ≤ s.line.length ∧ Core B G w0 c0 w' c r pb (s.pl, col) s.line lb lo cp ∧ col ≤ s.pc ∧
        (s.trimmed c0.opt).line = s.line.drop k ∧ (s.trimmed c0.opt).pc = col + k) ?_ ?_
    · refine seq_part (x := rec22) (rec_there22 w2 _ f _ (lk_same _ _ _ _)) ?_
      rintro a w3 ⟨l3, rfl, hk3, rfl⟩
      have hT3 := (hT2.keep hk3).far (j := 136) (v := .bool (Csv.spaceEnd s.line.length s.line).isNone) rfl
      cases hse : Csv.spaceEnd s.line.length s.line with
      | none =>
        refine wp_if_true rfl (by rw [lk_same]; rfl) ?_
        rw [hse] at hT3
        refine seq_part (x := rec23) (rec_len23 w3 _ f _ _ _ hT3.h6) ?_
        rintro a w4 ⟨l4, rfl, hk4, rfl⟩
        have hT4 := (hT3.keep hk4).far (j := 12) (v := .int .i64 (s.line.length : Int)) rfl
        have hnl := nlLen_le s.line
        have hnl1 : Csv.nlLen s.line ≤ 1 := by unfold Csv.nlLen; split <;> omega
        refine last_part (x := rec24) (rec_col24 w4 _ f pb s.pl s.pc hT4.h11 hP2.pos.blk lb lo cp s.line hT4.h6 hP2.line.at_ hP2.line.len hP2.line.cap (by omega) (by omega)) ?_
        rintro a w5 ⟨l5, rfl, hk5, rfl⟩
        refine ⟨l5, s.line.length, s.pc - Csv.nlLen s.line, rfl, hT4.keep hk5, ?_, Nat.le_refl _, ?_, by omega, ?_, ?_⟩
        · rw [hk5 12 (by omega) rfl, lk_same]
        · exact (hP2.below (Below.refl _ w4).drew).col _
        · unfold Csv.St.trimmed; rw [htr, hse]; simp
        · unfold Csv.St.trimmed; rw [htr, hse]; simp; omega
      | some i =>
        have hi := spaceEnd_le _ _ _ hse
        refine wp_if_false rfl (by rw [lk_same]; rfl) ?_
        rw [hse] at hT3
        refine wp_skip ⟨_, i, s.pc, rfl, hT3, ?_, hi, hP2, Nat.le_refl _, ?_, ?_⟩
        · rw [lk_ne _ _ _ _ _ rfl, hk3 12 (by omega) rfl, lk_same, hse]; rfl
        · unfold Csv.St.trimmed; rw [htr, hse]; simp
        · unfold Csv.St.trimmed; rw [htr, hse]; simp
    · rintro a w6 ⟨l6, k, col, rfl, hT6, h12, hkl, hP6, hcol, e1, e2⟩
      rw [e1, e2]
      refine seq_part (x := rec25) (rec_cut25 w6 c _ f lb lo cp s.line hT6.h6 k h12 hkl hP6.line) ?_
      rintro a w7 ⟨l7, o7, rfl, hk7, rfl, hL7⟩
      have hT7 := (hT6.keep hk7).line (lineV lb o7 (s.line.drop k).length (cp - k))
      refine last_part (x := rec26) (rec_col26 w7 _ f pb s.pl col hT7.h11 hP6.pos.blk k (by rw [lk_ne _ _ _ _ _ rfl, hk7 12 (by omega) rfl]; exact h12) (by omega)) ?_
      rintro a w8 ⟨l8, rfl, hk8, rfl⟩
      exact ⟨l8, o7, cp - k, rfl, hT7.keep hk8, (hP6.cut hL7).col _⟩
/-- What the parser's loop rests on. -/
structure Env (c0 : CSt) (rec n : Nat) (s0 : Csv.St) : Prop where
  valid : c0.opt.valid = true
  len : n = (Csv.enc c0.opt.comma).length
  big : s0.pc + s0.pl + s0.src.numLine + s0.size < 4398046511104
  fields : s0.fields = []
  cur : s0.cur = []
  poss : s0.poss = []
  one : 1 ≤ s0.pc
  plain : ∀ s, Reach c0.opt rec s0 s → s.quoted = none → (s.trimmed c0.opt).line.head? ≠ some 34 → 0 ≤ c0.opt.comma ∧ c0.opt.comma < 128
/-- The reader's rows hold what the parser's state says. -/
structure Mat (s : Csv.St) (c : CSt) (r : RSt) : Prop where
  src : srcOf c = s.src
  buf : r.buf = s.fields.flatten ++ s.cur
  idx : r.idx = ends 0 s.fields
  poss : r.pos = s.poss
/-- An error value is this failure. -/
def ErrIs (G : Glob) (w0 w : World) (v : Value) (e : Csv.Fail) : Prop :=
  (e = Csv.Fail.none ∧ v = .nilIface) ∨ ∃ g a, v = peVal g ∧ w0.heap.size ≤ g ∧ Blk w g 108 [i64v e.start, i64v e.line, i64v e.col, errVal a] ∧ ((e.kind = 2 ∧ a = G.bare) ∨ (e.kind = 3 ∧ a = G.quote) ∨ (e.kind = 4 ∧ a = G.count))
/-- Behind the parser's loop. -/
def Fin (B : Nat) (G : Glob) (w0 : World) (c0 : CSt) (dst : Value) (rec : Nat) (s0 : Csv.St) (f : Nat → Value) (a : Act) (w : World) : Prop :=
  ∃ (l : List (Nat × Value)) (c : CSt) (r : RSt) (q : Csv.Out) (errV : Value) (x : List UInt8), a = Fr 560 l f ∧ lk l f 0 = .pointer (some ⟨c0.cr, 0, none⟩) ∧ lk l f 1 = dst ∧ lk l f 7 = .nilIface ∧ lk l f 8 = errV ∧ lk l f 10 = .int .i64 (rec : Int) ∧
    Stand B G w0 c0 w c r ∧ srcOf c = q.src ∧ r.buf = q.fields.flatten ++ x ∧ r.idx = ends 0 q.fields ∧ r.pos = q.poss ∧ (∃ s, Reach c0.opt rec s0 s ∧ s.step c0.opt rec = .inr q) ∧ ErrIs G w0 w errV q.fail ∧ q.fields.length ≤ s0.size ∧ r.buf.length ≤ s0.size
/-- Ahead of a field. -/
def Head (B : Nat) (G : Glob) (w0 : World) (c0 : CSt) (dst : Value) (rec n : Nat) (s0 : Csv.St) (f : Nat → Value) (k : Nat) (a : Act) (w : World) : Prop :=
  ∃ (l : List (Nat × Value)) (c : CSt) (r : RSt) (s : Csv.St) (pb lb lo cp : Nat), a = Fr 560 l f ∧ Tl l f c0.cr dst n rec pb (lineV lb lo s.line.length cp) ∧ Core B G w0 c0 w c r pb (s.pl, s.pc) s.line lb lo cp ∧ Mat s c r ∧ Reach c0.opt rec s0 s ∧ s.quoted = none ∧ k = s.size
/-- Behind a round. -/
def RP (B : Nat) (G : Glob) (w0 : World) (c0 : CSt) (dst : Value) (rec n : Nat) (s0 : Csv.St) (f : Nat → Value) (k : Nat) : Exit → Act → World → Prop
  | .exit 3, a, w => ∃ m, m < k ∧ Head B G w0 c0 dst rec n s0 f m a w
  | .exit 2, a, w => Fin B G w0 c0 dst rec s0 f a w
  | _, _, _ => False
section
variable {c0 : CSt} {rec n : Nat} {s0 s : Csv.St}
theorem Env.bnd (hE : Env c0 rec n s0) (hR : Reach c0.opt rec s0 s) : s.fields.length + s.size ≤ s0.size ∧ s.fields.flatten.length + s.cur.length + s.size ≤ s0.size ∧ s.pc + s.size < 4398046511104 ∧ s.pl + s.size < 4398046511104 ∧ s.src.numLine + s.size < 4398046511104 ∧ s.size < 4398046511104 ∧ 1 ≤ s.pc ∧ s.poss.length = s.fields.length ∧ (s.quoted = none → s.cur = []) ∧ s0.size < 4398046511104 := by
  have hb := hR.bnd
  have h1 := hb.fields
  have h2 := hb.bytes
  have h3 := hb.col
  have h4 := hb.line
  have h5 := hb.num
  have h6 := hb.size
  have h7 := hE.big
  rw [hE.fields] at h1 h2
  rw [hE.cur] at h2
  simp only [List.length_nil, List.flatten_nil, Nat.zero_add] at h1 h2
  exact ⟨by omega, by omega, by omega, by omega, by omega, by omega, hb.one hE.one, hb.poss (by rw [hE.fields, hE.poss]; rfl), hb.cur hE.cur, by omega⟩
theorem trimmed_eq (o : Csv.Opt) (s : Csv.St) : ∃ (L : List UInt8) (p : Nat), s.trimmed o = { s with line := L, pc := p } ∧ L.length ≤ s.line.length ∧ p + L.length ≤ s.pc + s.line.length ∧ s.pc ≤ p := by
  unfold Csv.St.trimmed
  split
  · split
    · rename_i i hi
      have := spaceEnd_le _ _ _ hi
      exact ⟨_, _, rfl, by simp, by simp; omega, by simp⟩
    · exact ⟨_, _, rfl, by simp, by simp, by simp⟩
  · exact ⟨_, _, rfl, Nat.le_refl _, Nat.le_refl _, Nat.le_refl _⟩
end
theorem Head.to {B : Nat} {G : Glob} {w0 : World} {c0 : CSt} {dst : Value} {rec n : Nat} {s0 s s' : Csv.St} {f : Nat → Value} {k : Nat} {w : World} {l : List (Nat × Value)} {c : CSt} {r : RSt} {pb lb lo cp : Nat} {q : Nat × Nat} {L : List UInt8} (hR : Reach c0.opt rec s0 s) (hst : s.step c0.opt rec = .inl s')
    (hT : Tl l f c0.cr dst n rec pb (lineV lb lo L.length cp)) (hC : Core B G w0 c0 w c r pb q L lb lo cp) (e : s'.line = L) (e2 : (s'.pl, s'.pc) = q) (hM : Mat s' c r) (hq : s'.quoted = none) (hk : s'.size < k) : ∃ m, m < k ∧ Head B G w0 c0 dst rec n s0 f m (Fr 560 l f) w := by
  subst e e2
  exact ⟨_, hk, l, c, r, s', pb, lb, lo, cp, rfl, hT, hC, hM, hR.next hst, hq, rfl⟩
theorem Fin.to {B : Nat} {G : Glob} {w0 : World} {c0 : CSt} {dst : Value} {rec n : Nat} {s0 s : Csv.St} {q : Csv.Out} {f : Nat → Value} {w : World} {l : List (Nat × Value)} {c : CSt} {r : RSt} {pb : Nat} {lv : Value} (x : List UInt8) (hR : Reach c0.opt rec s0 s) (hst : s.step c0.opt rec = .inr q)
    (hT : Tl l f c0.cr dst n rec pb lv) (hS : Stand B G w0 c0 w c r) (e1 : srcOf c = q.src) (e2 : r.buf = q.fields.flatten ++ x) (e3 : r.idx = ends 0 q.fields) (e4 : r.pos = q.poss) (he : q.fail = Csv.Fail.none) (b1 : q.fields.length ≤ s0.size) (b2 : r.buf.length ≤ s0.size) : Fin B G w0 c0 dst rec s0 f (Fr 560 l f) w :=
  ⟨l, c, r, q, .nilIface, x, rfl, hT.h0, hT.h1, hT.h7, hT.h8, hT.h10, hS, e1, e2, e3, e4, ⟨s, hR, hst⟩, .inl ⟨he, rfl⟩, b1, b2⟩
/-- The same with an error. -/
theorem Fin.err {B : Nat} {G : Glob} {w0 : World} {c0 : CSt} {dst : Value} {rec n : Nat} {s0 s : Csv.St} {q : Csv.Out} {f : Nat → Value} {w w' : World} {l : List (Nat × Value)} {c : CSt} {r : RSt} {pb : Nat} {lv : Value} {g : Nat} {a : EA} {v1 v2 v3 : Value} (hR : Reach c0.opt rec s0 s) (hst : s.step c0.opt rec = .inr q)
    (hT : Tl l f c0.cr dst n rec pb lv) (hS : Stand B G w0 c0 w c r) (hM : Mat s c r) (hb : Below w.heap.size w w') (hg : Blk w' g 108 [v1, v2, v3, errVal a]) (hgw : w.heap.size ≤ g) (e1 : q.src = s.src) (e2 : q.fields = s.fields) (e4 : q.poss = s.poss)
    (k1 : v1 = i64v q.fail.start) (k2 : v2 = i64v q.fail.line) (k3 : v3 = i64v q.fail.col) (hk : (q.fail.kind = 2 ∧ a = G.bare) ∨ (q.fail.kind = 3 ∧ a = G.quote) ∨ (q.fail.kind = 4 ∧ a = G.count)) (b1 : s.fields.length ≤ s0.size) (b2 : r.buf.length ≤ s0.size) :
    Fin B G w0 c0 dst rec s0 f (Fr 560 ((8, peVal g) :: l) f) w' := by
  subst k1 k2 k3
  refine ⟨_, c, r, q, peVal g, s.cur, rfl, ?_, ?_, ?_, lk_same _ _ _ _, ?_, hS.below hb, by rw [e1]; exact hM.src, by rw [e2]; exact hM.buf, by rw [e2]; exact hM.idx, by rw [e4]; exact hM.poss, ⟨s, hR, hst⟩, .inr ⟨g, a, rfl, Nat.le_trans hS.only.size hgw, hg, hk⟩, by rw [e2]; exact b1, b2⟩
  · rw [lk_ne _ _ _ _ _ rfl]; exact hT.h0
  · rw [lk_ne _ _ _ _ _ rfl]; exact hT.h1
  · rw [lk_ne _ _ _ _ _ rfl]; exact hT.h7
  · rw [lk_ne _ _ _ _ _ rfl]; exact hT.h10
/-- The same with an error; the rows may hold more. -/
theorem Fin.err' {B : Nat} {G : Glob} {w0 : World} {c0 : CSt} {dst : Value} {rec n : Nat} {s0 s sm : Csv.St} {q : Csv.Out} {f : Nat → Value} {w w' : World} {l : List (Nat × Value)} {c : CSt} {r : RSt} {pb : Nat} {lv : Value} {g : Nat} {a : EA} {v1 v2 v3 : Value} (hR : Reach c0.opt rec s0 s) (hst : s.step c0.opt rec = .inr q)
    (hT : Tl l f c0.cr dst n rec pb lv) (hS : Stand B G w0 c0 w c r) (hM : Mat sm c r) (hb : Below w.heap.size w w') (hg : Blk w' g 108 [v1, v2, v3, errVal a]) (hgw : w.heap.size ≤ g) (e1 : q.src = sm.src) (e2 : q.fields = sm.fields) (e4 : q.poss = sm.poss)
    (k1 : v1 = i64v q.fail.start) (k2 : v2 = i64v q.fail.line) (k3 : v3 = i64v q.fail.col) (hk : (q.fail.kind = 2 ∧ a = G.bare) ∨ (q.fail.kind = 3 ∧ a = G.quote) ∨ (q.fail.kind = 4 ∧ a = G.count)) (b1 : sm.fields.length ≤ s0.size) (b2 : r.buf.length ≤ s0.size) :
    Fin B G w0 c0 dst rec s0 f (Fr 560 ((8, peVal g) :: l) f) w' := by
  subst k1 k2 k3
  refine ⟨_, c, r, q, peVal g, sm.cur, rfl, ?_, ?_, ?_, lk_same _ _ _ _, ?_, hS.below hb, by rw [e1]; exact hM.src, by rw [e2]; exact hM.buf, by rw [e2]; exact hM.idx, by rw [e4]; exact hM.poss, ⟨s, hR, hst⟩, .inr ⟨g, a, rfl, Nat.le_trans hS.only.size hgw, hg, hk⟩, by rw [e2]; exact b1, b2⟩
  · rw [lk_ne _ _ _ _ _ rfl]; exact hT.h0
  · rw [lk_ne _ _ _ _ _ rfl]; exact hT.h1
  · rw [lk_ne _ _ _ _ _ rfl]; exact hT.h7
  · rw [lk_ne _ _ _ _ _ rfl]; exact hT.h10
theorem seq_part' {P : Program} {x y : Code} {Q : Exit → Act → World → Prop} {a : Act} {w : World} {K : Act → World → Prop} (h1 : x.wp P (Exit.then K Q) a w) (h2 : ∀ a w, K a w → y.wp P Q a w) : (Code.seq x y).wp P Q a w := wp_seq_mid K h1 h2
noncomputable def recPlain : Code := part [true, false, true, true, true, true, true, true, true, true, true, true, true, true, true, false, false, false, false, true, true, false] recBody
set_option maxHeartbeats 1000000 in
theorem rec_plain {B : Nat} {G : Glob} {w0 : World} {c0 : CSt} {w : World} {c : CSt} {r : RSt} {pb lb lo cp : Nat} {l : List (Nat × Value)} {f : Nat → Value} {dst : Value} {n rec : Nat} {s0 : Csv.St} (hE : Env c0 rec n s0) (s : Csv.St) (L : List UInt8) (p : Nat)
    (ht : s.trimmed c0.opt = { s with line := L, pc := p }) (hLl : L.length ≤ s.line.length) (hpl : p + L.length ≤ s.pc + s.line.length)
    (hT : Tl l f c0.cr dst n rec pb (lineV lb lo L.length cp)) (hP : Core B G w0 c0 w c r pb (s.pl, p) L lb lo cp) (hM : Mat s c r) (hR : Reach c0.opt rec s0 s) (hq : s.quoted = none) (hh : L.head? ≠ some 34) :
    recPlain.wp Tryz.prog (RP B G w0 c0 dst rec n s0 f s.size) (Fr 560 l f) w := by
  obtain ⟨b1, b2, b3, b4, b5, b6, b7, b8', b9, b0⟩ := hE.bnd hR
  have hcur := b9 hq
  have hsz : s.size = s.line.length + s.src.left.length + 1 := rfl
  have ecr : c.cr = c0.cr := by rw [hP.st.same]
  have eco : c.comma = c0.opt.comma := by rw [hP.st.same]; rfl
  have ela : c.lazy = c0.opt.lazy := by rw [hP.st.same]; rfl
  obtain ⟨hc0, hc1⟩ := hE.plain s hR hq (by rw [ht]; exact hh)
  have hstep : s.step c0.opt rec = ({ s with line := L, pc := p } : Csv.St).stepStart c0.opt rec := by
    rw [← ht]; unfold Csv.St.step; rw [hq]
  unfold Csv.St.stepStart at hstep
  rw [if_neg hh] at hstep
  refine seq_part (x := rec28) (rec_rune28 B G w c r l f hP.st.inv (by rw [ecr]; exact hT.h0) (by rw [eco]; exact hc0) (by rw [eco]; exact hc1) lb lo cp L hT.h6 hP.line.at_) ?_
  rintro a w1 ⟨l1, rfl, hk1, rfl⟩
  rw [eco]
  obtain ⟨ix, hix⟩ : ∃ ix, ix = Csv.indexOf (Csv.enc c0.opt.comma) L := ⟨_, rfl⟩
  rw [← hix]
  have hT1 := (hT.keep hk1).far (j := 13) (v := .int .i64 (goIdx ix)) rfl
  refine seq_part (x := rec29) (rec_field29 w1 _ f _ hT1.h6) ?_
  rintro a w1 ⟨l2, rfl, hk2, rfl⟩
  have hT2 := (hT1.keep hk2).far (j := 14) (v := lineV lb lo L.length cp) rfl
  have h13 : ∀ v, lk ((14, v) :: l2) f 13 = .int .i64 (goIdx ix) := fun v => by rw [lk_ne _ _ _ _ _ rfl, hk2 13 (by omega) rfl, lk_same]
  -- the field
  refine seq_part (R := fun a w' => ∃ l' fl, a = Fr 560 l' f ∧ w' = w1 ∧ Tl l' f c0.cr dst n rec pb (lineV lb lo L.length cp) ∧ lk l' f 13 = .int .i64 (goIdx ix) ∧ lk l' f 14 = lineV lb lo fl.length cp ∧ (∃ k, fl = L.take k) ∧ fl.length ≤ L.length ∧
      (s.step c0.opt rec = ({ s with line := L, pc := p } : Csv.St).plain c0.opt rec fl (ix.map (· + (Csv.enc c0.opt.comma).length))) ∧ (∀ i, ix = some i → i = fl.length ∧ i + (Csv.enc c0.opt.comma).length ≤ L.length)) ?_ ?_
  · refine seq_part (x := rec30) (rec_there30 w1 _ f ix (h13 _)) ?_
    rintro a w1 ⟨l3, rfl, hk3, rfl⟩
    have hT3 := (hT2.keep hk3).far (j := 170) (v := .bool ix.isSome) rfl
    have h13' : lk ((170, .bool ix.isSome) :: l3) f 13 = .int .i64 (goIdx ix) := by rw [lk_ne _ _ _ _ _ rfl, hk3 13 (by omega) rfl, h13]
    have h14' : lk ((170, .bool ix.isSome) :: l3) f 14 = lineV lb lo L.length cp := by rw [lk_ne _ _ _ _ _ rfl, hk3 14 (by omega) rfl, lk_same]
    cases hi : ix with
    | some i =>
      rw [hi] at h13' h14' hT3 hix
      obtain ⟨hil, _⟩ := indexOf_le hix.symm
      have htk : (L.take i).length = i := by rw [List.length_take]; omega
      refine wp_if_true rfl (by rw [lk_same]; rfl) ?_
      refine last_part (x := rec31) (rec_field31 w1 _ f lb lo cp L.length i h14' h13' (by omega) hP.line.len) ?_
      rintro a w1 ⟨l4, rfl, hk4, rfl⟩
      refine ⟨_, L.take i, rfl, rfl, (hT3.keep hk4).far rfl, ?_, ?_, ⟨i, rfl⟩, by omega, ?_, ?_⟩
      · rw [lk_ne _ _ _ _ _ rfl, hk4 13 (by omega) rfl, h13']
      · rw [lk_same, htk]
      · rw [hstep]
        simp only [← hix]
        rfl
      · intro j hj
        injection hj with hj
        subst hj
        exact ⟨htk.symm, hil⟩
    | none =>
      rw [hi] at h13' h14' hT3 hix
      have hnl := nlLen_le L
      refine wp_if_false rfl (by rw [lk_same]; rfl) ?_
      refine last_part (x := rec32) (rec_field32 w1 _ f lb lo cp L h14' hP.line.at_ hP.line.len hP.line.cap) ?_
      rintro a w1 ⟨l4, rfl, hk4, rfl⟩
      have htk : (L.take (L.length - Csv.nlLen L)).length = L.length - Csv.nlLen L := by rw [List.length_take]; omega
      refine ⟨_, L.take (L.length - Csv.nlLen L), rfl, rfl, (hT3.keep hk4).far rfl, ?_, ?_, ⟨_, rfl⟩, by omega, ?_, ?_⟩
      · rw [lk_ne _ _ _ _ _ rfl, hk4 13 (by omega) rfl, h13']
      · rw [lk_same, htk]
      · rw [hstep]
        simp only [← hix]
        rfl
      · intro j hj; cases hj
  rintro a w2 ⟨l4, fl, rfl, rfl, hT4, h13, h14, ⟨k0, hk0⟩, hfl, hst, hixl⟩
  have hatf : BytesAt w2 lb lo fl := by rw [hk0]; exact hP.line.at_.take k0
  unfold Csv.St.plain at hst
  -- a bare quote?
  refine seq_part' (P := Tryz.prog) (K := fun a w' => ∃ l', a = Fr 560 l' f ∧ w' = w2 ∧ Tl l' f c0.cr dst n rec pb (lineV lb lo L.length cp) ∧ lk l' f 13 = .int .i64 (goIdx ix) ∧ lk l' f 14 = lineV lb lo fl.length cp ∧ (if c0.opt.lazy then none else Csv.indexByte 34 fl) = none) ?_ ?_
  · refine seq_part (x := rec33) (rec_opt33 B G w2 c r _ f hP.st.inv (by rw [ecr]; exact hT4.h0)) ?_
    rintro a w2 ⟨l5, rfl, hk5, rfl⟩
    have hT5 := (hT4.keep hk5).far (j := 185) (v := .bool (!c.lazy)) rfl
    have h13' : lk ((185, .bool (!c.lazy)) :: l5) f 13 = .int .i64 (goIdx ix) := by rw [lk_ne _ _ _ _ _ rfl, hk5 13 (by omega) rfl, h13]
    have h14' : lk ((185, .bool (!c.lazy)) :: l5) f 14 = lineV lb lo fl.length cp := by rw [lk_ne _ _ _ _ _ rfl, hk5 14 (by omega) rfl, h14]
    cases hlz : c0.opt.lazy with
    | true =>
      refine wp_if_false rfl (by rw [lk_same, ela, hlz]; rfl) ?_
      exact wp_skip ⟨_, rfl, rfl, hT5, h13', h14', by simp⟩
    | false =>
      refine wp_if_true rfl (by rw [lk_same, ela, hlz]; rfl) ?_
      refine seq_part (x := rec34) (rec_index34 w2 _ f lb lo cp fl h14' hatf) ?_
      rintro a w2 ⟨l6, rfl, hk6, rfl⟩
      obtain ⟨jx, hjx⟩ : ∃ jx, jx = Csv.indexByte 34 fl := ⟨_, rfl⟩
      rw [← hjx]
      have hT6 := (hT5.keep hk6).far (j := 15) (v := .int .i64 (goIdx jx)) rfl
      have h13'' : lk ((15, .int .i64 (goIdx jx)) :: l6) f 13 = .int .i64 (goIdx ix) := by rw [lk_ne _ _ _ _ _ rfl, hk6 13 (by omega) rfl, h13']
      have h14'' : lk ((15, .int .i64 (goIdx jx)) :: l6) f 14 = lineV lb lo fl.length cp := by rw [lk_ne _ _ _ _ _ rfl, hk6 14 (by omega) rfl, h14']
      refine seq_part (x := rec35) (rec_there35 w2 _ f jx (lk_same _ _ _ _)) ?_
      rintro a w2 ⟨l7, rfl, hk7, rfl⟩
      have hT7 := (hT6.keep hk7).far (j := 189) (v := .bool jx.isSome) rfl
      cases hj : jx with
      | none =>
        refine wp_if_false rfl (by rw [lk_same]; rfl) ?_
        rw [hj] at hT7 hk7 h13'' h14''
        refine wp_skip ⟨_, rfl, rfl, hT7, ?_, ?_, rfl⟩
        · rw [lk_ne _ _ _ _ _ rfl, hk7 13 (by omega) rfl, h13'']
        · rw [lk_ne _ _ _ _ _ rfl, hk7 14 (by omega) rfl, h14'']
      | some j =>
        rw [hj] at hT7 hk7 hjx
        have hjl := indexByte_le hjx.symm
        refine wp_if_true rfl (by rw [lk_same]; rfl) ?_
        refine seq_part (x := rec36) (rec_col36 w2 _ f pb s.pl p j hT7.h11 hP.pos.blk (by rw [lk_ne _ _ _ _ _ rfl, hk7 15 (by omega) rfl, lk_same]; rfl) (by omega)) ?_
        rintro a w2 ⟨l8, rfl, hk8, rfl⟩
        have hT8 := (hT7.keep hk8).far (j := 16) (v := i64v (p + j)) rfl
        refine seq_part (x := rec37) (rec_err37 B G w2 c r _ f hP.st.inv (by rw [ecr]; exact hT8.h0) rec (p + j) hT8.h10 (lk_same _ _ _ _)) ?_
        rintro a w3 ⟨l9, rfl, hk9, hw3⟩
        have hT9 := hT8.keep hk9
        have hb3 : Below w2.heap.size w2 w3 := by rw [hw3]; exact ((Below.refl _ w2).drew).alloc (Nat.le_refl _) _
        refine wp_exit ?_
        rw [hlz] at hst
        simp only [Bool.false_eq_true, if_false, Csv.QU, ← hjx] at hst
        have hnum : c.numLine = s.src.numLine := congrArg Csv.Src.numLine hM.src
        have hblk := Blk.new_arr w2.drew 108 #[i64v rec, i64v c.numLine, i64v (p + j), errVal G.bare]
        rw [← hw3] at hblk
        exact Fin.err hR hst hT9 hP.st hM hb3 hblk (Nat.le_refl _) rfl rfl rfl rfl (by rw [hnum]; rfl) rfl (.inl ⟨rfl, rfl⟩) (by omega) (by rw [hM.buf, List.length_append]; omega)
  · rintro a w2 ⟨l5, rfl, rfl, hT5, h13, h14, hno⟩
    simp only [Csv.QU, hno] at hst
    have hbl : r.buf.length = s.fields.flatten.length := by rw [hM.buf, hcur, List.append_nil]
    have hil : r.idx.length = s.fields.length := by rw [hM.idx, ends_length]
    have hpl2 : r.pos.length = s.fields.length := by rw [hM.poss]; exact b8'
    refine seq_part (x := rec38) (rec_buf38 B G w2 c r _ f hP.st.inv (by rw [ecr]; exact hT5.h0) lb lo cp fl h14 hatf (by omega)) ?_
    rintro a w3 ⟨l6, v6, rfl, hk6, hi6, hO6, hv6⟩
    have hT6 := hT5.keep hk6
    have hP6 := hP.bufr hi6 hO6 hv6
    refine seq_part (x := rec39) (rec_idx39 B G w3 _ _ _ f hP6.st.inv (by show lk l6 f 0 = .pointer (some ⟨c.cr, 0, none⟩); rw [ecr]; exact hT6.h0) (by show r.idx.length + 1 < _; omega)) ?_
    rintro a w4 ⟨l7, v7, rfl, hk7, hi7, hO7, hv7⟩
    have hT7 := hT6.keep hk7
    have hP7 := hP6.idx hi7 hO7 hv7
    refine seq_part (x := rec40) (rec_pos40 B G w4 _ _ _ f hP7.st.inv (by show lk l7 f 0 = .pointer (some ⟨c.cr, 0, none⟩); rw [ecr]; exact hT7.h0) pb (s.pl, p) hT7.h11 hP7.pos.blk (fun e => hP7.pos.far (.inr (.inr (.inr e)))) (by show r.pos.length + 1 < _; omega)) ?_
    rintro a w5 ⟨l8, v8, rfl, hk8, hi8, hO8, hv8⟩
    have hT8 := hT7.keep hk8
    have hP8 := hP7.posr hi8 hO8 hv8
    have h13' : lk l8 f 13 = .int .i64 (goIdx ix) := by rw [hk8 13 (by omega) rfl, hk7 13 (by omega) rfl, hk6 13 (by omega) rfl, h13]
    have hbuf' : r.buf ++ fl = (s.fields ++ [fl]).flatten := by rw [hM.buf, hcur, List.append_nil]; simp
    have hidx' : r.idx ++ [(r.buf ++ fl).length] = ends 0 (s.fields ++ [fl]) := by rw [ends_append, hM.idx, hbuf', Nat.zero_add]
    have hpos' : r.pos ++ [(s.pl, p)] = s.poss ++ [(s.pl, p)] := by rw [hM.poss]
    refine seq_part' (K := fun a w' => ix = none ∧ w' = w5 ∧ ∃ l', a = Fr 560 l' f ∧ Tl l' f c0.cr dst n rec pb (lineV lb lo L.length cp)) ?_ ?_
    · refine seq_part (x := rec41) (rec_there41 w5 _ f ix h13') ?_
      rintro a w6 ⟨l9, rfl, hk9, rfl⟩
      have hT9 := (hT8.keep hk9).far (j := 238) (v := .bool ix.isSome) rfl
      cases hi : ix with
      | none =>
        refine wp_if_false rfl (by rw [lk_same]; rfl) ?_
        rw [hi] at hT9
        exact wp_skip ⟨rfl, rfl, _, rfl, hT9⟩
      | some i =>
        refine wp_if_true rfl (by rw [lk_same]; rfl) ?_
        rw [hi] at hT9 h13' hst
        obtain ⟨hifl, hiL⟩ := hixl i hi
        rw [← hE.len] at hiL
        have h13'' : lk ((238, .bool (some i).isSome) :: l9) f 13 = .int .i64 (i : Int) := by rw [lk_ne _ _ _ _ _ rfl, hk9 13 (by omega) rfl, h13']; rfl
        refine seq_part (x := rec42) (rec_cut42 w6 _ _ f lb lo cp L hT9.h6 i n (i + n) h13'' hT9.h9 (by omega) hiL hP8.line) ?_
        rintro a w6 ⟨l10, o10, rfl, hk10, rfl, hL10⟩
        have hT10 := (hT9.keep hk10).line (lineV lb o10 (L.drop (i + n)).length (cp - (i + n)))
        refine seq_part (x := rec43) (rec_col43 w6 _ f pb s.pl p hT10.h11 hP8.pos.blk i n (i + n) (by rw [lk_ne _ _ _ _ _ rfl, hk10 13 (by omega) rfl, h13'']) hT10.h9 (by omega) (by omega)) ?_
        rintro a w7 ⟨l11, rfl, hk11, rfl⟩
        refine wp_exit ?_
        simp only [Option.map_some, ← hE.len] at hst
        have hless := less_step hst
        have hC := (hP8.cut hL10).col (p + (i + n))
        exact Head.to hR hst (hT10.keep hk11) hC rfl rfl (Mat.mk (by show srcOf c = s.src; exact hM.src) (by show r.buf ++ fl = (s.fields ++ [fl]).flatten ++ []; rw [hbuf', List.append_nil]) hidx' hpos') rfl hless.size
    · rintro a w6 ⟨hi, rfl, l9, rfl, hT9⟩
      rw [hi] at hst
      simp only [Option.map_none] at hst
      refine wp_exit ?_
      refine Fin.to [] hR hst hT9 hP8.st hM.src ?_ hidx' hpos' rfl ?_ ?_
      · show r.buf ++ fl = (s.fields ++ [fl]).flatten ++ []; rw [hbuf', List.append_nil]
      · show (s.fields ++ [fl]).length ≤ s0.size
        rw [List.length_append]
        simp only [List.length_cons, List.length_nil]
        omega
      · show (r.buf ++ fl).length ≤ s0.size
        rw [List.length_append]; omega
end Go.Proofs.YtfadgnopfjajbaaGreatDoor
namespace Go.Proofs.YtfadgnopfjajbaaGreatDoor
open Go.RowKit
/-- In a quoted field. -/
def QHead (B : Nat) (G : Glob) (w0 : World) (c0 : CSt) (dst : Value) (rec n : Nat) (s0 : Csv.St) (f : Nat → Value) (K k : Nat) (a : Act) (w : World) : Prop :=
  ∃ (l : List (Nat × Value)) (c : CSt) (r : RSt) (s : Csv.St) (p : Nat × Nat) (pb fb lb lo cp : Nat), a = Fr 560 l f ∧ Tl l f c0.cr dst n rec pb (lineV lb lo s.line.length cp) ∧ lk l f 17 = .pointer (some ⟨fb, 0, none⟩) ∧ Core B G w0 c0 w c r pb (s.pl, s.pc) s.line lb lo cp ∧ Loose w0 w c fb p ∧ fb ≠ pb ∧ Mat s c r ∧ Reach c0.opt rec s0 s ∧ s.quoted = some p ∧ k = s.size ∧ s.size < K
/-- Behind a round in a quoted field. -/
def QRP (B : Nat) (G : Glob) (w0 : World) (c0 : CSt) (dst : Value) (rec n : Nat) (s0 : Csv.St) (f : Nat → Value) (K k : Nat) : Exit → Act → World → Prop
  | .normal, a, w => ∃ m, m < k ∧ QHead B G w0 c0 dst rec n s0 f K m a w
  | .exit 3, a, w => ∃ m, m < K ∧ Head B G w0 c0 dst rec n s0 f m a w
  | .exit 2, a, w => Fin B G w0 c0 dst rec s0 f a w
  | _, _, _ => False
theorem QHead.to {B : Nat} {G : Glob} {w0 : World} {c0 : CSt} {dst : Value} {rec n : Nat} {s0 s s' : Csv.St} {f : Nat → Value} {K k : Nat} {w : World} {l : List (Nat × Value)} {c : CSt} {r : RSt} {pb fb lb lo cp : Nat} {q p : Nat × Nat} {L : List UInt8} (hR : Reach c0.opt rec s0 s) (hst : s.step c0.opt rec = .inl s')
    (hT : Tl l f c0.cr dst n rec pb (lineV lb lo L.length cp)) (h17 : lk l f 17 = .pointer (some ⟨fb, 0, none⟩)) (hC : Core B G w0 c0 w c r pb q L lb lo cp) (hF : Loose w0 w c fb p) (hne : fb ≠ pb) (e : s'.line = L) (e2 : (s'.pl, s'.pc) = q) (hM : Mat s' c r) (hq : s'.quoted = some p) (hk : s'.size < k) (hK : k ≤ K) :
    ∃ m, m < k ∧ QHead B G w0 c0 dst rec n s0 f K m (Fr 560 l f) w := by
  subst e e2
  exact ⟨_, hk, l, c, r, s', p, pb, fb, lb, lo, cp, rfl, hT, h17, hC, hF, hne, hM, hR.next hst, hq, rfl, Nat.lt_of_lt_of_le hk hK⟩
theorem head_34 (l : List UInt8) : (nextR l == 34) = decide (l.head? = some 34) := by
  rw [Bool.eq_iff_iff, beq_iff_eq, nextR_iff 34 (.inr rfl) l, decide_eq_true_eq]
  have : Csv.enc 34 = [34] := comma_ascii (r := 34) (by omega) (by omega)
  rw [this]
  cases l with
  | nil => simp
  | cons a t => simp [List.cons_prefix_cons, eq_comm]
noncomputable def recRest : Code := part [true, false, true, true, true, true, true, true, true, true, true, true, true, true, true, false, false, false, false, true, true, true, true, true, true, false, false, false, true, true, true] recBody
set_option maxHeartbeats 1000000 in
theorem rec_rest {B : Nat} {G : Glob} {w0 : World} {c0 : CSt} {w : World} {c : CSt} {r : RSt} {pb fb lb lo cp : Nat} {l : List (Nat × Value)} {f : Nat → Value} {dst : Value} {n rec : Nat} {s0 : Csv.St} (hE : Env c0 rec n s0) (s : Csv.St) (p : Nat × Nat) (K : Nat) (hK : s.size ≤ K)
    (hT : Tl l f c0.cr dst n rec pb (lineV lb lo s.line.length cp)) (h17 : lk l f 17 = .pointer (some ⟨fb, 0, none⟩)) (hP : Core B G w0 c0 w c r pb (s.pl, s.pc) s.line lb lo cp) (hF : Loose w0 w c fb p) (hne : fb ≠ pb) (hM : Mat s c r) (hR : Reach c0.opt rec s0 s) (hq : s.quoted = some p) (hno : Csv.indexByte 34 s.line = none) :
    recRest.wp Tryz.prog (QRP B G w0 c0 dst rec n s0 f K s.size) (Fr 560 l f) w := by
  obtain ⟨b1, b2, b3, b4, b5, b6, b7, b8', b9, b0⟩ := hE.bnd hR
  have hsz : s.size = s.line.length + s.src.left.length + 1 := rfl
  have ecr : c.cr = c0.cr := by rw [hP.st.same]
  have ela : c.lazy = c0.opt.lazy := by rw [hP.st.same]; rfl
  have hbl : r.buf.length = s.fields.flatten.length + s.cur.length := by rw [hM.buf, List.length_append]
  have hil : r.idx.length = s.fields.length := by rw [hM.idx, ends_length]
  have hpl2 : r.pos.length = s.fields.length := by rw [hM.poss]; exact b8'
  have hstep : s.step c0.opt rec = s.stepOpen c0.opt rec p := by unfold Csv.St.step; rw [hq]
  unfold Csv.St.stepOpen at hstep
  simp only [Csv.QU, hno] at hstep
  refine seq_part (x := rec68) (rec_some68 w _ f _ _ _ hT.h6) ?_
  rintro a w1 ⟨l1, rfl, hk1, rfl⟩
  have hT1 := (hT.keep hk1).far (j := 400) (v := .bool (decide (0 < s.line.length))) rfl
  have h17' : lk ((400, .bool (decide (0 < s.line.length))) :: l1) f 17 = .pointer (some ⟨fb, 0, none⟩) := by rw [lk_ne _ _ _ _ _ rfl, hk1 17 (by omega) rfl, h17]
  by_cases hl : s.line = []
  · -- the text is at its end
    rw [if_pos hl] at hstep
    refine wp_if_false rfl (by rw [lk_same, hl]; rfl) ?_
    refine seq_part' (K := fun a w' => w' = w1 ∧ c0.opt.lazy = true ∧ ∃ l', a = Fr 560 l' f ∧ Tl l' f c0.cr dst n rec pb (lineV lb lo s.line.length cp) ∧ lk l' f 17 = .pointer (some ⟨fb, 0, none⟩)) ?_ ?_
    · refine seq_part (x := rec78) (rec_opt78 B G w1 c r _ f hP.st.inv (by rw [ecr]; exact hT1.h0) hT1.h7) ?_
      rintro a w2 ⟨l2, rfl, hk2, rfl⟩
      have hT2 := (hT1.keep hk2).far (j := 442) (v := .bool (!c.lazy)) rfl
      have h17'' : lk ((442, .bool (!c.lazy)) :: l2) f 17 = .pointer (some ⟨fb, 0, none⟩) := by rw [lk_ne _ _ _ _ _ rfl, hk2 17 (by omega) rfl, h17']
      cases hlz : c0.opt.lazy with
      | true =>
        refine wp_if_false rfl (by rw [lk_same, ela, hlz]; rfl) ?_
        exact wp_skip ⟨rfl, rfl, _, rfl, hT2, h17''⟩
      | false =>
        refine wp_if_true rfl (by rw [lk_same, ela, hlz]; rfl) ?_
        rw [hlz] at hstep
        simp only [Bool.false_eq_true, if_false] at hstep
        refine seq_part (x := rec79) (rec_err79 B G w2 c r _ f hP.st.inv rec pb s.pl s.pc hT2.h10 hT2.h11 hP.pos.blk) ?_
        rintro a w3 ⟨l3, rfl, hk3, hw3⟩
        have hb3 : Below w2.heap.size w2 w3 := by rw [hw3]; exact (Below.refl _ w2).alloc (Nat.le_refl _) _
        have hblk := Blk.new_arr w2 108 #[i64v rec, i64v s.pl, i64v s.pc, errVal G.quote]
        rw [← hw3] at hblk
        refine wp_exit ?_
        exact Fin.err hR hstep (hT2.keep hk3) hP.st hM hb3 hblk (Nat.le_refl _) rfl rfl rfl rfl rfl rfl (.inr (.inl ⟨rfl, rfl⟩)) (by omega) (by omega)
    · rintro a w2 ⟨rfl, hlz, l2, rfl, hT2, h17''⟩
      rw [hlz] at hstep
      simp only [if_true] at hstep
      refine seq_part (x := rec80) (rec_idx80 B G w2 c r _ f hP.st.inv (by rw [ecr]; exact hT2.h0) (by omega)) ?_
      rintro a w4 ⟨l7, v7, rfl, hk7, hi7, hO7, hv7⟩
      have hT7 := hT2.keep hk7
      have hP7 := hP.idx hi7 hO7 hv7
      have hF7 := hF.next (Grows.idx hO7 hv7)
      refine seq_part (x := rec81) (rec_pos81 B G w4 _ _ _ f hP7.st.inv (by show lk l7 f 0 = .pointer (some ⟨c.cr, 0, none⟩); rw [ecr]; exact hT7.h0) fb p (by rw [hk7 17 (by omega) rfl, h17'']) hF7.blk (fun e => hF7.far (.inr (.inr (.inr e)))) (by show r.pos.length + 1 < _; omega)) ?_
      rintro a w5 ⟨l8, v8, rfl, hk8, hi8, hO8, hv8⟩
      have hP8 := hP7.posr hi8 hO8 hv8
      refine wp_exit ?_
      have hbuf' : r.buf = (s.fields ++ [s.cur]).flatten := by rw [hM.buf]; simp
      refine Fin.to [] hR hstep (hT7.keep hk8) hP8.st hM.src ?_ ?_ ?_ rfl ?_ ?_
      · show r.buf = (s.fields ++ [s.cur]).flatten ++ []; rw [hbuf', List.append_nil]
      · show r.idx ++ [r.buf.length] = ends 0 (s.fields ++ [s.cur]); rw [ends_append, hM.idx, ← hbuf', Nat.zero_add]
      · show r.pos ++ [p] = s.poss ++ [p]; rw [hM.poss]
      · show (s.fields ++ [s.cur]).length ≤ s0.size
        rw [List.length_append]
        simp only [List.length_cons, List.length_nil]
        omega
      · show r.buf.length ≤ s0.size
        omega
  · -- on to the next line
    rw [if_neg hl] at hstep
    have hlp : 0 < s.line.length := List.length_pos_iff.2 hl
    refine wp_if_true rfl (by rw [lk_same]; simp [hlp]) ?_
    refine seq_part (x := rec69) (rec_buf69 B G w1 c r _ f hP.st.inv (by rw [ecr]; exact hT1.h0) lb lo cp s.line hT1.h6 hP.line.at_ (by omega)) ?_
    rintro a w2 ⟨l2, v2, rfl, hk2, hi2, hO2, hv2⟩
    have hT2 := hT1.keep hk2
    have hP2 := hP.bufr hi2 hO2 hv2
    have hF2 := hF.next (Grows.buf hO2 hv2)
    refine seq_part' (K := fun a w' => w' = w2 ∧ ∃ l', a = Fr 560 l' f ∧ Tl l' f c0.cr dst n rec pb (lineV lb lo s.line.length cp) ∧ lk l' f 17 = .pointer (some ⟨fb, 0, none⟩)) ?_ ?_
    · refine seq_part (x := rec70) (rec_err70 w2 _ f hT2.h7) ?_
      rintro a w3 ⟨l3, rfl, hk3, rfl⟩
      refine wp_if_false rfl (lk_same _ _ _ _) ?_
      exact wp_skip ⟨rfl, _, rfl, (hT2.keep hk3).far rfl, by rw [lk_ne _ _ _ _ _ rfl, hk3 17 (by omega) rfl, hk2 17 (by omega) rfl, h17']⟩
    rintro a w2 ⟨rfl, l3, rfl, hT3, h173⟩
    refine seq_part (x := rec71) (rec_col71 w2 _ f pb s.pl s.pc hT3.h11 hP2.pos.blk _ _ _ hT3.h6 (by omega)) ?_
    rintro a w4 ⟨l4, rfl, hk4, rfl⟩
    have hT4 := hT3.keep hk4
    have hP4 := hP2.col (s.pc + s.line.length)
    have hF4 := hF2.col hne (i64v (s.pc + s.line.length)) 1
    have hnum : c.numLine = s.src.numLine := congrArg Csv.Src.numLine hM.src
    have hres : c.b.rest = s.src.left := congrArg Csv.Src.left hM.src
    refine seq_part (x := rec72) (rec_line72 B G _ _ _ f hP4.st.inv.l (by show c.numLine + c.b.rest.length + 1 < _; rw [hnum, hres]; omega) (by show lk l4 f 0 = .pointer (some ⟨c.cr, 0, none⟩); rw [ecr]; exact hT4.h0)) ?_
    rintro a w5 ⟨l5, lv, ev, rfl, hk5, hp⟩
    obtain ⟨c5, lb5, lo5, cp5, hP5, rfl, rfl, hsrc5, hg5, ep, ei, eb⟩ := hP4.next hp
    have hF5 := hF4.next hg5
    have hsl : srcOf { c with rbuf := v2 } = s.src := hM.src
    rw [hsl] at hsrc5 hP5 ⊢
    have hT5 := hT4.keep hk5
    have hTl : ∀ (l' : List (Nat × Value)), (∀ k, k < 24 → k ≠ 7 → lk l' f k = lk ((6, lineV lb5 lo5 s.src.line.length cp5) :: l5) f k) → lk l' f 7 = .nilIface → Tl l' f c0.cr dst n rec pb (lineV lb5 lo5 s.src.line.length cp5) ∧ lk l' f 17 = .pointer (some ⟨fb, 0, none⟩) := by
      intro l' hk h7
      have hT6 := hT5.line (lineV lb5 lo5 s.src.line.length cp5)
      exact ⟨⟨by rw [hk 0 (by omega) (by omega)]; exact hT6.h0, by rw [hk 1 (by omega) (by omega)]; exact hT6.h1, by rw [hk 6 (by omega) (by omega)]; exact hT6.h6, h7, by rw [hk 8 (by omega) (by omega)]; exact hT6.h8, by rw [hk 9 (by omega) (by omega)]; exact hT6.h9, by rw [hk 10 (by omega) (by omega)]; exact hT6.h10, by rw [hk 11 (by omega) (by omega)]; exact hT6.h11⟩,
        by rw [hk 17 (by omega) (by omega), lk_ne _ _ _ _ _ rfl, hk5 17 (by omega) rfl, hk4 17 (by omega) rfl, h173]⟩
    have hMat : ∀ s' : Csv.St, s.step c0.opt rec = .inl s' → s'.src = s.src.next → s'.fields = s.fields → s'.cur = s.cur ++ s.line → s'.poss = s.poss → Mat s' c5 { r with buf := r.buf ++ s.line } := fun s' _ e1 e2 e3 e4 =>
      ⟨by rw [e1]; exact hsrc5, by rw [e2, e3]; show r.buf ++ s.line = _; rw [hM.buf, List.append_assoc], by rw [e2]; exact hM.idx, by rw [e4]; exact hM.poss⟩
    have hless := less_step hstep
    refine seq_part' (K := fun a w' => ∃ l', a = Fr 560 l' f ∧ Keeps [] ((7, if c.b.rest.isEmpty then errVal G.eof else .nilIface) :: (6, lineV lb5 lo5 s.src.line.length cp5) :: l5) f l' ∧
        Core B G w0 c0 w' c5 { r with buf := r.buf ++ s.line } pb ((if s.src.line = [] then s.pl else s.pl + 1), (if s.src.line = [] then s.pc + s.line.length else 1)) s.src.line lb5 lo5 cp5 ∧ Loose w0 w' c5 fb p) ?_ ?_
    · refine seq_part (x := rec73) (rec_some73 w5 _ f _ _ _ (by rw [lk_ne _ _ _ _ _ rfl, lk_same])) ?_
      rintro a w5 ⟨l6, rfl, hk6, rfl⟩
      by_cases hsl0 : s.src.line = []
      · rw [if_pos hsl0, if_pos hsl0]
        refine wp_if_false rfl (by rw [lk_same, hsl0]; rfl) ?_
        exact wp_skip ⟨_, rfl, Keeps.far rfl hk6, hP5, hF5⟩
      · rw [if_neg hsl0, if_neg hsl0]
        have hslp : 0 < s.src.line.length := List.length_pos_iff.2 hsl0
        refine wp_if_true rfl (by rw [lk_same]; simp [hslp]) ?_
        refine last_part (x := rec74) (rec_newline74 w5 _ f pb s.pl (s.pc + s.line.length) (by rw [lk_ne _ _ _ _ _ rfl, hk6 11 (by omega) rfl, lk_ne _ _ _ _ _ rfl, lk_ne _ _ _ _ _ rfl]; exact hT5.h11) hP5.pos.blk (by omega)) ?_
        rintro a w7 ⟨l7, rfl, hk7, rfl⟩
        refine ⟨_, rfl, Keeps.trans (Keeps.far rfl hk6) hk7 rfl rfl, ?_, ?_⟩
        · have hO : Only (fun k => k = pb) w5 ((w5.setCell ⟨pb, 0, none⟩ (i64v (s.pl + 1))).setCell ⟨pb, 1, none⟩ (i64v 1)) := ((Only.refl (fun k => k = pb) w5).setCell (p := ⟨pb, 0, none⟩) (fun _ => rfl) _).setCell (p := ⟨pb, 1, none⟩) (fun _ => rfl) _
          exact hP5.poke hO ((hP5.pos.blk.set 0 (i64v (s.pl + 1))).set 1 (i64v 1))
        · exact (hF5.col hne (i64v (s.pl + 1)) 0).col hne (i64v 1) 1
    · rintro a w6 ⟨l6, rfl, hk6, hP6, hF6⟩
      refine last_part (x := rec76) (rec_eof76 w6 G _ f c.b.rest.isEmpty (by rw [hk6 7 (by omega) rfl, lk_same]) hP6.st.inv.l.glob.eof.var) ?_
      rintro a w6 ⟨l7, rfl, hk7, h7, rfl⟩
      obtain ⟨hT7, h177⟩ := hTl l7 (fun k hk hk7' => by
        rw [hk7 k hk (by simp; exact hk7'), hk6 k hk rfl, lk_ne _ _ _ _ _ (by simp; exact hk7')]) h7
      exact QHead.to hR hstep hT7 h177 hP6 hF6 hne rfl rfl (hMat _ hstep rfl rfl rfl rfl) hq hless.size hK
noncomputable def recHit : Code := part [true, false, true, true, true, true, true, true, true, true, true, true, true, true, true, false, false, false, false, true, true, true, true, true, true, false, false, false, true, true, false] recBody
set_option maxHeartbeats 1000000 in
theorem rec_hit {B : Nat} {G : Glob} {w0 : World} {c0 : CSt} {w : World} {c : CSt} {r : RSt} {pb fb lb lo cp : Nat} {l : List (Nat × Value)} {f : Nat → Value} {dst : Value} {n rec : Nat} {s0 : Csv.St} (hE : Env c0 rec n s0) (s : Csv.St) (p : Nat × Nat) (K : Nat) (hK : s.size ≤ K)
    (hT : Tl l f c0.cr dst n rec pb (lineV lb lo s.line.length cp)) (h17 : lk l f 17 = .pointer (some ⟨fb, 0, none⟩)) (hP : Core B G w0 c0 w c r pb (s.pl, s.pc) s.line lb lo cp) (hF : Loose w0 w c fb p) (hne : fb ≠ pb) (hM : Mat s c r) (hR : Reach c0.opt rec s0 s) (hq : s.quoted = some p) (i : Nat) (hi : Csv.indexByte 34 s.line = some i) (h18 : lk l f 18 = .int .i64 (i : Int)) :
    recHit.wp Tryz.prog (QRP B G w0 c0 dst rec n s0 f K s.size) (Fr 560 l f) w := by
  obtain ⟨b1, b2, b3, b4, b5, b6, b7, b8', b9, b0⟩ := hE.bnd hR
  have hsz : s.size = s.line.length + s.src.left.length + 1 := rfl
  have ecr : c.cr = c0.cr := by rw [hP.st.same]
  have eco : c.comma = c0.opt.comma := by rw [hP.st.same]; rfl
  have ela : c.lazy = c0.opt.lazy := by rw [hP.st.same]; rfl
  have hbl : r.buf.length = s.fields.flatten.length + s.cur.length := by rw [hM.buf, List.length_append]
  have hil : r.idx.length = s.fields.length := by rw [hM.idx, ends_length]
  have hpl2 : r.pos.length = s.fields.length := by rw [hM.poss]; exact b8'
  have hix := indexByte_le hi
  have hstep : s.step c0.opt rec = s.stepOpen c0.opt rec p := by unfold Csv.St.step; rw [hq]
  unfold Csv.St.stepOpen at hstep
  simp only [Csv.QU, hi] at hstep
  unfold Csv.St.stepQuote at hstep
  obtain ⟨L, hL⟩ : ∃ L, L = s.line.drop (i + 1) := ⟨_, rfl⟩
  obtain ⟨F, hF0⟩ : ∃ F, F = s.cur ++ s.line.take i := ⟨_, rfl⟩
  rw [← hL, ← hF0] at hstep
  have hLl : L.length = s.line.length - (i + 1) := by rw [hL, List.length_drop]
  have htk : (s.line.take i).length = i := by rw [List.length_take]; omega
  have hFl : F.length = s.cur.length + i := by rw [hF0, List.length_append, htk]
  refine seq_part (x := rec49) (rec_buf49 B G w c r _ f hP.st.inv (by rw [ecr]; exact hT.h0) lb lo cp i s.line hT.h6 hP.line.at_ h18 hix hP.line.len (by omega)) ?_
  rintro a w1 ⟨l1, v1, rfl, hk1, hi1, hO1, hv1⟩
  have hT1 := hT.keep hk1
  have hP1 := hP.bufr hi1 hO1 hv1
  have hF1 := hF.next (Grows.buf hO1 hv1)
  have h181 : lk l1 f 18 = .int .i64 (i : Int) := by rw [hk1 18 (by omega) rfl, h18]
  refine seq_part (x := rec50) (rec_cut50 w1 _ _ f lb lo cp s.line hT1.h6 i (i + 1) h181 (by omega) (by omega) hP1.line) ?_
  rintro a w1 ⟨l2, o2, rfl, hk2, rfl, hL2⟩
  have hT2 := (hT1.keep hk2).line (lineV lb o2 (s.line.drop (i + 1)).length (cp - (i + 1)))
  have hP2 := hP1.cut hL2
  refine seq_part (x := rec51) (rec_col51 w1 _ f pb s.pl s.pc hT2.h11 hP2.pos.blk i (i + 1) (by rw [lk_ne _ _ _ _ _ rfl, hk2 18 (by omega) rfl, h181]) (by omega) (by omega)) ?_
  rintro a w3 ⟨l3, rfl, hk3, rfl⟩
  have hT3 := hT2.keep hk3
  have hP3 := hP2.col (s.pc + (i + 1))
  have hF3 := hF1.col hne (i64v (s.pc + (i + 1))) 1
  have h173 : lk l3 f 17 = .pointer (some ⟨fb, 0, none⟩) := by rw [hk3 17 (by omega) rfl, lk_ne _ _ _ _ _ rfl, hk2 17 (by omega) rfl, hk1 17 (by omega) rfl, h17]
  rw [← hL] at hT3 hP3
  clear hL2 hT2 hP2 hT1 hP1 hF1 hk3 hk2 hk1 hi1 hO1 hT hP hF
  refine seq_part (x := rec52) (rec_next52 B _ _ f lb o2 (cp - (i + 1)) L hP3.st.inv.l.glob.tabs hT3.h6 hP3.line.at_) ?_
  rintro a w4 ⟨l4, rfl, hk4, hb4⟩
  have hT4 := (hT3.keep hk4).far (j := 19) (v := .int .i32 (nextR L)) rfl
  have hP4 := hP3.below hb4
  have hF4 := hF3.next (Grows.below hb4)
  have h174 : lk ((19, .int .i32 (nextR L)) :: l4) f 17 = .pointer (some ⟨fb, 0, none⟩) := by rw [lk_ne _ _ _ _ _ rfl, hk4 17 (by omega) rfl, h173]
  have hbuf0 : r.buf ++ s.line.take i = s.fields.flatten ++ F := by rw [hM.buf, hF0, List.append_assoc]
  refine wp_block ?_
  refine seq_part (x := rec54) (rec_is54 w4 _ f _ (lk_same _ _ _ _)) ?_
  rintro a w4 ⟨l5, rfl, hk5, rfl⟩
  rw [head_34]
  have hT5 := (hT4.keep hk5).far (j := 297) (v := .bool (decide (L.head? = some 34))) rfl
  have h175 : lk ((297, .bool (decide (L.head? = some 34))) :: l5) f 17 = .pointer (some ⟨fb, 0, none⟩) := by rw [lk_ne _ _ _ _ _ rfl, hk5 17 (by omega) rfl, h174]
  have h195 : lk ((297, .bool (decide (L.head? = some 34))) :: l5) f 19 = .int .i32 (nextR L) := by rw [lk_ne _ _ _ _ _ rfl, hk5 19 (by omega) rfl, lk_same]
  by_cases hh : L.head? = some 34
  · -- a doubled quote
    rw [if_pos hh] at hstep
    refine wp_if_true rfl (by rw [lk_same]; simp [hh]) ?_
    have hLp : 1 ≤ L.length := by
      cases hx : L with
      | nil => rw [hx] at hh; cases hh
      | cons => simp
    refine seq_part (x := rec55) (rec_quote55 B G w4 _ _ _ f hP4.st.inv (by rw [show ({ c with rbuf := v1 } : CSt).cr = c.cr from rfl, ecr]; exact hT5.h0) (by show (r.buf ++ s.line.take i).length + 1 < _; rw [List.length_append]; omega)) ?_
    rintro a w6 ⟨l6, v6, rfl, hk6, hi6, hO6, hv6⟩
    have hT6 := hT5.keep hk6
    have hP6 := hP4.bufr hi6 hO6 hv6
    have hF6 := hF4.next (Grows.buf hO6 hv6)
    refine seq_part (x := rec56) (rec_cut56 w6 _ _ f lb o2 (cp - (i + 1)) L hT6.h6 hLp hP6.line) ?_
    rintro a w6 ⟨l7, o7, rfl, hk7, rfl, hL7⟩
    have hT7 := (hT6.keep hk7).line (lineV lb o7 (L.drop 1).length (cp - (i + 1) - 1))
    refine last_part (x := rec57) (rec_col57 w6 _ f pb s.pl (s.pc + (i + 1)) hT7.h11 hP6.pos.blk (by omega)) ?_
    rintro a w8 ⟨l8, rfl, hk8, rfl⟩
    have hless := less_step hstep
    have hC := (hP6.cut hL7).col (s.pc + (i + 1) + 1)
    exact QHead.to hR hstep (hT7.keep hk8) (by rw [hk8 17 (by omega) rfl, lk_ne _ _ _ _ _ rfl, hk7 17 (by omega) rfl, hk6 17 (by omega) rfl, h175]) hC (hF6.col hne _ 1) hne rfl rfl
      (Mat.mk hM.src (by show r.buf ++ s.line.take i ++ [34] = s.fields.flatten ++ (F ++ [34]); rw [hbuf0, List.append_assoc]) hM.idx hM.poss) hq hless.size hK
  rw [if_neg hh] at hstep
  refine wp_if_false rfl (by rw [lk_same]; simp [hh]) ?_
  refine seq_part (x := rec58) (rec_is58 B G w4 _ _ _ f hP4.st.inv (by rw [show ({ c with rbuf := v1 } : CSt).cr = c.cr from rfl, ecr]; exact hT5.h0) (nextR L) h195) ?_
  rintro a w4 ⟨l6, rfl, hk6, rfl⟩
  have hvd : Csv.validDelim c0.opt.comma = true := by
    have := hE.valid
    unfold Csv.Opt.valid at this
    simp only [Bool.and_eq_true] at this
    exact this.1.2
  have hcm : (nextR L == ({ c with rbuf := v1 } : CSt).comma) = (Csv.enc c0.opt.comma).isPrefixOf L := by
    rw [show ({ c with rbuf := v1 } : CSt).comma = c.comma from rfl, eco, Bool.eq_iff_iff, beq_iff_eq, nextR_iff _ (.inl hvd), List.isPrefixOf_iff_prefix]
  rw [hcm]
  have hT6 := (hT5.keep hk6).far (j := 315) (v := .bool ((Csv.enc c0.opt.comma).isPrefixOf L)) rfl
  have h176 : lk ((315, .bool ((Csv.enc c0.opt.comma).isPrefixOf L)) :: l6) f 17 = .pointer (some ⟨fb, 0, none⟩) := by rw [lk_ne _ _ _ _ _ rfl, hk6 17 (by omega) rfl, h175]
  have hbuf1 : r.buf ++ s.line.take i = (s.fields ++ [F]).flatten := by rw [hbuf0]; simp
  have hidx1 : r.idx ++ [(r.buf ++ s.line.take i).length] = ends 0 (s.fields ++ [F]) := by rw [ends_append, hM.idx, ← hbuf1, Nat.zero_add]
  cases hcp : (Csv.enc c0.opt.comma).isPrefixOf L with
  | true =>
    rw [hcp] at hT6 h176
    rw [if_pos hcp] at hstep
    have hnl := (List.isPrefixOf_iff_prefix.1 hcp).length_le
    rw [← hE.len] at hnl
    simp only [← hE.len] at hstep
    refine wp_if_true rfl (lk_same _ _ _ _) ?_
    refine seq_part (x := rec59) (rec_cut59 w4 _ _ f lb o2 (cp - (i + 1)) L hT6.h6 n hT6.h9 hnl hP4.line) ?_
    rintro a w4 ⟨l7, o7, rfl, hk7, rfl, hL7⟩
    have hT7 := (hT6.keep hk7).line (lineV lb o7 (L.drop n).length (cp - (i + 1) - n))
    refine seq_part (x := rec60) (rec_col60 w4 _ f pb s.pl (s.pc + (i + 1)) hT7.h11 hP4.pos.blk n hT7.h9 (by omega)) ?_
    rintro a w8 ⟨l8, rfl, hk8, rfl⟩
    have hT8 := hT7.keep hk8
    have hP8 := (hP4.cut hL7).col (s.pc + (i + 1) + n)
    have hF8 := hF4.col hne (i64v (s.pc + (i + 1) + n)) 1
    have h178 : lk l8 f 17 = .pointer (some ⟨fb, 0, none⟩) := by rw [hk8 17 (by omega) rfl, lk_ne _ _ _ _ _ rfl, hk7 17 (by omega) rfl, h176]
    refine seq_part (x := rec61) (rec_idx61 B G _ _ _ _ f hP8.st.inv (by rw [show ({ c with rbuf := v1 } : CSt).cr = c.cr from rfl, ecr]; exact hT8.h0) (by show r.idx.length + 1 < _; omega)) ?_
    rintro a w9 ⟨l9, v9, rfl, hk9, hi9, hO9, hv9⟩
    have hT9 := hT8.keep hk9
    have hP9 := hP8.idx hi9 hO9 hv9
    have hF9 := hF8.next (Grows.idx hO9 hv9)
    refine seq_part (x := rec62) (rec_pos62 B G w9 _ _ _ f hP9.st.inv (by show lk l9 f 0 = .pointer (some ⟨c.cr, 0, none⟩); rw [ecr]; exact hT9.h0) fb p (by rw [hk9 17 (by omega) rfl, h178]) hF9.blk (fun e => hF9.far (.inr (.inr (.inr e)))) (by show r.pos.length + 1 < _; omega)) ?_
    rintro a w10 ⟨l10, v10, rfl, hk10, hi10, hO10, hv10⟩
    have hP10 := hP9.posr hi10 hO10 hv10
    refine wp_exit ?_
    have hless := less_step hstep
    exact Head.to hR hstep (hT9.keep hk10) hP10 rfl rfl (Mat.mk hM.src (by show r.buf ++ s.line.take i = (s.fields ++ [F]).flatten ++ []; rw [hbuf1, List.append_nil]) hidx1 (by show r.pos ++ [p] = s.poss ++ [p]; rw [hM.poss])) rfl (Nat.lt_of_lt_of_le hless.size hK)
  | false =>
    rw [hcp] at hT6 h176
    rw [if_neg (by rw [hcp]; simp)] at hstep
    refine wp_if_false rfl (lk_same _ _ _ _) ?_
    refine seq_part (x := rec63) (rec_is63 w4 _ f lb o2 (cp - (i + 1)) L hT6.h6 hP4.line.at_ hP4.line.len hP4.line.cap) ?_
    rintro a w4 ⟨l7, rfl, hk7, rfl⟩
    have hT7 := (hT6.keep hk7).far (j := 354) (v := .bool (Csv.nlLen L == L.length)) rfl
    have h177 : lk ((354, .bool (Csv.nlLen L == L.length)) :: l7) f 17 = .pointer (some ⟨fb, 0, none⟩) := by rw [lk_ne _ _ _ _ _ rfl, hk7 17 (by omega) rfl, h176]
    by_cases hnl : Csv.nlLen L = L.length
    · rw [if_pos hnl] at hstep
      refine wp_if_true rfl (by rw [lk_same]; simp [hnl]) ?_
      refine seq_part (x := rec64) (rec_idx64 B G _ _ _ _ f hP4.st.inv (by rw [show ({ c with rbuf := v1 } : CSt).cr = c.cr from rfl, ecr]; exact hT7.h0) (by show r.idx.length + 1 < _; omega)) ?_
      rintro a w9 ⟨l9, v9, rfl, hk9, hi9, hO9, hv9⟩
      have hT9 := hT7.keep hk9
      have hP9 := hP4.idx hi9 hO9 hv9
      have hF9 := hF4.next (Grows.idx hO9 hv9)
      refine seq_part (x := rec65) (rec_pos65 B G w9 _ _ _ f hP9.st.inv (by show lk l9 f 0 = .pointer (some ⟨c.cr, 0, none⟩); rw [ecr]; exact hT9.h0) fb p (by rw [hk9 17 (by omega) rfl, h177]) hF9.blk (fun e => hF9.far (.inr (.inr (.inr e)))) (by show r.pos.length + 1 < _; omega)) ?_
      rintro a w10 ⟨l10, v10, rfl, hk10, hi10, hO10, hv10⟩
      have hP10 := hP9.posr hi10 hO10 hv10
      refine wp_exit ?_
      refine Fin.to [] hR hstep (hT9.keep hk10) hP10.st hM.src ?_ hidx1 ?_ rfl ?_ ?_
      · show r.buf ++ s.line.take i = (s.fields ++ [F]).flatten ++ []; rw [hbuf1, List.append_nil]
      · show r.pos ++ [p] = s.poss ++ [p]; rw [hM.poss]
      · show (s.fields ++ [F]).length ≤ s0.size
        rw [List.length_append]
        simp only [List.length_cons, List.length_nil]
        omega
      · show (r.buf ++ s.line.take i).length ≤ s0.size
        rw [List.length_append]; omega
    · rw [if_neg hnl] at hstep
      refine wp_if_false rfl (by rw [lk_same]; simp [hnl]) ?_
      refine seq_part (x := rec66) (rec_opt66 B G w4 _ _ _ f hP4.st.inv (by rw [show ({ c with rbuf := v1 } : CSt).cr = c.cr from rfl, ecr]; exact hT7.h0)) ?_
      rintro a w4 ⟨l8, rfl, hk8, rfl⟩
      have hT8 := (hT7.keep hk8).far (j := 384) (v := .bool ({ c with rbuf := v1 } : CSt).lazy) rfl
      have h178 : lk ((384, .bool ({ c with rbuf := v1 } : CSt).lazy) :: l8) f 17 = .pointer (some ⟨fb, 0, none⟩) := by rw [lk_ne _ _ _ _ _ rfl, hk8 17 (by omega) rfl, h177]
      cases hlz : c0.opt.lazy with
      | true =>
        refine wp_if_true rfl (by rw [lk_same, show ({ c with rbuf := v1 } : CSt).lazy = c.lazy from rfl, ela, hlz]) ?_
        rw [hlz] at hstep
        simp only [if_true] at hstep
        refine last_part (x := rec67) (rec_quote67 B G w4 _ _ _ f hP4.st.inv (by rw [show ({ c with rbuf := v1 } : CSt).cr = c.cr from rfl, ecr]; exact hT8.h0) (by show (r.buf ++ s.line.take i).length + 1 < _; rw [List.length_append]; omega)) ?_
        rintro a w9 ⟨l9, v9, rfl, hk9, hi9, hO9, hv9⟩
        have hP9 := hP4.bufr hi9 hO9 hv9
        have hF9 := hF4.next (Grows.buf hO9 hv9)
        have hless := less_step hstep
        exact QHead.to hR hstep (hT8.keep hk9) (by rw [hk9 17 (by omega) rfl, h178]) hP9 hF9 hne rfl rfl
          (Mat.mk hM.src (by show r.buf ++ s.line.take i ++ [34] = s.fields.flatten ++ (F ++ [34]); rw [hbuf0, List.append_assoc]) hM.idx hM.poss) hq hless.size hK
      | false =>
        refine wp_if_false rfl (by rw [lk_same, show ({ c with rbuf := v1 } : CSt).lazy = c.lazy from rfl, ela, hlz]) ?_
        rw [hlz] at hstep
        simp only [Bool.false_eq_true, if_false] at hstep
        have hnum : c.numLine = s.src.numLine := congrArg Csv.Src.numLine hM.src
        refine seq_part (x := rec53) (rec_err53 B G w4 _ _ _ f hP4.st.inv (by rw [show ({ c with rbuf := v1 } : CSt).cr = c.cr from rfl, ecr]; exact hT8.h0) rec pb s.pl (s.pc + i) hT8.h10 hT8.h11 hP4.pos.blk (by omega)) ?_
        rintro a w9 ⟨l9, rfl, hk9, hw9⟩
        have hb9 : Below w4.heap.size w4 w9 := by rw [hw9]; exact ((Below.refl _ w4).drew).alloc (Nat.le_refl _) _
        have hblk := Blk.new_arr w4.drew 108 #[i64v rec, i64v c.numLine, i64v (s.pc + i), errVal G.quote]
        have hw9' : w9 = w4.drew.alloc (.cells #[i64v rec, i64v c.numLine, i64v (s.pc + i), errVal G.quote] 108) := hw9
        rw [← hw9'] at hblk
        refine wp_exit ?_
        have hMx : Mat { s with cur := F } ({ c with rbuf := v1 } : CSt) { r with buf := r.buf ++ s.line.take i } := ⟨hM.src, hbuf0, hM.idx, hM.poss⟩
        exact Fin.err' hR hstep (hT8.keep hk9) hP4.st hMx hb9 hblk (Nat.le_refl _) rfl rfl rfl rfl (by rw [hnum]; rfl) rfl (.inr (.inl ⟨rfl, rfl⟩)) (by show s.fields.length ≤ s0.size; omega) (by show (r.buf ++ s.line.take i).length ≤ s0.size; rw [List.length_append]; omega)
theorem RInv.rown_lt {B : Nat} {G : Glob} {w : World} {c : CSt} {r : RSt} (h : RInv B G w c r) : ∀ k, c.rown k → k < w.heap.size := by
  rintro k ((rfl | (rfl | rfl | rfl) | hk) | hk | hk | hk)
  · exact h.l.cr.lt
  · exact h.l.b.rb.lt
  · exact h.l.b.buf.lt
  · exact h.l.b.src.lt
  · obtain ⟨l, hl⟩ := h.l.raw; exact (own_lt hl hk).2
  · exact (own_lt h.rbuf hk).2
  · exact (own_lt h.idx hk).2
  · exact (own_lt h.pos hk).2
noncomputable def recQuoted : Code := part [true, false, true, true, true, true, true, true, true, true, true, true, true, true, true, false, false, false, false, true, true, true] recBody
set_option maxHeartbeats 1000000 in
theorem rec_quoted {B : Nat} {G : Glob} {w0 : World} {c0 : CSt} {w : World} {c : CSt} {r : RSt} {pb lb lo cp : Nat} {l : List (Nat × Value)} {f : Nat → Value} {dst : Value} {n rec : Nat} {s0 : Csv.St} (hE : Env c0 rec n s0) (s : Csv.St) (L : List UInt8) (p : Nat)
    (ht : s.trimmed c0.opt = { s with line := L, pc := p }) (hLl : L.length ≤ s.line.length) (hpl : p + L.length ≤ s.pc + s.line.length)
    (hT : Tl l f c0.cr dst n rec pb (lineV lb lo L.length cp)) (hP : Core B G w0 c0 w c r pb (s.pl, p) L lb lo cp) (hM : Mat s c r) (hR : Reach c0.opt rec s0 s) (hq : s.quoted = none) (hh : L.head? = some 34) :
    recQuoted.wp Tryz.prog (RP B G w0 c0 dst rec n s0 f s.size) (Fr 560 l f) w := by
  obtain ⟨b1, b2, b3, b4, b5, b6, b7, b8', b9, b0⟩ := hE.bnd hR
  have hcur := b9 hq
  have hsz : s.size = s.line.length + s.src.left.length + 1 := rfl
  have hstep : s.step c0.opt rec = ({ s with line := L, pc := p } : Csv.St).stepStart c0.opt rec := by
    rw [← ht]; unfold Csv.St.step; rw [hq]
  unfold Csv.St.stepStart at hstep
  rw [if_pos hh] at hstep
  have hLp : 1 ≤ L.length := by
    cases hx : L with
    | nil => rw [hx] at hh; cases hh
    | cons => simp
  refine seq_part (x := rec44) (rec_pos44 w _ f pb (s.pl, p) hT.h11 hP.pos.blk) ?_
  rintro a w1 ⟨l1, rfl, hk1, hb1, hfb⟩
  have hT1 := (hT.keep hk1).far (j := 17) (v := .pointer (some ⟨w.heap.size, 0, none⟩)) rfl
  have hP1 := hP.below hb1
  have hF1 : Loose w0 w1 c w.heap.size (s.pl, p) := ⟨hfb, hP.st.only.size, fun o => by have := hP.st.inv.rown_lt _ o; omega⟩
  have hne : w.heap.size ≠ pb := by have := hP.pos.blk.lt; omega
  refine seq_part (x := rec45) (rec_cut45 w1 c _ f lb lo cp L hT1.h6 hLp hP1.line) ?_
  rintro a w1 ⟨l2, o2, rfl, hk2, rfl, hL2⟩
  have hT2 := (hT1.keep hk2).line (lineV lb o2 (L.drop 1).length (cp - 1))
  refine seq_part (x := rec46) (rec_col46 w1 _ f pb s.pl p hT2.h11 hP1.pos.blk (by omega)) ?_
  rintro a w3 ⟨l3, rfl, hk3, rfl⟩
  have hT3 := hT2.keep hk3
  have hP3 := (hP1.cut hL2).col (p + 1)
  have hF3 := hF1.col hne (i64v (p + 1)) 1
  have h173 : lk l3 f 17 = .pointer (some ⟨w.heap.size, 0, none⟩) := by rw [hk3 17 (by omega) rfl, lk_ne _ _ _ _ _ rfl, hk2 17 (by omega) rfl, lk_same]
  have hless := less_step hstep
  obtain ⟨m, hm, hQ⟩ := QHead.to (K := s.size) hR hstep hT3 h173 hP3 hF3 hne rfl rfl (Mat.mk hM.src (by show r.buf = s.fields.flatten ++ []; rw [hM.buf, hcur]) hM.idx hM.poss) rfl hless.size (Nat.le_refl _)
  refine wp_mono (Q := QRP B G w0 c0 dst rec n s0 f s.size 0) ?_ ?_
  · refine wp_block ?_
    refine wp_loop_n (fun k a w' => QHead B G w0 c0 dst rec n s0 f s.size k a w') m hQ ?_
    clear hQ hm hless h173 hF3 hP3 hT3 hk3 hT2 hk2 hL2 hF1 hP1 hT1 hk1 hb1 hfb hne
    rintro k a w4 ⟨l4, c4, r4, s4, p4, pb4, fb4, lb4, lo4, cp4, rfl, hT4, h174, hP4, hF4, hne4, hM4, hR4, hq4, rfl, hs4⟩
    refine wp_block ?_
    refine wp_mono (Q := QRP B G w0 c0 dst rec n s0 f s.size s4.size) ?_ ?_
    · refine seq_part (x := rec47) (rec_index47 w4 _ f lb4 lo4 cp4 s4.line hT4.h6 hP4.line.at_) ?_
      rintro a w4 ⟨l5, rfl, hk5, rfl⟩
      have hT5 := (hT4.keep hk5).far (j := 18) (v := .int .i64 (goIdx (Csv.indexByte 34 s4.line))) rfl
      have h175 : lk ((18, .int .i64 (goIdx (Csv.indexByte 34 s4.line))) :: l5) f 17 = .pointer (some ⟨fb4, 0, none⟩) := by rw [lk_ne _ _ _ _ _ rfl, hk5 17 (by omega) rfl, h174]
      refine seq_part (x := rec48) (rec_there48 w4 _ f _ (lk_same _ _ _ _)) ?_
      rintro a w4 ⟨l6, rfl, hk6, rfl⟩
      have hT6 := (hT5.keep hk6).far (j := 261) (v := .bool (Csv.indexByte 34 s4.line).isSome) rfl
      have h176 : lk ((261, .bool (Csv.indexByte 34 s4.line).isSome) :: l6) f 17 = .pointer (some ⟨fb4, 0, none⟩) := by rw [lk_ne _ _ _ _ _ rfl, hk6 17 (by omega) rfl, h175]
      have h186 : lk ((261, .bool (Csv.indexByte 34 s4.line).isSome) :: l6) f 18 = .int .i64 (goIdx (Csv.indexByte 34 s4.line)) := by rw [lk_ne _ _ _ _ _ rfl, hk6 18 (by omega) rfl, lk_same]
      cases hi : Csv.indexByte 34 s4.line with
      | some i =>
        rw [hi] at hT6 h176 h186
        refine wp_if_true rfl (lk_same _ _ _ _) ?_
        exact rec_hit hE s4 p4 s.size (by omega) hT6 h176 hP4 hF4 hne4 hM4 hR4 hq4 i hi h186
      | none =>
        rw [hi] at hT6 h176 h186
        refine wp_if_false rfl (lk_same _ _ _ _) ?_
        exact rec_rest hE s4 p4 s.size (by omega) hT6 h176 hP4 hF4 hne4 hM4 hR4 hq4 hi
    · rintro (_ | (_ | _ | _ | _ | i) | _ | _ | _ | _) a w5 h
      all_goals first | exact h | exact h.elim
  · rintro (_ | (_ | _ | _ | _ | i) | _ | _ | _ | _) a w5 h
    · obtain ⟨m, hm, _⟩ := h; omega
    all_goals first | exact h | exact h.elim
noncomputable def recParse : Code := part [true, false, true, true, true, true, true, true, true, true, true, true, true, true, true, false] recBody
set_option maxHeartbeats 1000000 in
theorem rec_parse {B : Nat} {G : Glob} {w0 : World} {c0 : CSt} {w : World} {f : Nat → Value} {dst : Value} {n rec : Nat} {s0 : Csv.St} (hE : Env c0 rec n s0) (k : Nat) (a : Act) (hH : Head B G w0 c0 dst rec n s0 f k a w) :
    recParse.wp Tryz.prog (NPost (Fin B G w0 c0 dst rec s0 f)) a w := by
  refine wp_block ?_
  refine wp_loop_n (fun k a w' => Head B G w0 c0 dst rec n s0 f k a w') k hH ?_
  clear hH k
  rintro k a w ⟨l, c, r, s, pb, lb, lo, cp, rfl, hT, hP, hM, hR, hq, rfl⟩
  obtain ⟨b1, b2, b3, b4, b5, b6, b7, b8', b9, b0⟩ := hE.bnd hR
  refine wp_block ?_
  refine wp_mono (Q := RP B G w0 c0 dst rec n s0 f s.size) ?_ ?_
  · refine seq_part (x := recTrim) (rec_trimmed s hT hP b7 (by omega)) ?_
    obtain ⟨L, p, ht, hLl, hpl, _⟩ := trimmed_eq c0.opt s
    rw [ht]
    rintro a w1 ⟨l1, lo1, cp1, rfl, hT1, hP1⟩
    refine seq_part (x := rec27) (rec_isq27 w1 _ f lb lo1 cp1 L hT1.h6 hP1.line.at_) ?_
    rintro a w1 ⟨l2, rfl, hk2, rfl⟩
    have hT2 := (hT1.keep hk2).far (j := 161) (v := .bool (decide (L.head? ≠ some 34))) rfl
    by_cases hh : L.head? = some 34
    · refine wp_if_false rfl (by rw [lk_same]; simp [hh]) ?_
      exact rec_quoted hE s L p ht hLl hpl hT2 hP1 hM hR hq hh
    · refine wp_if_true rfl (by rw [lk_same]; simp [hh]) ?_
      exact rec_plain hE s L p ht hLl hpl hT2 hP1 hM hR hq hh
  · rintro (_ | (_ | _ | _ | _ | i) | _ | _ | _ | _) a w5 h
    all_goals first | exact h | exact h.elim
end Go.Proofs.YtfadgnopfjajbaaGreatDoor
