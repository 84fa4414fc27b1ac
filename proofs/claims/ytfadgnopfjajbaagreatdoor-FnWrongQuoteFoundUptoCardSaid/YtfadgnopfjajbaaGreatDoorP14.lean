/- A part of the proof: Scan: what a call leaves. Scan: what the other calls leave. Scan: a round of its loop. Scan: its loop. Scan: its loops. Scan: ahead of its loop, and its result. Scan: the room for the records that it keeps. Scan: the second loop. Scan: the second loop. Scan: a round of the second loop. Scan: the second loop. -/
import Derived.Test.YtfadgnopfjajbaaGreatDoorP13
namespace Go.Proofs.YtfadgnopfjajbaaGreatDoor
open Go.RowKit
/-- Behind the switch. -/
structure Mid (B : Nat) (G : Glob) (w0 : World) (n : Nat) (c0 : CSt) (kb ab : Nat) (av : Value) (s : Csv.Ses) (cal : Csv.Cal) (w1 w2 : World) (c : CSt) (r : RSt) (gs : List Nat) (s1 : Csv.Ses) (x : Csv.Ref) (rv lv sv : Value) (a : Csv.Ans) : Prop where
  st : SInv B G w1 n c r gs kb av s1
  zc : ∃ zc, Blk w1 ab 53 zc
  abn : ¬ Mut c gs kb av ab
  only : Only (fun k => k = ab ∨ k = kb) w1 w2
  okx : refOk s1.arrays x
  kept : Blk w2 kb 36 ((s1.kept ++ [x]).map (refV gs s1.arrays) ++ List.replicate (n - (s1.kept ++ [x]).length) (.slice none 0 0))
  ans : AnsAt B w2 (Mut c gs kb av) (ansCells rv lv sv a.fail.kind a.fail.start a.fail.line a.fail.col a.line a.col a.panicked a.n) a
  blk : Blk w2 ab 53 (ansCells rv lv sv a.fail.kind a.fail.start a.fail.line a.fail.col a.line a.col a.panicked a.n)
  slices : (∃ A n c, rv = .slice A n c) ∧ (∃ A n c, lv = .slice A n c) ∧ ∃ A n c, sv = .slice A n c
  call : s.call c0.opt c0.reuse cal = { s1 with kept := s1.kept ++ [x], answers := s1.answers ++ [a] }
  kept1 : s1.kept = s.kept
  ans1 : s1.answers = s.answers
  same : c.cr = c0.cr ∧ c.opt = c0.opt ∧ c.reuse = c0.reuse
  pot : c.numLine + 2 * c.b.rest.length ≤ c0.numLine + 2 * c0.b.rest.length + 1
  below : Below B w0 w2
section
variable {B : Nat} {G : Glob} {w : World} {n : Nat} {c : CSt} {r : RSt} {gs : List Nat} {kb ab : Nat} {av : Value} {s : Csv.Ses}
/-- What a round of the loop starts with. -/
structure Rnd (B : Nat) (G : Glob) (w : World) (n : Nat) (c : CSt) (r : RSt) (gs : List Nat) (kb ab cb : Nat) (av : Value) (s : Csv.Ses) (cal : Csv.Cal) (m : Int) (l : List (Nat × Value)) (f : Nat → Value) : Prop where
  st : SInv B G w n c r gs kb av s
  h7 : lk l f 7 = .pointer (some ⟨c.cr, 0, none⟩)
  h9 : lk l f 9 = refV gs s.arrays s.last
  h10 : lk l f 10 = .slice (some ⟨kb, 0, none⟩) n n
  h11 : lk l f 11 = .int .i64 (s.kept.length : Int)
  h12 : lk l f 12 = .pointer (some ⟨cb, 0, none⟩)
  h13 : lk l f 13 = .pointer (some ⟨ab, 0, none⟩)
  cbk : Blk w cb 68 [.int .i64 cal.op, .int .i64 cal.field]
  abk : Blk w ab 53 ansZero
  abB : B ≤ ab
  abn : ¬ Mut c gs kb av ab
  room : s.kept.length < n
  pot : c.numLine + 2 * c.b.rest.length < 268435450
  tame : (cal.op = 0 → TameS c.opt s.rd.src) ∧ (cal.op = 1 → Tames c.opt s.rd)
  maxlen : ∀ w1, Below B w w1 → w1.cell? ⟨4, 0, none⟩ = some (.int .i64 m)
theorem SInv.mut_lt (h : SInv B G w n c r gs kb av s) (k : Nat) (hk : Mut c gs kb av k) : k < w.heap.size := by
  rcases hk with h1 | h1 | h1 | h1
  · exact h.inv.rown_lt k h1
  · exact (h.gs_far k h1).2.2.2
  · rw [h1]; exact h.kept.lt
  · exact (h.av_far k h1).2.2
theorem opt_of_read {c c' : CSt} (h : c' = { c with b := c'.b, raw := c'.raw, numLine := c'.numLine, offset := c'.offset, rbuf := c'.rbuf, idx := c'.idx, pos := c'.pos, expect := c'.expect, last := c'.last }) : c'.cr = c.cr ∧ c'.opt = c.opt ∧ c'.reuse = c.reuse := by
  refine ⟨by rw [h], by rw [h]; rfl, by rw [h]⟩
/-- The kept records with one more. -/
theorem kept_next {gs : List Nat} {arrays : List (List (List UInt8))} (ks : List Csv.Ref) (n : Nat) (x : Csv.Ref) (h : ks.length < n) : (ks.map (refV gs arrays) ++ List.replicate (n - ks.length) (Value.slice none 0 0)).set ks.length (refV gs arrays x) = (ks ++ [x]).map (refV gs arrays) ++ List.replicate (n - (ks ++ [x]).length) (Value.slice none 0 0) := by
  obtain ⟨k, hk⟩ : ∃ k, n - ks.length = k + 1 := ⟨n - ks.length - 1, by omega⟩
  have e : n - (ks ++ [x]).length = k := by simp; omega
  rw [hk, e, List.replicate_succ, List.set_append_right _ _ (by simp)]
  simp
theorem place_deref (arrays : List (List (List UInt8))) (cache : Csv.Ref) (fs : List (List UInt8)) (h : refOk arrays cache) : Csv.deref (Csv.place arrays cache fs).1 (Csv.place arrays cache fs).2 = fs := by
  unfold Csv.place
  cases cache with
  | none =>
    simp only
    split
    · rename_i he
      rw [List.isEmpty_iff.1 he]; rfl
    · show ((arrays ++ [fs]).getD arrays.length []).take fs.length = fs
      rw [List.getD_eq_getElem?_getD, List.getElem?_append_right (Nat.le_refl _)]; simp
  | some p =>
    obtain ⟨i, m⟩ := p
    obtain ⟨h1, h2⟩ := h
    simp only
    split
    · show ((arrays ++ [fs]).getD arrays.length []).take fs.length = fs
      rw [List.getD_eq_getElem?_getD, List.getElem?_append_right (Nat.le_refl _)]; simp
    · show ((arrays.set i (fs ++ (arrays.getD i []).drop fs.length)).getD i []).take fs.length = fs
      rw [List.getD_eq_getElem?_getD, List.getElem?_set, if_pos rfl, if_pos h1]; simp
theorem mid_read {cb : Nat} {cal : Csv.Cal} {m : Int} {l : List (Nat × Value)} {f : Nat → Value} (hR : Rnd B G w n c r gs kb ab cb av s cal m l f) (hop : cal.op = 0) :
    (Code.seq sc15 sc16).wp Tryz.prog (NPost fun a w' => ∃ l' w1 c' r' gs' s1 x rv lv sv an, a = Fr 146 l' f ∧ SKeeps [9, 14] l f l' ∧ lk l' f 9 = refV gs' s1.arrays s1.last ∧ Mid B G w n c kb ab av s cal w1 w' c' r' gs' s1 x rv lv sv an) (Fr 146 l f) w := by
  have hst := hR.st
  obtain ⟨m0, hD⟩ := hst.dst
  have hpot := hR.pot
  have htame : Tame c := by
    have h := hR.tame.1 hop
    rw [← hst.rd] at h
    exact h
  have cR := Read_any B G w c r m0 (arrOf s c.reuse) hst.inv hD (by omega) htame
  refine seq_part (scan_p15 w l f c.cr (fun dv ev w' => ∃ c' r', ReadOut B G w c (lastOf c) (arrOf s c.reuse) ((c.rd r).read c.opt) dv ev w' c' r') hR.h7 (cR.mono (fun e w' ⟨dv, ev, c', r', h1, h2⟩ => ⟨dv, ev, h1, c', r', h2⟩))) ?_
  rintro a w1 ⟨l1, dv, ev, rfl, hk1, k9, k14, c', r', ho⟩
  rw [hst.rd] at ho
  obtain ⟨rs, fl, rd', hread⟩ : ∃ rs fl rd', s.rd.read c.opt = (rs, fl, rd') := ⟨_, _, _, rfl⟩
  rw [hread] at ho
  have hrd : c'.rd r' = rd' := ho.rd
  have hsame := opt_of_read ho.same
  have hleft : c'.b.rest.length ≤ c.b.rest.length := by
    have h1 := read_left_le c.opt s.rd
    rw [hread] at h1
    have h2 : c'.b.rest = rd'.src.left := by rw [← hrd]; rfl
    have h3 : s.rd.src.left = c.b.rest := by rw [← hst.rd]; rfl
    rw [h2, ← h3]; exact h1
  -- the state behind Read
  obtain ⟨gs', s1, x, hs1, hturn, hdv, hfsx, hcall, hk, ha, hrd1, hpot1⟩ : ∃ gs' s1 x, SInv B G w1 n c' r' gs' kb av s1 ∧ Turns (Mut c gs kb av) w (Mut c' gs' kb av) w1 ∧ dv = refV gs' s1.arrays s1.last ∧ x = s1.last ∧
      (s.call c.opt c.reuse cal = { s1 with kept := s1.kept ++ [x], answers := s1.answers ++ [{ record := Csv.deref s1.arrays s1.last, fail := fl }] }) ∧ s1.kept = s.kept ∧ s1.answers = s.answers ∧ s1.rd = rd' ∧ c'.numLine + 2 * c'.b.rest.length ≤ c.numLine + 2 * c.b.rest.length + 1 := by
    cases hrs : rs with
    | none =>
      rw [hrs] at ho
      obtain ⟨hdv, hO⟩ : dv = .slice none 0 0 ∧ Only c.rown w w1 := by
        rcases ho.out with ⟨_, h2, h3⟩ | ⟨fs, h1, _⟩
        · exact ⟨h2, h3⟩
        · cases h1
      obtain ⟨q1, q2⟩ := hst.quiet ho.inv hO ho.root none none trivial trivial (by
        rw [ho.last]
        cases hr : c.reuse
        · simp only [Bool.false_eq_true, if_false]
          rw [hst.cache, hst.reuse hr]
        · simp only [if_true]; exact hdv) (fun _ => rfl)
      refine ⟨gs, _, none, q1, q2, hdv, rfl, ?_, rfl, rfl, hrd, by have := ho.small; omega⟩
      unfold Csv.Ses.call
      rw [if_pos hop, hread, hrs]
      rw [hrd]
      rfl
    | some fs =>
      rw [hrs] at ho
      have hfl : fs.length < 268435456 := by
        rcases ho.out with ⟨h1, _⟩ | ⟨fs', h1, _, h3, _⟩
        · cases h1
        · injection h1 with h1; subst h1; omega
      obtain ⟨gs', q1, q2, q3⟩ := hst.read ho hfl
      refine ⟨gs', _, _, q1, q3, q2, rfl, ?_, rfl, rfl, rfl, ?_⟩
      · unfold Csv.Ses.call
        rw [if_pos hop, hread, hrs]
        have hok : refOk s.arrays (if c.reuse then s.cache else none) := by
          split
          · exact hst.okCache
          · trivial
        simp only [place_deref _ _ fs hok]
      · have h1 := read_left (o := c.opt) (r := s.rd) (fs := fs) (by rw [hread]; exact hrs)
        rw [hread] at h1
        have h2 : c'.b.rest = rd'.src.left := by rw [← hrd]; rfl
        have h3 : s.rd.src.left = c.b.rest := by rw [← hst.rd]; rfl
        have h4 := ho.small
        have h5 : c'.b.rest.length < c.b.rest.length := by rw [h2, ← h3]; exact h1
        omega
  have hbel1 : Below B w w1 := hturn.only.below hst.size hst.mut
  have hkn : s1.kept.length = s.kept.length := by rw [hk]
  have hokl := hs1.okLast
  have hstr := deref_str hs1.arrs s1.last hokl
  have hdlen : (Csv.deref s1.arrays s1.last).length < 1099511627776 := by
    cases hl : s1.last with
    | none => exact (by decide : (0 : Nat) < 1099511627776)
    | some p =>
      obtain ⟨i, m⟩ := p
      rw [hl] at hokl
      obtain ⟨o1, o2⟩ := hokl
      have hg : gs'[i]? = some (gs'.getD i 0) := by rw [List.getD_eq_getElem?_getD, List.getElem?_eq_getElem (by rw [hs1.arrs.len]; exact o1)]; rfl
      have ha : s1.arrays[i]? = some (s1.arrays.getD i []) := by rw [List.getD_eq_getElem?_getD, List.getElem?_eq_getElem o1]; rfl
      have hq := (hs1.arrs.blk i _ _ hg ha).2.2
      show ((s1.arrays.getD i []).take m).length < _
      rw [List.length_take]; omega
  have hab1 : Blk w1 ab 53 ansZero := hR.abk.only hturn.only hR.abn
  have habn1 : ¬ Mut c' gs' kb av ab := fun h => (hturn.root ab h).elim hR.abn (fun h => by have := hR.abk.lt; omega)
  have hkb1 := hs1.kept
  have hlen1 : (s1.kept.map (refV gs' s1.arrays) ++ List.replicate (n - s1.kept.length) (Value.slice none 0 0)).length = n := by
    have := hs1.keptN
    simp; omega
  refine last_part (scan_p16 B G w w1 l1 f dv ev _ fl ab kb s.kept.length n _ k9 k14 ((hk1 13 rfl rfl).trans hR.h13) ((hk1 10 rfl rfl).trans hR.h10) ((hk1 11 rfl rfl).trans hR.h11) (by rw [hdv]; exact hstr) hdlen hs1.inv.l.glob hs1.ety hs1.size ho.err hab1 hkb1 hR.room hlen1) ?_
  rintro a w2 ⟨l2, rv, rfl, hk2, hO2, hb2, hkb2, hrv⟩
  refine NPost.mk ⟨l2, w1, c', r', gs', s1, x, rv, .slice none 0 0, .slice none 0 0, { record := Csv.deref s1.arrays s1.last, fail := fl }, rfl, ?_, ?_, ?_⟩
  · intro k h1 h2
    rw [hk2 k h1 rfl, hk1 k h1 h2]
  · rw [hk2 9 rfl rfl, k9, hdv]
  · refine ⟨hs1, ⟨_, hab1⟩, habn1, hO2, by rw [hfsx]; exact hokl, ?_, ?_, hb2, ?_, hcall, hk, ha, hsame, hpot1, ?_⟩
    · rw [← hkn, hdv, ← hfsx, kept_next s1.kept n x (by rw [hkn]; exact hR.room)] at hkb2
      exact hkb2
    · refine ⟨rv, .slice none 0 0, .slice none 0 0, [], rfl, hrv.mono hs1.size, fun k hk hm => ?_, StrS.nil _ _, Away.nil _, RecsS.nil _ _, Away.nil _, fun u hu => by cases hu⟩
      have h1 := (own_lt hrv hk).1
      have h2 := hs1.mut_lt k hm
      omega
    · obtain ⟨A1, c1, hrvf, _⟩ := hrv.form
      exact ⟨⟨_, _, _, hrvf⟩, ⟨_, _, _, rfl⟩, ⟨_, _, _, rfl⟩⟩
    · exact hbel1.trans (hO2.below hs1.size (fun k h => h.elim (fun e => e ▸ hR.abB) (fun e => e ▸ hst.keptB)))
end
end Go.Proofs.YtfadgnopfjajbaaGreatDoor
namespace Go.Proofs.YtfadgnopfjajbaaGreatDoor
open Go.RowKit
section
variable {B : Nat} {G : Glob} {w : World} {n : Nat} {c : CSt} {r : RSt} {gs : List Nat} {kb ab cb : Nat} {av : Value} {s : Csv.Ses} {cal : Csv.Cal} {m : Int} {l : List (Nat × Value)} {f : Nat → Value}
theorem RecsS.mono {B B' : Nat} {w : World} {v : Value} {rss : List (List (List UInt8))} {vs : List Value} (h : RecsS B w v rss vs) (hB : B' ≤ B) : RecsS B' w v rss vs := by
  refine ⟨⟨h.row.1, ?_⟩, h.len, fun i fs e => ?_⟩
  · rcases h.row.2 with hn | ⟨g, cap, cur, e1, e2, e3⟩
    · exact .inl hn
    · exact .inr ⟨g, cap, cur, e1, Nat.le_trans hB e2, e3⟩
  · obtain ⟨u, h1, h2⟩ := h.each i fs e
    exact ⟨u, h1, h2.mono hB⟩
theorem kept_none {gs : List Nat} {arrays : List (List (List UInt8))} (ks : List Csv.Ref) (n : Nat) (h : ks.length < n) : (ks ++ [none]).map (refV gs arrays) ++ List.replicate (n - (ks ++ [none]).length) (Value.slice none 0 0) = ks.map (refV gs arrays) ++ List.replicate (n - ks.length) (Value.slice none 0 0) := by
  obtain ⟨k, hk⟩ : ∃ k, n - ks.length = k + 1 := ⟨n - ks.length - 1, by omega⟩
  have e : n - (ks ++ [(none : Csv.Ref)]).length = k := by simp; omega
  rw [hk, e, List.replicate_succ]
  simp [refV]
theorem mid_still (hR : Rnd B G w n c r gs kb ab cb av s cal m l f) {w2 : World} (ln cl : Nat) (pn : Bool) (z : Int) (hO : Only (fun k => k = ab) w w2) (hb : Blk w2 ab 53 (ansCells (.slice none 0 0) (.slice none 0 0) (.slice none 0 0) 0 0 0 0 ln cl pn z))
    (hcall : s.call c.opt c.reuse cal = { s with kept := s.kept ++ [none], answers := s.answers ++ [{ line := ln, col := cl, panicked := pn, n := z }] }) :
    Mid B G w n c kb ab av s cal w w2 c r gs s none (.slice none 0 0) (.slice none 0 0) (.slice none 0 0) { line := ln, col := cl, panicked := pn, n := z } := by
  have hst := hR.st
  have hne : kb ≠ ab := fun e => hR.abn (.inr (.inr (.inl e.symm)))
  refine ⟨hst, ⟨_, hR.abk⟩, hR.abn, hO.mono (fun k _ h => .inl h), trivial, ?_, ?_, hb, ⟨⟨_, _, _, rfl⟩, ⟨_, _, _, rfl⟩, ⟨_, _, _, rfl⟩⟩, hcall, rfl, rfl, ⟨rfl, rfl, rfl⟩, by omega, hO.below hst.size (fun k h => h ▸ hR.abB)⟩
  · rw [kept_none s.kept n hR.room]
    exact hst.kept.only hO hne
  · exact ⟨_, _, _, [], rfl, StrS.nil _ _, Away.nil _, StrS.nil _ _, Away.nil _, RecsS.nil _ _, Away.nil _, fun u hu => by cases hu⟩
def Midst (B : Nat) (G : Glob) (w : World) (n : Nat) (c : CSt) (kb ab : Nat) (av : Value) (s : Csv.Ses) (cal : Csv.Cal) (l : List (Nat × Value)) (f : Nat → Value) (a : Act) (w' : World) : Prop :=
  ∃ l' w1 c' r' gs' s1 x rv lv sv an, a = Fr 146 l' f ∧ SKeeps [9, 14] l f l' ∧ lk l' f 9 = refV gs' s1.arrays s1.last ∧ Mid B G w n c kb ab av s cal w1 w' c' r' gs' s1 x rv lv sv an
theorem mid_all (hR : Rnd B G w n c r gs kb ab cb av s cal m l f) (hop : cal.op = 1) : (Code.seq sc18 sc19).wp Tryz.prog (NPost (Midst B G w n c kb ab av s cal l f)) (Fr 146 l f) w := by
  have hst := hR.st
  have hpot := hR.pot
  have hrest : s.rd.src.left = c.b.rest := by rw [← hst.rd]; rfl
  have cA := ReadAll_any B G w c r hst.inv (by omega) (by rw [hst.rd]; exact hR.tame.2 hop)
  rw [hst.rd] at cA
  refine seq_part (scan_p18 w l f c.cr ab (fun v ev w' => ∃ c' r', AllOut B G w c (s.rd.all c.opt (c.b.rest.length + 2) []) v ev w' c' r') hR.h7 hR.h13 (cA.mono (fun e w' ⟨v, ev, c', r', h1, ho⟩ => ⟨v, ev, h1, ?_, hR.abk.only ho.only (fun o => hR.abn (.inl o)), c', r', ho⟩))) ?_
  · obtain ⟨vs, hv⟩ := ho.recs
    obtain ⟨A, cp, e, _⟩ := ownsRow_form hv.row
    exact ⟨_, _, _, e⟩
  rintro a w2 ⟨l1, v, ev, w1, rfl, hk1, k14, ⟨c', r', ho⟩, hab1, rfl⟩
  obtain ⟨rs, fl, rd', hall⟩ : ∃ rs fl rd', s.rd.all c.opt (c.b.rest.length + 2) [] = (rs, fl, rd') := ⟨_, _, _, rfl⟩
  rw [hall] at ho
  have hrd : c'.rd r' = rd' := ho.rd
  have hsame : c'.cr = c.cr ∧ c'.opt = c.opt ∧ c'.reuse = c.reuse ∧ c'.last = c.last := by
    have h := ho.same
    refine ⟨by rw [h], by rw [h]; rfl, by rw [h], by rw [h]⟩
  obtain ⟨q1, q2⟩ := hst.quiet ho.inv ho.only ho.root s.last s.cache hst.okLast hst.okCache (hsame.2.2.2.trans hst.cache) (fun h => hst.reuse (hsame.2.2.1 ▸ h))
  obtain ⟨s1, hs1⟩ : ∃ s1, s1 = { s with rd := c'.rd r', last := s.last, cache := s.cache } := ⟨_, rfl⟩
  rw [← hs1] at q1
  obtain ⟨vs, hv⟩ := ho.recs
  have hbel1 : Below B w w1 := q2.only.below hst.size hst.mut
  have hO1 : Only (fun k => k = ab) w1 (w1.setCell ⟨ab, 2, none⟩ v) := (Only.refl (fun k => k = ab) w1).setCell (p := ⟨ab, 2, none⟩) (fun _ => rfl) _
  have hab2 : Blk (w1.setCell ⟨ab, 2, none⟩ v) ab 53 (ansCells (.slice none 0 0) (.slice none 0 0) v 0 0 0 0 0 0 false 0) := hab1.set 2 v
  have hbel2 : Below B w1 (w1.setCell ⟨ab, 2, none⟩ v) := hO1.below q1.size (fun k h => h ▸ hR.abB)
  have hnp : ∀ k, w.heap.size ≤ k → (∃ cs, Blk w1 k 108 cs) → ¬ k = ab := fun k hk _ e => by have := hR.abk.lt; omega
  refine last_part (scan_p19 B G w _ l1 f ev v fl ab k14 ((hk1 13 rfl rfl).trans hR.h13) (q1.inv.l.glob.keep hbel2) (q1.ety.keep hbel2) (Nat.le_trans q1.size hbel2.size) (ho.err.only hO1 hnp) hab2) ?_
  rintro a w2 ⟨l2, rfl, hk2, hO2, hb2⟩
  have hO := hO1.then hO2
  have habn1 : ¬ Mut c' gs kb av ab := fun h => (q2.root ab h).elim hR.abn (fun h => by have := hR.abk.lt; omega)
  have hne : kb ≠ ab := fun e => hR.abn (.inr (.inr (.inl e.symm)))
  have hlast : s1.last = s.last ∧ s1.arrays = s.arrays ∧ s1.kept = s.kept ∧ s1.answers = s.answers ∧ s1.rd = rd' := by rw [hs1]; exact ⟨rfl, rfl, rfl, rfl, hrd⟩
  have hfar : ∀ (u : Value) (k : Nat), u.ownBlock = some k → w.heap.size ≤ k → (¬ c'.rown k) → ¬ Mut c' gs kb av k := by
    rintro u k hu hk hr (h | h | h | h)
    · exact hr h
    · have := (hst.gs_far k h).2.2.2; omega
    · have := hst.kept.lt; omega
    · have := (hst.av_far k h).2.2; omega
  refine NPost.mk ⟨l2, w1, c', r', gs, s1, none, .slice none 0 0, .slice none 0 0, v, { records := rs, fail := fl }, rfl, ?_, ?_, ?_⟩
  · intro k h1 h2
    rw [hk2 k h1 rfl]
    exact hk1 k h1 (by simp at h2 ⊢; exact h2.2)
  · rw [hk2 9 rfl rfl, hk1 9 rfl rfl, hR.h9, hlast.1, hlast.2.1]
  · refine ⟨q1, ⟨_, hab1⟩, habn1, hO.mono (fun k _ h => .inl h), trivial, ?_, ?_, hb2, ?_, ?_, hlast.2.2.1, hlast.2.2.2.1, ⟨hsame.1, hsame.2.1, hsame.2.2.1⟩, ho.small, ?_⟩
    · rw [kept_none s1.kept n (by rw [hlast.2.2.1]; exact hR.room)]
      exact q1.kept.only hO hne
    · have hvv : RecsS w.heap.size w2 v rs vs := hv.only hO (fun k hk e => own_ne hv.row hab1 (by decide) (by rw [hk, e])) (fun u hu k hk e => by
        obtain ⟨fs, hf⟩ := hv.mem hu
        exact own_ne hf hab1 (by decide) (by rw [hk, e]))
      refine ⟨_, _, v, vs, rfl, StrS.nil _ _, Away.nil _, StrS.nil _ _, Away.nil _, hvv.mono hst.size, fun k hk => hfar v k hk (own_lt hv.row hk).1 (row_far ho.inv hv.row (by decide) k hk), fun u hu k hk => ?_⟩
      obtain ⟨fs, hf⟩ := hv.mem hu
      exact hfar u k hk (own_lt hf hk).1 (row_far ho.inv hf (by decide) k hk)
    · obtain ⟨A, cp, e, _⟩ := ownsRow_form hv.row
      exact ⟨⟨_, _, _, rfl⟩, ⟨_, _, _, rfl⟩, ⟨_, _, _, e⟩⟩
    · unfold Csv.Ses.call
      rw [if_neg (by rw [hop]; decide), if_pos hop, hrest, hall, hs1, hrd]
    · exact hbel1.trans (hO.below q1.size (fun k h => h ▸ hR.abB))
theorem mid_pos (hR : Rnd B G w n c r gs kb ab cb av s cal m l f) (hop : cal.op = 2) : sc21.wp Tryz.prog (NPost (Midst B G w n c kb ab av s cal l f)) (Fr 146 l f) w := by
  have hst := hR.st
  have hp : s.rd.poss = r.pos := by rw [← hst.rd]; rfl
  have hcall : ∀ a : Csv.Ans, (if cal.field < 0 ∨ (s.rd.poss.length : Int) ≤ cal.field then ({ panicked := true } : Csv.Ans) else { line := (s.rd.poss.getD cal.field.toNat (0, 0)).1, col := (s.rd.poss.getD cal.field.toNat (0, 0)).2 }) = a → s.call c.opt c.reuse cal = { s with kept := s.kept ++ [none], answers := s.answers ++ [a] } := by
    intro a ha
    unfold Csv.Ses.call
    rw [if_neg (by rw [hop]; decide), if_neg (by rw [hop]; decide)]
    simp only [if_pos hop, if_neg (show ¬ cal.op = 5 by rw [hop]; decide)]
    rw [ha]
  by_cases hb : cal.field < 0 ∨ (s.rd.poss.length : Int) ≤ cal.field
  · refine last_part (scan_p21 w l f c.cr ab cb cal.op cal.field 0 0 true hR.h7 hR.h12 hR.h13 hR.cbk hR.abk (position_bad B G w c r cal.field hst.inv (by rw [← hp]; exact hb))) ?_
    rintro a w2 ⟨l2, rfl, hk2, hO2, hb2⟩
    exact NPost.mk ⟨l2, w, c, r, gs, s, none, _, _, _, _, rfl, fun k h1 _ => hk2 k h1 rfl, (hk2 9 rfl rfl).trans hR.h9, mid_still hR 0 0 true 0 hO2 hb2 (hcall _ (if_pos hb))⟩
  · obtain ⟨i, hi⟩ : ∃ i : Nat, cal.field = (i : Int) := ⟨cal.field.toNat, by omega⟩
    have hil : i < r.pos.length := by rw [← hp]; omega
    have cP := position_good B G w c r i (r.pos[i]'hil) hst.inv (List.getElem?_eq_getElem _)
    rw [← hi] at cP
    refine last_part (scan_p21 w l f c.cr ab cb cal.op cal.field _ _ false hR.h7 hR.h12 hR.h13 hR.cbk hR.abk cP) ?_
    rintro a w2 ⟨l2, rfl, hk2, hO2, hb2⟩
    refine NPost.mk ⟨l2, w, c, r, gs, s, none, _, _, _, _, rfl, fun k h1 _ => hk2 k h1 rfl, (hk2 9 rfl rfl).trans hR.h9, mid_still hR _ _ false 0 hO2 hb2 (hcall _ ?_)⟩
    rw [if_neg hb, hi, hp]
    have e : r.pos.getD (Int.toNat (i : Int)) (0, 0) = r.pos[i]'hil := by
      rw [Int.toNat_natCast, List.getD_eq_getElem?_getD, List.getElem?_eq_getElem hil]; rfl
    rw [e]
theorem mid_off (hR : Rnd B G w n c r gs kb ab cb av s cal m l f) (hop : cal.op = 3) : sc23.wp Tryz.prog (NPost (Midst B G w n c kb ab av s cal l f)) (Fr 146 l f) w := by
  have hst := hR.st
  have hp : s.rd.src.offset = c.offset := by rw [← hst.rd]; rfl
  refine last_part (scan_p23 w l f c.cr ab c.offset hR.h7 hR.h13 hR.abk (InputOffset_any B G w c r hst.inv)) ?_
  rintro a w2 ⟨l2, rfl, hk2, hO2, hb2⟩
  refine NPost.mk ⟨l2, w, c, r, gs, s, none, _, _, _, _, rfl, fun k h1 _ => hk2 k h1 rfl, (hk2 9 rfl rfl).trans hR.h9, mid_still hR 0 0 false _ hO2 hb2 ?_⟩
  unfold Csv.Ses.call
  rw [if_neg (by rw [hop]; decide), if_neg (by rw [hop]; decide)]
  simp only [if_neg (show ¬ cal.op = 2 by rw [hop]; decide), if_pos hop, if_neg (show ¬ cal.op = 5 by rw [hop]; decide)]
  rw [hp]
theorem mid_exp (hR : Rnd B G w n c r gs kb ab cb av s cal m l f) (hop : cal.op = 4) : sc25.wp Tryz.prog (NPost (Midst B G w n c kb ab av s cal l f)) (Fr 146 l f) w := by
  have hst := hR.st
  have hp : s.rd.expect = c.expect := by rw [← hst.rd]; rfl
  refine last_part (scan_p25 B G w c r l f ab hR.h7 hR.h13 hR.abk hst.inv) ?_
  rintro a w2 ⟨l2, rfl, hk2, hO2, hb2⟩
  refine NPost.mk ⟨l2, w, c, r, gs, s, none, _, _, _, _, rfl, fun k h1 _ => hk2 k h1 rfl, (hk2 9 rfl rfl).trans hR.h9, mid_still hR 0 0 false _ hO2 hb2 ?_⟩
  unfold Csv.Ses.call
  rw [if_neg (by rw [hop]; decide), if_neg (by rw [hop]; decide)]
  simp only [if_neg (show ¬ cal.op = 2 by rw [hop]; decide), if_neg (show ¬ cal.op = 3 by rw [hop]; decide), if_pos hop, if_neg (show ¬ cal.op = 5 by rw [hop]; decide)]
  rw [hp]
theorem mid_idle (hR : Rnd B G w n c r gs kb ab cb av s cal m l f) (h0 : cal.op ≠ 0) (h1 : cal.op ≠ 1) (h2 : cal.op ≠ 2) (h3 : cal.op ≠ 3) (h4 : cal.op ≠ 4) (h5 : cal.op ≠ 5) : Midst B G w n c kb ab av s cal l f (Fr 146 l f) w := by
  refine ⟨l, w, c, r, gs, s, none, _, _, _, _, rfl, fun k _ _ => rfl, hR.h9, mid_still hR 0 0 false 0 (Only.refl _ _) hR.abk ?_⟩
  unfold Csv.Ses.call
  rw [if_neg h0, if_neg h1]
  simp only [if_neg h2, if_neg h3, if_neg h4, if_neg h5]
theorem call_spoil (hop : cal.op = 5) : s.call c.opt c.reuse cal = { s with arrays := Csv.spoil s.arrays s.last, kept := s.kept ++ [none], answers := s.answers ++ [{}] } := by
  unfold Csv.Ses.call
  rw [if_neg (by rw [hop]; decide), if_neg (by rw [hop]; decide)]
  simp only [if_neg (show ¬ cal.op = 2 by rw [hop]; decide), if_neg (show ¬ cal.op = 3 by rw [hop]; decide), if_neg (show ¬ cal.op = 4 by rw [hop]; decide), if_pos hop]
theorem mid_spoil (hR : Rnd B G w n c r gs kb ab cb av s cal m l f) (hop : cal.op = 5) : sc27.wp Tryz.prog (NPost (Midst B G w n c kb ab av s cal l f)) (Fr 146 l f) w := by
  have hst := hR.st
  have hmax : ∀ w1, Below w.heap.size w w1 → w1.cell? ⟨4, 0, none⟩ = some (.int .i64 m) := fun w1 h1 => hR.maxlen w1 (h1.mono hst.size)
  have h9 := hR.h9
  have hcall := call_spoil (c := c) (s := s) hop
  cases hl : s.last with
  | none =>
    rw [hl] at h9 hcall
    refine last_part (scan_p27n w l f m h9 hmax) ?_
    rintro a w2 ⟨l2, rfl, hk2, hb2⟩
    have hO : Only (fun k => k = ab) w w2 := (Only.of_below hb2).mono (fun k hk h => absurd hk (by omega))
    refine NPost.mk ⟨l2, w, c, r, gs, s, none, _, _, _, _, rfl, fun k h1 _ => hk2 k h1 rfl, (hk2 9 rfl rfl).trans hR.h9, mid_still hR 0 0 false 0 hO (hR.abk.below hb2 hR.abk.lt) ?_⟩
    rw [hcall]
    simp only [Csv.spoil, hl]
  | some p =>
    obtain ⟨i, k0⟩ := p
    have hok := hst.okLast
    rw [hl] at h9 hcall hok
    obtain ⟨h1, h2⟩ := hok
    have hg : gs[i]? = some (gs.getD i 0) := by rw [List.getD_eq_getElem?_getD, List.getElem?_eq_getElem (by rw [hst.arrs.len]; exact h1)]; rfl
    have ha : s.arrays[i]? = some (s.arrays.getD i []) := by rw [List.getD_eq_getElem?_getD, List.getElem?_eq_getElem h1]; rfl
    obtain ⟨hb, hB, hbl⟩ := hst.arrs.blk i _ _ hg ha
    have hgm := List.mem_of_getElem? hg
    obtain ⟨g, hgg⟩ : ∃ g, g = gs.getD i 0 := ⟨_, rfl⟩
    rw [← hgg] at hg hb hB hgm
    have h9' : lk l f 9 = .slice (some ⟨g, 0, none⟩) k0 (s.arrays.getD i []).length := by rw [hgg]; exact h9
    refine last_part (scan_p27 w l f m g k0 (s.arrays.getD i []) h9' hb h2 (by omega) hmax) ?_
    rintro a w2 ⟨l2, rfl, hk2, hO2, hb2⟩
    obtain ⟨na, hna⟩ : ∃ na, na = List.replicate k0 Csv.spoiled ++ (s.arrays.getD i []).drop k0 := ⟨_, rfl⟩
    rw [← hna] at hb2
    have hnl : na.length = (s.arrays.getD i []).length := by rw [hna]; simp only [List.length_append, List.length_replicate, List.length_drop]; omega
    have hgf := hst.gs_far g hgm
    have hkf := hst.kb_far
    have hgd : ∀ j, j < s.arrays.length → ((s.arrays.set i na).getD j []).length = (s.arrays.getD j []).length := fun j hj => by
      rw [List.getD_eq_getElem?_getD, List.getElem?_set]
      by_cases hij : i = j
      · subst hij; rw [if_pos rfl, if_pos h1]; exact hnl
      · rw [if_neg hij, ← List.getD_eq_getElem?_getD]
    have ht : Turns (Mut c gs kb av) w (Mut c gs kb av) w2 := ⟨hO2.mono (fun k _ e => .inr (.inl (e ▸ hgm))), fun _ h => .inl h⟩
    have hbel : Below B w w2 := ht.only.below hst.size hst.mut
    have hrow : ∀ x, refOk s.arrays x → refV gs (s.arrays.set i na) x = refV gs s.arrays x := fun x hx => refV_ext hst.arrs.len (fun _ _ => rfl) hgd x hx
    have q := hst.go (hst.inv.only hO2 (fun k e => by rw [e]; exact ⟨hB, hgf.1⟩)) ht (hst.kept.only hO2 (fun e => hkf.2.1 (e ▸ hgm))) (fun k hk => hO2.block k (hst.av_far k hk).2.2 (fun e => hgf.2.1 (e ▸ hk))) hbel (s.arrays.set i na) s.last s.cache ?_ (by simp) (fun _ _ => rfl) hgd (refOk_ext (by simp) hgd _ hst.okLast) (refOk_ext (by simp) hgd _ hst.okCache) (hst.cache.trans (hrow _ hst.okCache).symm) hst.reuse
    · obtain ⟨s1, hs1⟩ : ∃ s1, s1 = { s with rd := c.rd r, arrays := s.arrays.set i na, last := s.last, cache := s.cache } := ⟨_, rfl⟩
      rw [← hs1] at q
      have hlast : s1.last = s.last ∧ s1.arrays = s.arrays.set i na ∧ s1.kept = s.kept ∧ s1.answers = s.answers ∧ s1.rd = s.rd := by rw [hs1]; exact ⟨rfl, rfl, rfl, rfl, hst.rd⟩
      have hab2 : Blk w2 ab 53 ansZero := hR.abk.only ht.only hR.abn
      refine NPost.mk ⟨l2, w2, c, r, gs, s1, none, .slice none 0 0, .slice none 0 0, .slice none 0 0, {}, rfl, fun k h1 _ => hk2 k h1 rfl, ?_, ?_⟩
      · rw [hk2 9 rfl rfl, hR.h9, hlast.1, hlast.2.1, hrow _ hst.okLast]
      · refine ⟨q, ⟨_, hab2⟩, hR.abn, Only.refl _ _, trivial, ?_, ?_, hab2, ⟨⟨_, _, _, rfl⟩, ⟨_, _, _, rfl⟩, ⟨_, _, _, rfl⟩⟩, ?_, hlast.2.2.1, hlast.2.2.2.1, ⟨rfl, rfl, rfl⟩, by omega, hbel⟩
        · rw [kept_none s1.kept n (by rw [hlast.2.2.1]; exact hR.room)]
          exact q.kept
        · exact ⟨_, _, _, [], rfl, StrS.nil _ _, Away.nil _, StrS.nil _ _, Away.nil _, RecsS.nil _ _, Away.nil _, fun u hu => by cases hu⟩
        · rw [hcall, hs1, hst.rd, hna]
          show _ = _
          simp only [Csv.spoil, hl]
    · refine ⟨by simp [hst.arrs.len], fun j g' arr e1 e2 => ?_, hst.arrs.nodup⟩
      rw [List.getElem?_set] at e2
      by_cases hij : i = j
      · subst hij
        rw [if_pos rfl, if_pos h1] at e2
        injection e2 with e2
        rw [hg] at e1
        injection e1 with e1
        subst e1 e2
        exact ⟨hb2, hB, by omega⟩
      · rw [if_neg hij] at e2
        obtain ⟨hb', hB', hl'⟩ := hst.arrs.blk j g' arr e1 e2
        refine ⟨hb'.only hO2 (fun e => hij ?_), hB', hl'⟩
        have hjl : j < gs.length := by
          rcases Nat.lt_or_ge j gs.length with h' | h'
          · exact h'
          · rw [List.getElem?_eq_none h'] at e1; cases e1
        have hil : i < gs.length := by rw [hst.arrs.len]; exact h1
        have e3 : gs[i]? = gs[j]? := by rw [hg, e1, e]
        have hp := List.pairwise_iff_getElem.1 hst.arrs.nodup
        rw [List.getElem?_eq_getElem hil, List.getElem?_eq_getElem hjl] at e3
        injection e3 with e3
        rcases Nat.lt_trichotomy i j with h' | h' | h'
        · exact absurd e3 (hp i j hil hjl h')
        · exact h'
        · exact absurd e3.symm (hp j i hjl hil h')
end
end Go.Proofs.YtfadgnopfjajbaaGreatDoor
namespace Go.Proofs.YtfadgnopfjajbaaGreatDoor
open Go.RowKit
theorem block_part {P : Program} {id : Nat} {x : Code} {a : Act} {w : World} {R : Act → World → Prop} (h : x.wp P (NPost R) a w) : (Code.block id x).wp P (NPost R) a w :=
  wp_block (wp_mono h fun e a w q => by cases e <;> first | exact q | exact q.elim)
section
variable {B : Nat} {G : Glob} {w : World} {n : Nat} {c : CSt} {r : RSt} {gs : List Nat} {kb ab cb : Nat} {av : Value} {s : Csv.Ses} {cal : Csv.Cal} {m : Int} {l l' : List (Nat × Value)} {f : Nat → Value}
theorem Rnd.keep (hR : Rnd B G w n c r gs kb ab cb av s cal m l f) (h : SKeeps [70] l f l') : Rnd B G w n c r gs kb ab cb av s cal m l' f :=
  { hR with h7 := (h 7 rfl rfl).trans hR.h7, h9 := (h 9 rfl rfl).trans hR.h9, h10 := (h 10 rfl rfl).trans hR.h10, h11 := (h 11 rfl rfl).trans hR.h11, h12 := (h 12 rfl rfl).trans hR.h12, h13 := (h 13 rfl rfl).trans hR.h13 }
def MidS (B : Nat) (G : Glob) (w : World) (n : Nat) (c : CSt) (kb ab : Nat) (av : Value) (s : Csv.Ses) (cal : Csv.Cal) (l : List (Nat × Value)) (f : Nat → Value) (a : Act) (w' : World) : Prop :=
  ∃ l' w1 c' r' gs' s1 x rv lv sv an, a = Fr 146 l' f ∧ SKeeps [9, 14, 70] l f l' ∧ lk l' f 9 = refV gs' s1.arrays s1.last ∧ Mid B G w n c kb ab av s cal w1 w' c' r' gs' s1 x rv lv sv an
theorem Midst.weak {a : Act} {w' : World} (h : Midst B G w n c kb ab av s cal l' f a w') (hk : SKeeps [70] l f l') : MidS B G w n c kb ab av s cal l f a w' := by
  obtain ⟨l2, w1, c', r', gs', s1, x, rv, lv, sv, an, h1, h2, h3⟩ := h
  refine ⟨l2, w1, c', r', gs', s1, x, rv, lv, sv, an, h1, fun k a b => ?_, h3⟩
  simp at b
  rw [h2 k a (by simp [b.1, b.2.1]), hk k a (by simp [b.2.2])]
noncomputable def scSw : Code := part [true, true, true, true, true, true, true, false, true, false, false, true, true, false, false, true, true, true, false] scanBody
set_option maxRecDepth 100000 in
theorem scSw_eq : scSw = Code.seq sc13 (.block 2 (.seq sc14 (.cond (.tmp 71) (.seq sc15 sc16) (.seq sc17 (.cond (.tmp 88) (.seq sc18 sc19) (.seq sc20 (.cond (.tmp 99) sc21 (.seq sc22 (.cond (.tmp 105) sc23 (.seq sc24 (.cond (.tmp 110) sc25 (.seq sc26 (.cond (.tmp 117) sc27 .skip))))))))))))) := by kernel_rfl
theorem scan_switch (hR : Rnd B G w n c r gs kb ab cb av s cal m l f) : scSw.wp Tryz.prog (NPost (MidS B G w n c kb ab av s cal l f)) (Fr 146 l f) w := by
  rw [scSw_eq]
  refine seq_part (scan_p13 w l f cb cal.op cal.field hR.h12 hR.cbk) ?_
  rintro a w1 ⟨l1, rfl, hk1, rfl⟩
  have K1 : SKeeps [70] l f ((70, .int .i64 cal.op) :: l1) := SKeeps.set rfl (fun k a _ => hk1 k a rfl)
  have e70 : lk ((70, .int .i64 cal.op) :: l1) f 70 = .int .i64 cal.op := by simp [lk]
  revert K1 e70
  generalize (70, Value.int .i64 cal.op) :: l1 = l2
  intro K1 e70
  clear hk1
  refine block_part ?_
  refine seq_part (scan_p14 _ _ f cal.op e70) ?_
  rintro a w2 ⟨l3, rfl, hk3, rfl⟩
  have e71 : lk ((71, .bool (cal.op == 0)) :: l3) f 71 = .bool (cal.op == 0) := by simp [lk]
  have K2 : SKeeps [70] l f ((71, .bool (cal.op == 0)) :: l3) := SKeeps.far rfl (fun k a b => (hk3 k a rfl).trans (K1 k a b))
  have e70' : lk ((71, .bool (cal.op == 0)) :: l3) f 70 = .int .i64 cal.op := by rw [lk_ne _ _ _ _ _ (by decide), hk3 70 rfl rfl, e70]
  revert e71 K2 e70'
  generalize (71, Value.bool (cal.op == 0)) :: l3 = l4
  intro e71 K2 e70'
  clear hk3 K1 e70
  have K1 := K2
  have e70 := e70'
  clear K2 e70'
  by_cases h0 : cal.op = 0
  · rw [h0] at e71
    exact wp_if_true rfl e71 (last_part (mid_read (hR.keep K1) h0) fun a w' h => NPost.mk (Midst.weak h K1))
  refine wp_if_false rfl (e71.trans (by rw [beq_eq_false_iff_ne.2 h0])) ?_
  clear e71
  refine seq_part (scan_p17 _ _ f cal.op e70) ?_
  rintro a w2 ⟨l3, rfl, hk3, rfl⟩
  have e88 : lk ((88, .bool (cal.op == 1)) :: l3) f 88 = .bool (cal.op == 1) := by simp [lk]
  have K2 : SKeeps [70] l f ((88, .bool (cal.op == 1)) :: l3) := SKeeps.far rfl (fun k a b => (hk3 k a rfl).trans (K1 k a b))
  have e70' : lk ((88, .bool (cal.op == 1)) :: l3) f 70 = .int .i64 cal.op := by rw [lk_ne _ _ _ _ _ (by decide), hk3 70 rfl rfl, e70]
  revert e88 K2 e70'
  generalize (88, Value.bool (cal.op == 1)) :: l3 = l4
  intro e88 K2 e70'
  clear hk3 K1 e70
  have K1 := K2
  have e70 := e70'
  clear K2 e70'
  by_cases h1 : cal.op = 1
  · rw [h1] at e88
    exact wp_if_true rfl e88 (last_part (mid_all (hR.keep K1) h1) fun a w' h => NPost.mk (Midst.weak h K1))
  refine wp_if_false rfl (e88.trans (by rw [beq_eq_false_iff_ne.2 h1])) ?_
  clear e88
  refine seq_part (scan_p20 _ _ f cal.op e70) ?_
  rintro a w2 ⟨l3, rfl, hk3, rfl⟩
  have e99 : lk ((99, .bool (cal.op == 2)) :: l3) f 99 = .bool (cal.op == 2) := by simp [lk]
  have K2 : SKeeps [70] l f ((99, .bool (cal.op == 2)) :: l3) := SKeeps.far rfl (fun k a b => (hk3 k a rfl).trans (K1 k a b))
  have e70' : lk ((99, .bool (cal.op == 2)) :: l3) f 70 = .int .i64 cal.op := by rw [lk_ne _ _ _ _ _ (by decide), hk3 70 rfl rfl, e70]
  revert e99 K2 e70'
  generalize (99, Value.bool (cal.op == 2)) :: l3 = l4
  intro e99 K2 e70'
  clear hk3 K1 e70
  have K1 := K2
  have e70 := e70'
  clear K2 e70'
  by_cases h2 : cal.op = 2
  · rw [h2] at e99
    exact wp_if_true rfl e99 (last_part (mid_pos (hR.keep K1) h2) fun a w' h => NPost.mk (Midst.weak h K1))
  refine wp_if_false rfl (e99.trans (by rw [beq_eq_false_iff_ne.2 h2])) ?_
  clear e99
  refine seq_part (scan_p22 _ _ f cal.op e70) ?_
  rintro a w2 ⟨l3, rfl, hk3, rfl⟩
  have e105 : lk ((105, .bool (cal.op == 3)) :: l3) f 105 = .bool (cal.op == 3) := by simp [lk]
  have K2 : SKeeps [70] l f ((105, .bool (cal.op == 3)) :: l3) := SKeeps.far rfl (fun k a b => (hk3 k a rfl).trans (K1 k a b))
  have e70' : lk ((105, .bool (cal.op == 3)) :: l3) f 70 = .int .i64 cal.op := by rw [lk_ne _ _ _ _ _ (by decide), hk3 70 rfl rfl, e70]
  revert e105 K2 e70'
  generalize (105, Value.bool (cal.op == 3)) :: l3 = l4
  intro e105 K2 e70'
  clear hk3 K1 e70
  have K1 := K2
  have e70 := e70'
  clear K2 e70'
  by_cases h3 : cal.op = 3
  · rw [h3] at e105
    exact wp_if_true rfl e105 (last_part (mid_off (hR.keep K1) h3) fun a w' h => NPost.mk (Midst.weak h K1))
  refine wp_if_false rfl (e105.trans (by rw [beq_eq_false_iff_ne.2 h3])) ?_
  clear e105
  refine seq_part (scan_p24 _ _ f cal.op e70) ?_
  rintro a w2 ⟨l3, rfl, hk3, rfl⟩
  have e110 : lk ((110, .bool (cal.op == 4)) :: l3) f 110 = .bool (cal.op == 4) := by simp [lk]
  have K2 : SKeeps [70] l f ((110, .bool (cal.op == 4)) :: l3) := SKeeps.far rfl (fun k a b => (hk3 k a rfl).trans (K1 k a b))
  have e70' : lk ((110, .bool (cal.op == 4)) :: l3) f 70 = .int .i64 cal.op := by rw [lk_ne _ _ _ _ _ (by decide), hk3 70 rfl rfl, e70]
  revert e110 K2 e70'
  generalize (110, Value.bool (cal.op == 4)) :: l3 = l4
  intro e110 K2 e70'
  clear hk3 K1 e70
  have K1 := K2
  have e70 := e70'
  clear K2 e70'
  by_cases h4 : cal.op = 4
  · rw [h4] at e110
    exact wp_if_true rfl e110 (last_part (mid_exp (hR.keep K1) h4) fun a w' h => NPost.mk (Midst.weak h K1))
  refine wp_if_false rfl (e110.trans (by rw [beq_eq_false_iff_ne.2 h4])) ?_
  clear e110
  refine seq_part (scan_p26 _ _ f cal.op e70) ?_
  rintro a w2 ⟨l3, rfl, hk3, rfl⟩
  have e117 : lk ((117, .bool (cal.op == 5)) :: l3) f 117 = .bool (cal.op == 5) := by simp [lk]
  have K2 : SKeeps [70] l f ((117, .bool (cal.op == 5)) :: l3) := SKeeps.far rfl (fun k a b => (hk3 k a rfl).trans (K1 k a b))
  have e70' : lk ((117, .bool (cal.op == 5)) :: l3) f 70 = .int .i64 cal.op := by rw [lk_ne _ _ _ _ _ (by decide), hk3 70 rfl rfl, e70]
  revert e117 K2 e70'
  generalize (117, Value.bool (cal.op == 5)) :: l3 = l4
  intro e117 K2 e70'
  clear hk3 K1 e70
  have K1 := K2
  have e70 := e70'
  clear K2 e70'
  by_cases h5 : cal.op = 5
  · rw [h5] at e117
    exact wp_if_true rfl e117 (last_part (mid_spoil (hR.keep K1) h5) fun a w' h => NPost.mk (Midst.weak h K1))
  refine wp_if_false rfl (e117.trans (by rw [beq_eq_false_iff_ne.2 h5])) ?_
  clear e117
  exact wp_skip (NPost.mk (Midst.weak (mid_idle (hR.keep K1) h0 h1 h2 h3 h4 h5) K1))
end
end Go.Proofs.YtfadgnopfjajbaaGreatDoor
namespace Go.Proofs.YtfadgnopfjajbaaGreatDoor
open Go.RowKit
theorem SInv.below {B : Nat} {G : Glob} {w w' : World} {n : Nat} {c : CSt} {r : RSt} {gs : List Nat} {kb : Nat} {av : Value} {s : Csv.Ses} (h : SInv B G w n c r gs kb av s) (hb : Below w.heap.size w w') : SInv B G w' n c r gs kb av s := by
  have hO : Only c.rown w w' := (Only.of_below hb).mono (fun k hk h => absurd hk (by omega))
  have q := (h.quiet (h.inv.below hb) hO (fun _ h => .inl h) s.last s.cache h.okLast h.okCache h.cache h.reuse).1
  rw [h.rd] at q
  exact q
/-- All that a script's calls read is tame. -/
def TameFor (o : Csv.Opt) (reuse : Bool) : Csv.Ses → List Csv.Cal → Prop
  | _, [] => True
  | s, c :: cs => ((c.op = 0 → TameS o s.rd.src) ∧ (c.op = 1 → Tames o s.rd)) ∧ TameFor o reuse (s.call o reuse c) cs
theorem Tames.call {o : Csv.Opt} {s : Csv.Ses} (h : Tames o s.rd) (reuse : Bool) (c : Csv.Cal) : Tames o (s.call o reuse c).rd := by
  unfold Csv.Ses.call
  split
  · have hn := h.next
    cases hr : s.rd.read o with
    | mk a p =>
      obtain ⟨f, rd'⟩ := p
      rw [hr] at hn
      cases a <;> exact hn
  · split
    · have hn := Tames.all (s.rd.src.left.length + 2) s.rd [] h
      cases hr : s.rd.all o (s.rd.src.left.length + 2) [] with
      | mk a p =>
        obtain ⟨f, rd'⟩ := p
        rw [hr] at hn
        exact hn
    · exact h
theorem Tames.script {o : Csv.Opt} {reuse : Bool} : ∀ (cs : List Csv.Cal) (s : Csv.Ses), Tames o s.rd → TameFor o reuse s cs
  | [], _, _ => trivial
  | c :: cs, s, h => ⟨⟨fun _ => h.here, fun _ => h⟩, Tames.script cs _ (h.call reuse c)⟩
/-- Ahead of a round. -/
structure Lp (B : Nat) (G : Glob) (w0 : World) (n : Nat) (o : Csv.Opt) (reuse : Bool) (s0 : Csv.Ses) (script : List Csv.Cal) (P0 : Nat) (sv : Value) (cr kb : Nat) (i : Nat) (l : List (Nat × Value)) (f : Nat → Value) (w : World) (c : CSt) (r : RSt) (gs : List Nat) (av : Value) (s : Csv.Ses) : Prop where
  st : SInv B G w n c r gs kb av s
  h7 : lk l f 7 = .pointer (some ⟨cr, 0, none⟩)
  h8 : lk l f 8 = av
  h9 : lk l f 9 = refV gs s.arrays s.last
  h10 : lk l f 10 = .slice (some ⟨kb, 0, none⟩) n n
  h62 : lk l f 62 = sv
  h63 : lk l f 63 = .int .i64 (n : Int)
  h64 : lk l f 64 = .int .i64 (i : Int)
  ecr : c.cr = cr
  opt : c.opt = o
  reu : c.reuse = reuse
  fold : s = (script.take i).foldl (Csv.Ses.call o reuse) s0
  len : s.kept.length = i
  pot : c.numLine + 2 * c.b.rest.length ≤ P0 + i
  tame : TameFor o reuse s (script.drop i)
  below : Below B w0 w
section
variable {B : Nat} {G : Glob} {w0 : World} {n : Nat} {o : Csv.Opt} {reuse : Bool} {s0 : Csv.Ses} {script : List Csv.Cal} {P0 : Nat} {sv : Value} {cr kb : Nat} {i : Nat} {l : List (Nat × Value)} {f : Nat → Value} {w : World} {c : CSt} {r : RSt} {gs : List Nat} {av : Value} {s : Csv.Ses}
noncomputable def scRound : Code := part [true, true, true, true, true, true, true, false, true, false, false, true, true] scanBody
set_option maxRecDepth 100000 in
theorem scRound_eq : scRound = Code.seq (.block 1 (.seq sc10 (.seq sc11 (.seq sc12 (.seq scSw sc28))))) sc29 := by kernel_rfl
/-- The script in memory. -/
def ScriptAt (B : Nat) (w0 : World) (script : List Csv.Cal) (sb so : Nat) : Prop := ∀ w, Below B w0 w → ∀ (i : Nat) (cal : Csv.Cal), script[i]? = some cal → w.cell? ⟨sb, so + i * 2, none⟩ = some (.int .i64 cal.op) ∧ w.cell? ⟨sb, so + i * 2 + 1, none⟩ = some (.int .i64 cal.field)
theorem scan_round {sb so cp : Nat} {m : Int} (h : Lp B G w0 n o reuse s0 script P0 (.slice (some ⟨sb, so, none⟩) n cp) cr kb i l f w c r gs av s) (hn : script.length = n) (hi : i < n) (hP : P0 + n < 268435450) (hsc : ScriptAt B w0 script sb so) (hm : ∀ w1, Below B w0 w1 → w1.cell? ⟨4, 0, none⟩ = some (.int .i64 m)) :
    scRound.wp Tryz.prog (NPost fun a w' => ∃ l' c' r' gs' av' s', a = Fr 146 l' f ∧ Lp B G w0 n o reuse s0 script P0 (.slice (some ⟨sb, so, none⟩) n cp) cr kb (i + 1) l' f w' c' r' gs' av' s') (Fr 146 l f) w := by
  rw [scRound_eq]
  have hst := h.st
  obtain ⟨cal, hcal⟩ : ∃ cal, script[i]? = some cal := ⟨_, List.getElem?_eq_getElem (by omega)⟩
  obtain ⟨c0, c1⟩ := hsc w h.below i cal hcal
  have htm := h.tame
  have hdr : script.drop i = cal :: script.drop (i + 1) := by
    obtain ⟨hlt, he⟩ := List.getElem?_eq_some_iff.1 hcal
    rw [List.drop_eq_getElem_cons hlt, he]
  rw [hdr] at htm
  refine seq_part (R := fun a w' => ∃ l' c' r' gs' av' s', a = Fr 146 l' f ∧ lk l' f 64 = .int .i64 (i : Int) ∧ Lp B G w0 n o reuse s0 script P0 (.slice (some ⟨sb, so, none⟩) n cp) cr kb (i + 1) ((64, .int .i64 ((i + 1 : Nat) : Int)) :: l') f w' c' r' gs' av' s') (block_part ?_) ?_
  · refine seq_part (scan_p10 w l f i n cp sb so cal.op cal.field h.h64 h.h62 hi c0 c1) ?_
    rintro a wA ⟨lA, rfl, hkA, a11, a12, hbA, hcb⟩
    refine seq_part (scan_p11 wA lA f) ?_
    rintro a wB ⟨rfl, hbB, hab⟩
    refine seq_part (scan_p12 wB _ f) ?_
    rintro a wB' ⟨rfl, rfl⟩
    have hbB' : Below w.heap.size w wB' := hbA.trans (hbB.mono hbA.size)
    have hstB := hst.below hbB'
    obtain ⟨lB, hlB⟩ : ∃ lB, lB = (14, Value.nilIface) :: (13, .pointer (some ⟨wA.heap.size, 0, none⟩)) :: lA := ⟨_, rfl⟩
    have K1 : SKeeps [11, 12, 13, 14] l f lB := by
      rw [hlB]
      refine SKeeps.set rfl (SKeeps.set rfl (fun k a b => hkA k a ?_))
      simp at b ⊢; exact ⟨b.1, b.2.1⟩
    have b11 : lk lB f 11 = .int .i64 (i : Int) := by rw [hlB, lk_ne _ _ _ _ _ (by decide), lk_ne _ _ _ _ _ (by decide), a11]
    have b12 : lk lB f 12 = .pointer (some ⟨w.heap.size, 0, none⟩) := by rw [hlB, lk_ne _ _ _ _ _ (by decide), lk_ne _ _ _ _ _ (by decide), a12]
    have b13 : lk lB f 13 = .pointer (some ⟨wA.heap.size, 0, none⟩) := by rw [hlB]; simp [lk]
    rw [← hlB]
    have hbelB : Below B w0 wB' := h.below.trans (hbB'.mono hst.size)
    have hpot := h.pot
    have hR : Rnd B G wB' n c r gs kb wA.heap.size w.heap.size av s cal m lB f :=
      { st := hstB, h7 := by rw [K1 7 rfl rfl, h.h7, h.ecr], h9 := (K1 9 rfl rfl).trans h.h9, h10 := (K1 10 rfl rfl).trans h.h10, h11 := by rw [b11, h.len], h12 := b12, h13 := b13, cbk := hcb.below hbB hcb.lt, abk := hab, abB := Nat.le_trans hst.size hbA.size, abn := fun hm => by have := hst.mut_lt _ hm; have := hbA.size; omega, room := by rw [h.len]; exact hi, pot := by omega, tame := by rw [h.opt]; exact htm.1, maxlen := fun w1 h1 => hm w1 (hbelB.trans h1) }
    refine seq_part (scan_switch hR) ?_
    rintro a w2 ⟨l2, w1, c', r', gs', s1, x, rv, lv, svv, an, rfl, K2, e9, hM⟩
    have hs1 := hM.st
    obtain ⟨css, r1, r2, r3⟩ := hs1.ans
    have hkf := hs1.kb_far
    obtain ⟨zc, hzc⟩ := hM.zc
    have hrow2 : w2.ownsRow B 53 11 av s1.answers.length css.flatten := ownsRow_only r1 hM.only (fun k hk e => e.elim (fun e => hM.abn (.inr (.inr (.inr (e ▸ hk))))) (fun e => hkf.2.2 (e ▸ hk)))
    have hlen1 : s1.answers.length = i := by rw [hM.ans1, ← hst.same, h.len]
    have hkl1 : s1.kept.length = i := by rw [hM.kept1, h.len]
    have hsz2 : B ≤ w2.heap.size := Nat.le_trans hs1.size hM.only.size
    refine last_part (scan_p28 B w2 l2 f av s1.answers.length css.flatten wA.heap.size rv lv svv _ _ _ _ _ _ _ _ ?_ ?_ hM.blk hM.slices hrow2 (by omega) hsz2) ?_
    · rw [K2 8 rfl rfl, K1 8 rfl rfl, h.h8]
    · rw [K2 13 rfl rfl, b13]
    rintro a w3 ⟨l3, av', rfl, K3, hrow3, hO3, hav⟩
    have hcl := hs1.close css r2 r3 hzc (Nat.le_trans hst.size hbA.size) hM.abn hM.only x hM.okx (by omega) hM.kept _ an hM.ans hM.blk hrow3 hO3 hav
    have hbel3 : Below B w2 w3 := hO3.below hsz2 (fun k hk => (own_lt hrow2 hk).1)
    obtain ⟨m1, m2, m3⟩ := hM.same
    have hcalled := hM.call
    rw [h.opt, h.reu] at hcalled
    refine NPost.mk ⟨_, c', r', gs', av', _, rfl, ?_, ⟨hcl, ?_, ?_, ?_, ?_, ?_, ?_, ?_, m1.trans h.ecr, m2.trans h.opt, m3.trans h.reu, ?_, ?_, ?_, ?_, ?_⟩⟩
    · rw [lk_ne _ _ _ _ _ (by decide), K3 64 rfl rfl, K2 64 rfl rfl, K1 64 rfl rfl, h.h64]
    · rw [lk_ne _ _ _ _ _ (by decide), lk_ne _ _ _ _ _ (by decide), K3 7 rfl rfl, K2 7 rfl rfl, K1 7 rfl rfl, h.h7]
    · rw [lk_ne _ _ _ _ _ (by decide)]; simp [lk]
    · rw [lk_ne _ _ _ _ _ (by decide), lk_ne _ _ _ _ _ (by decide), K3 9 rfl rfl, e9]
    · rw [lk_ne _ _ _ _ _ (by decide), lk_ne _ _ _ _ _ (by decide), K3 10 rfl rfl, K2 10 rfl rfl, K1 10 rfl rfl, h.h10]
    · rw [lk_ne _ _ _ _ _ (by decide), lk_ne _ _ _ _ _ (by decide), K3 62 rfl rfl, K2 62 rfl rfl, K1 62 rfl rfl, h.h62]
    · rw [lk_ne _ _ _ _ _ (by decide), lk_ne _ _ _ _ _ (by decide), K3 63 rfl rfl, K2 63 rfl rfl, K1 63 rfl rfl, h.h63]
    · simp [lk]
    · rw [List.take_add_one, hcal, List.foldl_append, ← h.fold]
      exact hcalled.symm
    · simp [hkl1]
    · have := hM.pot; omega
    · rw [← hcalled]; exact htm.2
    · exact (hbelB.trans hM.below).trans hbel3
  · rintro a w1 ⟨l1, c', r', gs', av', s', rfl, h64, hL⟩
    refine last_part (scan_p29 w1 l1 f i h64 (by omega)) ?_
    rintro a w2 ⟨l2, rfl, K2, rfl⟩
    refine NPost.mk ⟨_, c', r', gs', av', s', rfl, ?_⟩
    have K : ∀ k, sVar k = true → lk ((64, Value.int .i64 ((i + 1 : Nat) : Int)) :: l2) f k = lk ((64, Value.int .i64 ((i + 1 : Nat) : Int)) :: l1) f k := fun k hk => by
      by_cases e : k = 64
      · subst e; simp [lk]
      · have e' : (k == 64) = false := by simpa using e
        rw [lk_ne l2 f k 64 _ e', lk_ne l1 f k 64 _ e', K2 k hk rfl]
    exact { hL with h7 := (K 7 rfl).trans hL.h7, h8 := (K 8 rfl).trans hL.h8, h9 := (K 9 rfl).trans hL.h9, h10 := (K 10 rfl).trans hL.h10, h62 := (K 62 rfl).trans hL.h62, h63 := (K 63 rfl).trans hL.h63, h64 := (K 64 rfl).trans hL.h64 }
end
end Go.Proofs.YtfadgnopfjajbaaGreatDoor
namespace Go.Proofs.YtfadgnopfjajbaaGreatDoor
open Go.RowKit
section
variable {B : Nat} {G : Glob} {w0 : World} {n : Nat} {o : Csv.Opt} {reuse : Bool} {s0 : Csv.Ses} {script : List Csv.Cal} {P0 : Nat} {sv : Value} {cr kb : Nat} {i : Nat} {l l' : List (Nat × Value)} {f : Nat → Value} {w : World} {c : CSt} {r : RSt} {gs : List Nat} {av : Value} {s : Csv.Ses}
theorem Lp.keep (hL : Lp B G w0 n o reuse s0 script P0 sv cr kb i l f w c r gs av s) (K : SKeeps [] l f l') : Lp B G w0 n o reuse s0 script P0 sv cr kb i l' f w c r gs av s :=
  { hL with h7 := (K 7 rfl rfl).trans hL.h7, h8 := (K 8 rfl rfl).trans hL.h8, h9 := (K 9 rfl rfl).trans hL.h9, h10 := (K 10 rfl rfl).trans hL.h10, h62 := (K 62 rfl rfl).trans hL.h62, h63 := (K 63 rfl rfl).trans hL.h63, h64 := (K 64 rfl rfl).trans hL.h64 }
noncomputable def scLoop : Code := part [true, true, true, true, true, true, true, false, true] scanBody
set_option maxRecDepth 100000 in
theorem scLoop_eq : scLoop = Code.block 0 (.loop (.seq sc9 (.seq (.cond (.tmp 65) .skip (.exit 0)) scRound))) := by kernel_rfl
theorem scan_loop {m : Int} (h : Lp B G w0 n o reuse s0 script P0 sv cr kb 0 l f w c r gs av s) (hn : script.length = n) (hP : P0 + n < 268435450) (hsc : 0 < n → ∃ sb so cp, sv = .slice (some ⟨sb, so, none⟩) n cp ∧ ScriptAt B w0 script sb so) (hm : ∀ w1, Below B w0 w1 → w1.cell? ⟨4, 0, none⟩ = some (.int .i64 m)) :
    scLoop.wp Tryz.prog (NPost fun a w' => ∃ l' c' r' gs' av' s', a = Fr 146 l' f ∧ Lp B G w0 n o reuse s0 script P0 sv cr kb n l' f w' c' r' gs' av' s') (Fr 146 l f) w := by
  rw [scLoop_eq]
  refine wp_block ?_
  refine wp_loop_n (fun k a w' => ∃ l' c' r' gs' av' s', a = Fr 146 l' f ∧ k ≤ n ∧ Lp B G w0 n o reuse s0 script P0 sv cr kb (n - k) l' f w' c' r' gs' av' s') n ⟨l, c, r, gs, av, s, rfl, Nat.le_refl _, by rw [Nat.sub_self]; exact h⟩ ?_
  rintro k a w1 ⟨l1, c1, r1, gs1, av1, s1, rfl, hk, hL⟩
  refine seq_part (scan_p9 w1 l1 f (n - k) n hL.h64 hL.h63) ?_
  rintro a w2 ⟨l2, rfl, K2, rfl⟩
  have e65 : lk ((65, .bool (decide (n - k < n))) :: l2) f 65 = .bool (decide (n - k < n)) := by simp [lk]
  have hL2 := hL.keep (SKeeps.far (j := 65) (v := .bool (decide (n - k < n))) rfl K2)
  revert e65 hL2
  generalize (65, Value.bool (decide (n - k < n))) :: l2 = l3
  intro e65 hL2
  by_cases hlt : n - k < n
  · obtain ⟨sb, so, cp, hsv, hs⟩ := hsc (by omega)
    rw [decide_eq_true hlt] at e65
    refine seq_part (R := fun a w => a = Fr 146 l3 f ∧ w = w2) (wp_if_true rfl e65 (wp_skip (NPost.mk ⟨rfl, rfl⟩))) ?_
    rintro a w3 ⟨rfl, rfl⟩
    subst hsv
    refine last_part (scan_round hL2 hn hlt hP hs hm) ?_
    rintro a w4 ⟨l4, c4, r4, gs4, av4, s4, rfl, hL4⟩
    refine ⟨k - 1, by omega, l4, c4, r4, gs4, av4, s4, rfl, by omega, ?_⟩
    have e : n - (k - 1) = n - k + 1 := by omega
    rw [e]; exact hL4
  · rw [decide_eq_false hlt] at e65
    have hk0 : n - k = n := by omega
    rw [hk0] at hL2
    refine wp_seq (wp_if_false rfl e65 (wp_exit ?_))
    simp only [Exit.then, Exit.inBlock, if_true]
    exact NPost.mk ⟨l3, c1, r1, gs1, av1, s1, rfl, hL2⟩
end
end Go.Proofs.YtfadgnopfjajbaaGreatDoor
namespace Go.Proofs.YtfadgnopfjajbaaGreatDoor
open Go.RowKit
noncomputable def sc5 : Code := part [true, true, true, true, false] scanBody
noncomputable def sc6 : Code := part [true, true, true, true, true, false] scanBody
noncomputable def sc8 : Code := part [true, true, true, true, true, true, true, false, false] scanBody
noncomputable def sc35 : Code := part [true, true, true, true, true, true, true, true, true, false] scanBody
set_option maxRecDepth 100000 in
theorem scan_p5 (w : World) (l : List (Nat × Value)) (f : Nat → Value) : sc5.wp Tryz.prog (NPost fun a w' => a = Fr 146 ((8, .slice none 0 0) :: l) f ∧ w' = w) (Fr 146 l f) w := by
  dsimp only [sc5, scanBody, part, part.sub2', sub1, sub2, Tryz.f6, Option.getD]
  go_wp
  exact NPost.mk ⟨rfl, rfl⟩
set_option maxRecDepth 100000 in
theorem scan_p6 (w : World) (l : List (Nat × Value)) (f : Nat → Value) : sc6.wp Tryz.prog (NPost fun a w' => a = Fr 146 ((9, .slice none 0 0) :: l) f ∧ w' = w) (Fr 146 l f) w := by
  dsimp only [sc6, scanBody, part, part.sub2', sub1, sub2, Tryz.f6, Option.getD]
  go_wp
  exact NPost.mk ⟨rfl, rfl⟩
set_option maxRecDepth 100000 in
theorem scan_p8 (w : World) (l : List (Nat × Value)) (f : Nat → Value) (A : Option Addr) (n cp : Nat) (h2 : lk l f 2 = .slice A n cp) : sc8.wp Tryz.prog (NPost fun a w' => ∃ l', a = Fr 146 l' f ∧ SKeeps [62, 63, 64] l f l' ∧ lk l' f 62 = .slice A n cp ∧ lk l' f 63 = .int .i64 (n : Int) ∧ lk l' f 64 = .int .i64 ((0 : Nat) : Int) ∧ w' = w) (Fr 146 l f) w := by
  dsimp only [sc8, scanBody, part, part.sub2', sub1, sub2, Tryz.f6, Option.getD]
  go_wp
  exact NPost.mk ⟨_, rfl, (by repeat first | exact SKeeps.refl _ _ _ | refine SKeeps.far (by decide) ?_ | refine SKeeps.set (by decide) ?_), by simp [lk], by simp [lk], by simp [lk], rfl⟩
set_option maxRecDepth 100000 in
theorem scan_p35 (w : World) (l : List (Nat × Value)) (f : Nat → Value) (A : Option Addr) (n cp : Nat) (h8 : lk l f 8 = .slice A n cp) : sc35.wp Tryz.prog (NPost fun a w' => ∃ l', a = Fr 146 ((6, .slice A n cp) :: l') f ∧ w' = w) (Fr 146 l f) w := by
  dsimp only [sc35, scanBody, part, part.sub2', sub1, sub2, Tryz.f6, Option.getD]
  go_wp
  exact NPost.mk ⟨_, rfl, rfl⟩
/-- A field of a row of answers is set. -/
theorem flatten_set {α : Type} (q : Nat) : ∀ (css : List (List α)) (i j : Nat) (cs : List α) (v : α), (∀ x ∈ css, x.length = q) → css[i]? = some cs → j < q → css.flatten.set (i * q + j) v = (css.set i (cs.set j v)).flatten
  | [], i, j, cs, v, _, h, _ => by simp at h
  | x :: xs, 0, j, cs, v, hq, h, hj => by
    simp at h
    subst h
    have := hq x (by simp)
    simp only [List.flatten_cons, List.set_cons_zero, Nat.zero_mul, Nat.zero_add]
    rw [List.set_append_left _ _ (by omega)]
  | x :: xs, i + 1, j, cs, v, hq, h, hj => by
    have hx := hq x (by simp)
    simp only [List.getElem?_cons_succ] at h
    have ih := flatten_set q xs i j cs v (fun y hy => hq y (by simp [hy])) h hj
    simp only [List.flatten_cons, List.set_cons_succ]
    have e : (i + 1) * q + j - x.length = i * q + j := by rw [hx, Nat.add_mul]; omega
    rw [List.set_append_right _ _ (by rw [hx, Nat.add_mul]; omega), e, ih]
theorem flatten_get {α : Type} (q : Nat) : ∀ (css : List (List α)) (i j : Nat) (cs : List α), (∀ x ∈ css, x.length = q) → css[i]? = some cs → j < q → css.flatten[i * q + j]? = cs[j]?
  | [], i, j, cs, _, h, _ => by simp at h
  | x :: xs, 0, j, cs, hq, h, hj => by
    simp at h
    subst h
    have := hq x (by simp)
    simp only [List.flatten_cons, Nat.zero_mul, Nat.zero_add]
    rw [List.getElem?_append_left (by omega)]
  | x :: xs, i + 1, j, cs, hq, h, hj => by
    have hx := hq x (by simp)
    simp only [List.getElem?_cons_succ] at h
    have ih := flatten_get q xs i j cs (fun y hy => hq y (by simp [hy])) h hj
    simp only [List.flatten_cons]
    have e : (i + 1) * q + j - x.length = i * q + j := by rw [hx, Nat.add_mul]; omega
    rw [List.getElem?_append_right (by rw [hx, Nat.add_mul]; omega), e, ih]
end Go.Proofs.YtfadgnopfjajbaaGreatDoor
namespace Go.Proofs.YtfadgnopfjajbaaGreatDoor
open Go.RowKit
set_option maxRecDepth 100000 in
theorem make_kept (w : World) (n : Nat) (hn : n < 1099511627776) : (Instr.makeSlice 33 (.int .i64 (n : Int)) (.int .i64 (n : Int))).run Tryz.prog w = .ok (.slice (some ⟨w.heap.size, 0, none⟩) n n) (w.alloc (.cells ((List.replicate n (.slice none 0 0)).toArray) 36)) := by
  cases hi : Tryz.prog.info? 36 with
  | none => have := info_strs; rw [hi] at this; cases this
  | some i =>
    have h := info_strs
    rw [hi] at h
    simp only [Option.map_some, Option.some.injEq, Prod.mk.injEq] at h
    obtain ⟨hz, hs, hb⟩ := h
    have hr := run_make (P := Tryz.prog) w 33 36 i _ Tryz.underlying33 hi hz .i64 .i64 n n (by omega) (Int.le_refl _) (by rw [hb]; omega) (by omega)
    rw [hr, hs]
    simp only [Int.toNat_natCast, Nat.mul_one]
    congr 2
    have e : (Value.slice none 0 0).cells = #[.slice none 0 0] := rfl
    rw [e]
    congr 1
    apply Array.toList_inj.1
    rw [toList_madeCells_one]
noncomputable def sc7 : Code := part [true, true, true, true, true, true, false] scanBody
set_option maxRecDepth 100000 in
theorem scan_p7 (w : World) (l : List (Nat × Value)) (f : Nat → Value) (A : Option Addr) (n cp : Nat) (h2 : lk l f 2 = .slice A n cp) (hn : n < 1099511627776) : sc7.wp Tryz.prog (NPost fun a w' => ∃ l', a = Fr 146 ((10, .slice (some ⟨w.heap.size, 0, none⟩) n n) :: l') f ∧ SKeeps [] l f l' ∧ Below w.heap.size w w' ∧ Blk w' w.heap.size 36 (List.replicate n (.slice none 0 0))) (Fr 146 l f) w := by
  dsimp only [sc7, scanBody, part, part.sub2', sub1, sub2, Tryz.f6, Option.getD]
  have hmk := make_kept w n hn
  go_wp
  exact NPost.mk ⟨_, rfl, (by repeat first | exact SKeeps.refl _ _ _ | refine SKeeps.far (by decide) ?_ | refine SKeeps.set (by decide) ?_), (Below.refl _ w).alloc (Nat.le_refl _) _, Blk.new w _ _⟩
end Go.Proofs.YtfadgnopfjajbaaGreatDoor
namespace Go.Proofs.YtfadgnopfjajbaaGreatDoor
open Go.RowKit
theorem own_set {w : World} {B : Nat} {e : TypeId} {q n cp g : Nat} {xs : List Value} (h : w.ownsRow B e q (.slice (some ⟨g, 0, none⟩) n cp) n xs) (j : Nat) (u : Value) : (w.setCell ⟨g, j, none⟩ u).ownsRow B e q (.slice (some ⟨g, 0, none⟩) n cp) n (xs.set j u) := by
  refine ⟨by rw [List.length_set]; exact h.1, ?_⟩
  rcases h.2 with ⟨h1, _⟩ | ⟨g', cap, cur, h1, hb, hg, h2, h3, h4, h5⟩
  · cases h1
  · injection h1 with h1 h6 h7
    injection h1 with h1
    injection h1 with h1
    subst h1 h7
    have hB : Blk w g e cur.toList := by unfold Blk; simpa using hg
    exact .inr ⟨g, cp, (cur.toList.set j u).toArray, rfl, hb, hB.set j u, h2, h3, by simpa using h4, by rw [← h5]; exact List.take_set⟩
theorem own_cell {w : World} {B : Nat} {e : TypeId} {q n cp g : Nat} {xs : List Value} (h : w.ownsRow B e q (.slice (some ⟨g, 0, none⟩) n cp) n xs) (j : Nat) (u : Value) (hj : xs[j]? = some u) : w.cell? ⟨g, j, none⟩ = some u ∧ w.frozen? ⟨g, j, none⟩ = false := by
  rcases h.2 with ⟨h1, _⟩ | ⟨g', cap, cur, h1, hb, hg, h2, h3, h4, h5⟩
  · cases h1
  · injection h1 with h1 h6 h7
    injection h1 with h1
    injection h1 with h1
    subst h1 h7
    have hB : Blk w g e cur.toList := by unfold Blk; simpa using hg
    refine ⟨?_, hB.frozen j⟩
    rw [hB.cell]
    rw [← h5, List.getElem?_take] at hj
    split at hj
    · exact hj
    · cases hj
theorem AnsAt.len {B : Nat} {w : World} {M : Nat → Prop} {cells : List Value} {a : Csv.Ans} (h : AnsAt B w M cells a) : cells.length = 11 := by
  obtain ⟨rv, lv, sv, vs, h1, _⟩ := h.form
  rw [h1]; rfl
/-- The answer with its later look. -/
theorem AnsAt.later {B : Nat} {w w' : World} {M : Nat → Prop} {cells : List Value} {a : Csv.Ans} (h : AnsAt B w M cells a) (ht : Turns M w M w') {lv : Value} {fs : List (List UInt8)} (hl : StrS B w' lv fs) (ha : Away M lv) : AnsAt B w' M (cells.set 1 lv) { a with later := fs } := by
  obtain ⟨rv, lv0, sv, vs, h1, h2, h3, h4, h5, h6, h7, h8⟩ := (h.turn ht).form
  exact ⟨rv, lv, sv, vs, by rw [h1]; rfl, h2, h3, hl, ha, h6, h7, h8⟩
end Go.Proofs.YtfadgnopfjajbaaGreatDoor
namespace Go.Proofs.YtfadgnopfjajbaaGreatDoor
open Go.RowKit
/-- The answers when i of them have their later look. -/
def lat (s : Csv.Ses) (i : Nat) : List Csv.Ans := s.finish.take i ++ s.answers.drop i
theorem finish_len {s : Csv.Ses} {n : Nat} (h1 : s.kept.length = n) (h2 : s.answers.length = n) : s.finish.length = n := by unfold Csv.Ses.finish; simp [h1, h2]
theorem lat_len {s : Csv.Ses} {n : Nat} (h1 : s.kept.length = n) (h2 : s.answers.length = n) (i : Nat) (hi : i ≤ n) : (lat s i).length = n := by
  have := finish_len h1 h2
  unfold lat
  simp only [List.length_append, List.length_take, List.length_drop]; omega
theorem lat_here {s : Csv.Ses} {n : Nat} (h1 : s.kept.length = n) (h2 : s.answers.length = n) (i : Nat) (hi : i < n) : (lat s i)[i]? = s.answers[i]? := by
  have := finish_len h1 h2
  unfold lat
  rw [List.getElem?_append_right (by rw [List.length_take]; omega), List.length_take, List.getElem?_drop]
  congr 1; omega
theorem lat_next {s : Csv.Ses} {n : Nat} (h1 : s.kept.length = n) (h2 : s.answers.length = n) (i : Nat) (hi : i < n) {a : Csv.Ans} {k : Csv.Ref} (ha : s.answers[i]? = some a) (hk : s.kept[i]? = some k) : lat s (i + 1) = (lat s i).set i { a with later := Csv.deref s.arrays k } := by
  have hf := finish_len h1 h2
  have hfi : s.finish[i]? = some { a with later := Csv.deref s.arrays k } := by
    unfold Csv.Ses.finish
    rw [List.getElem?_zipWith, ha, hk]
  have hd : s.answers.drop i = a :: s.answers.drop (i + 1) := by
    rw [List.drop_eq_getElem_cons (by omega)]
    congr 1
    rw [List.getElem?_eq_getElem (by omega)] at ha
    injection ha
  unfold lat
  rw [hd, List.set_append_right _ _ (by rw [List.length_take]; omega), List.length_take, Nat.min_eq_left (by omega), Nat.sub_self, List.set_cons_zero, List.take_add_one, hfi]
  simp
structure Lt (B : Nat) (w0 : World) (n : Nat) (s : Csv.Ses) (gs : List Nat) (kb : Nat) (av : Value) (i : Nat) (l : List (Nat × Value)) (f : Nat → Value) (w : World) : Prop where
  h8 : lk l f 8 = av
  h10 : lk l f 10 = .slice (some ⟨kb, 0, none⟩) n n
  h131 : lk l f 131 = .int .i64 (n : Int)
  h132 : lk l f 132 = .int .i64 (i : Int)
  below : Below B w0 w
  size : B ≤ w.heap.size
  kept : Blk w kb 36 (s.kept.map (refV gs s.arrays))
  arrs : Arrs B w gs s.arrays
  okKept : ∀ x ∈ s.kept, refOk s.arrays x
  lenK : s.kept.length = n
  lenA : s.answers.length = n
  ans : ∃ css : List (List Value), w.ownsRow B 53 11 av n css.flatten ∧ css.length = n ∧ ∀ (j : Nat) (cs : List Value) (a : Csv.Ans), css[j]? = some cs → (lat s i)[j]? = some a → AnsAt B w (fun k => av.ownBlock = some k) cs a
section
variable {B : Nat} {w0 w : World} {n : Nat} {s : Csv.Ses} {gs : List Nat} {kb : Nat} {av : Value} {i : Nat} {l l' : List (Nat × Value)} {f : Nat → Value}
theorem Lt.keep (h : Lt B w0 n s gs kb av i l f w) (K : SKeeps [] l f l') : Lt B w0 n s gs kb av i l' f w :=
  { h with h8 := (K 8 rfl rfl).trans h.h8, h10 := (K 10 rfl rfl).trans h.h10, h131 := (K 131 rfl rfl).trans h.h131, h132 := (K 132 rfl rfl).trans h.h132 }
end
end Go.Proofs.YtfadgnopfjajbaaGreatDoor
namespace Go.Proofs.YtfadgnopfjajbaaGreatDoor
open Go.RowKit
section
variable {B : Nat} {w0 w : World} {n : Nat} {s : Csv.Ses} {gs : List Nat} {kb : Nat} {av : Value} {i : Nat} {l l' : List (Nat × Value)} {f : Nat → Value}
theorem deref_len {w : World} {gs : List Nat} {arrays : List (List (List UInt8))} (h : Arrs B w gs arrays) (x : Csv.Ref) (hx : refOk arrays x) : (Csv.deref arrays x).length < 268435456 := by
  cases x with
  | none => exact (by decide : (0 : Nat) < 268435456)
  | some p =>
    obtain ⟨i, m⟩ := p
    obtain ⟨o1, o2⟩ := hx
    have hg : gs[i]? = some (gs.getD i 0) := by rw [List.getD_eq_getElem?_getD, List.getElem?_eq_getElem (by rw [h.len]; exact o1)]; rfl
    have ha : arrays[i]? = some (arrays.getD i []) := by rw [List.getD_eq_getElem?_getD, List.getElem?_eq_getElem o1]; rfl
    have hq := (h.blk i _ _ hg ha).2.2
    show ((arrays.getD i []).take m).length < _
    rw [List.length_take]; omega
theorem later_round (h : Lt B w0 n s gs kb av i l f w) (hi : i < n) (hn : n < 268435456) : (Code.seq sc32 sc34).wp Tryz.prog (NPost fun a w' => ∃ l', a = Fr 146 l' f ∧ Lt B w0 n s gs kb av (i + 1) l' f w') (Fr 146 l f) w := by
  obtain ⟨css, r1, r2, r3⟩ := h.ans
  have hlat := lat_len h.lenK h.lenA i (Nat.le_of_lt hi)
  obtain ⟨cs, hcs⟩ : ∃ cs, css[i]? = some cs := ⟨_, List.getElem?_eq_getElem (by omega)⟩
  obtain ⟨a, ha⟩ : ∃ a, s.answers[i]? = some a := ⟨_, List.getElem?_eq_getElem (by rw [h.lenA]; exact hi)⟩
  obtain ⟨k, hk⟩ : ∃ k, s.kept[i]? = some k := ⟨_, List.getElem?_eq_getElem (by rw [h.lenK]; exact hi)⟩
  have hAi := r3 i cs a hcs ((lat_here h.lenK h.lenA i hi).trans ha)
  have hall : ∀ x ∈ css, x.length = 11 := fun x hx => by
    obtain ⟨j, hj⟩ := List.mem_iff_getElem?.1 hx
    have hjl : j < n := by
      rcases Nat.lt_or_ge j css.length with h' | h'
      · omega
      · rw [List.getElem?_eq_none h'] at hj; cases hj
    exact (r3 j x _ hj (List.getElem?_eq_getElem (by omega))).len
  obtain ⟨ga, ca, hav⟩ : ∃ ga ca, av = .slice (some ⟨ga, 0, none⟩) n ca := by
    rcases r1.2 with ⟨_, h0⟩ | ⟨g, cap, cur, e1, _⟩
    · omega
    · exact ⟨g, cap, e1⟩
  have hob : av.ownBlock = some ga := by rw [hav]; rfl
  obtain ⟨hgaB, hgal⟩ := own_lt r1 hob
  have r1' := r1
  rw [hav] at r1'
  obtain ⟨lv0, hlv0⟩ : ∃ v, cs[1]? = some v := ⟨_, List.getElem?_eq_getElem (by rw [hAi.len]; decide)⟩
  have hfg := flatten_get 11 css i 1 cs hall hcs (by decide)
  obtain ⟨q1, q2⟩ := own_cell r1' (i * 11 + 1) lv0 (hfg.trans hlv0)
  have hkm : refOk s.arrays k := h.okKept k (List.mem_of_getElem? hk)
  have hstr := deref_str h.arrs k hkm
  have hdl := deref_len h.arrs k hkm
  refine seq_part (scan_p32 B w l f i n n kb ga ca (s.kept.map (refV gs s.arrays)) (refV gs s.arrays k) lv0 _ h.h132 (by rw [h.h8, hav]) h.h10 h.kept hi hi (by rw [List.getElem?_map, hk]; rfl) hstr (by omega) q1 q2 hgal) ?_
  rintro a' w2 ⟨l2, lv, w1, rfl, K2, hlv, hb1, rfl⟩
  refine last_part (scan_p34 _ l2 f i ((K2 132 rfl rfl).trans h.h132) (by omega)) ?_
  rintro a' w2 ⟨l3, rfl, K3, rfl⟩
  obtain ⟨w2, hw2⟩ : ∃ w2, w2 = w1.setCell ⟨ga, i * 11 + 1, none⟩ lv := ⟨_, rfl⟩
  rw [← hw2]
  have hO : Only (fun k => av.ownBlock = some k) w w2 := by
    rw [hw2]
    exact ((Only.of_below hb1).mono (T := fun k => av.ownBlock = some k) (fun k hk h => absurd hk (by omega))).setCell (p := ⟨ga, i * 11 + 1, none⟩) (fun _ => hob) _
  have ht : Turns (fun k => av.ownBlock = some k) w (fun k => av.ownBlock = some k) w2 := ⟨hO, fun _ h => .inl h⟩
  have hkn : av.ownBlock ≠ some kb := own_ne r1 h.kept (by decide)
  have hlvga : ∀ q, lv.ownBlock = some q → ¬ av.ownBlock = some q := fun q hq e => by
    have h1 := (own_lt hlv hq).1
    have h2 := (own_lt r1 e).2
    omega
  have hlv2 : StrS B w2 lv (Csv.deref s.arrays k) := by
    have h1 := hlv.mono h.size
    have hO1 : Only (fun k => av.ownBlock = some k) w1 w2 := by rw [hw2]; exact (Only.refl (fun k => av.ownBlock = some k) w1).setCell (p := ⟨ga, i * 11 + 1, none⟩) (fun _ => hob) _
    exact h1.only hO1 hlvga
  refine NPost.mk ⟨_, rfl, ?_⟩
  refine ⟨?_, ?_, ?_, by simp [lk], h.below.trans (hO.below h.size (fun k hk => (own_lt r1 hk).1)), Nat.le_trans h.size hO.size, h.kept.only hO hkn, ?_, h.okKept, h.lenK, h.lenA, css.set i (cs.set 1 lv), ?_, by simp [r2], ?_⟩
  · rw [lk_ne _ _ _ _ _ (by decide), K3 8 rfl rfl, K2 8 rfl rfl, h.h8]
  · rw [lk_ne _ _ _ _ _ (by decide), K3 10 rfl rfl, K2 10 rfl rfl, h.h10]
  · rw [lk_ne _ _ _ _ _ (by decide), K3 131 rfl rfl, K2 131 rfl rfl, h.h131]
  · refine ⟨h.arrs.len, fun j g arr e1 e2 => ?_, h.arrs.nodup⟩
    obtain ⟨hb, hB, hl⟩ := h.arrs.blk j g arr e1 e2
    exact ⟨hb.only hO (own_ne r1 hb (by decide)), hB, hl⟩
  · have hr1 : w1.ownsRow B 53 11 (.slice (some ⟨ga, 0, none⟩) n ca) n css.flatten := ownsRow_only r1' (Only.of_below hb1) (fun k hk e => by have := (own_lt r1' hk).2; omega)
    have := own_set hr1 (i * 11 + 1) lv
    rw [flatten_set 11 css i 1 cs lv hall hcs (by decide)] at this
    rw [hav, hw2]; exact this
  · intro j cs' a' e1 e2
    rw [lat_next h.lenK h.lenA i hi ha hk, List.getElem?_set] at e2
    rw [List.getElem?_set] at e1
    by_cases hij : i = j
    · rw [if_pos hij, if_pos (by omega)] at e1 e2
      injection e1 with e1
      injection e2 with e2
      subst e1 e2
      exact hAi.later ht hlv2 hlvga
    · rw [if_neg hij] at e1 e2
      exact (r3 j cs' a' e1 e2).turn ht
end
end Go.Proofs.YtfadgnopfjajbaaGreatDoor
namespace Go.Proofs.YtfadgnopfjajbaaGreatDoor
open Go.RowKit
section
variable {B : Nat} {w0 w : World} {n : Nat} {s : Csv.Ses} {gs : List Nat} {kb : Nat} {av : Value} {i : Nat} {l l' : List (Nat × Value)} {f : Nat → Value}
noncomputable def scLater : Code := part [true, true, true, true, true, true, true, true, false, true] scanBody
set_option maxRecDepth 100000 in
theorem scLater_eq : scLater = Code.block 3 (.loop (.seq sc31 (.seq (.cond (.tmp 133) .skip (.exit 3)) (.seq sc32 sc34)))) := by kernel_rfl
theorem later_loop (h : Lt B w0 n s gs kb av 0 l f w) (hn : n < 268435456) : scLater.wp Tryz.prog (NPost fun a w' => ∃ l', a = Fr 146 l' f ∧ Lt B w0 n s gs kb av n l' f w') (Fr 146 l f) w := by
  rw [scLater_eq]
  refine wp_block ?_
  refine wp_loop_n (fun k a w' => ∃ l', a = Fr 146 l' f ∧ k ≤ n ∧ Lt B w0 n s gs kb av (n - k) l' f w') n ⟨l, rfl, Nat.le_refl _, by rw [Nat.sub_self]; exact h⟩ ?_
  rintro k a w1 ⟨l1, rfl, hk, hL⟩
  refine seq_part (scan_p31 w1 l1 f (n - k) n hL.h132 hL.h131) ?_
  rintro a w2 ⟨l2, rfl, K2, rfl⟩
  have e65 : lk ((133, .bool (decide (n - k < n))) :: l2) f 133 = .bool (decide (n - k < n)) := by simp [lk]
  have hL2 := hL.keep (SKeeps.far (j := 133) (v := .bool (decide (n - k < n))) rfl K2)
  revert e65 hL2
  generalize (133, Value.bool (decide (n - k < n))) :: l2 = l3
  intro e65 hL2
  by_cases hlt : n - k < n
  · rw [decide_eq_true hlt] at e65
    refine seq_part (R := fun a w => a = Fr 146 l3 f ∧ w = w2) (wp_if_true rfl e65 (wp_skip (NPost.mk ⟨rfl, rfl⟩))) ?_
    rintro a w3 ⟨rfl, rfl⟩
    refine last_part (later_round hL2 hlt hn) ?_
    rintro a w4 ⟨l4, rfl, hL4⟩
    refine ⟨k - 1, by omega, l4, rfl, by omega, ?_⟩
    have e : n - (k - 1) = n - k + 1 := by omega
    rw [e]; exact hL4
  · rw [decide_eq_false hlt] at e65
    have hk0 : n - k = n := by omega
    rw [hk0] at hL2
    refine wp_seq (wp_if_false rfl e65 (wp_exit ?_))
    simp only [Exit.then, Exit.inBlock, if_true]
    exact NPost.mk ⟨l3, rfl, hL2⟩
end
end Go.Proofs.YtfadgnopfjajbaaGreatDoor
