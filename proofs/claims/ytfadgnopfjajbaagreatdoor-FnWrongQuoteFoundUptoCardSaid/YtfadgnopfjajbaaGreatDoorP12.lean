/- A part of the proof: csv.Reader's Read and ReadAll. csv.Reader's ReadAll. ReadAll, its walk. csv.NewReader. What Scan's loop rests on. What a call of Read does to a script's state. -/
import Derived.Test.YtfadgnopfjajbaaGreatDoorP11
import Derived.Stop.Asserts
namespace Go.Proofs.YtfadgnopfjajbaaGreatDoor
open Go.RowKit
theorem RInv.last {B : Nat} {G : Glob} {w : World} {c : CSt} {r : RSt} (h : RInv B G w c r) (v : Value) : RInv B G (w.setCell ⟨c.cr, 14, none⟩ v) { c with last := v } r := by
  obtain ⟨hL, hO⟩ := h.l.row (grown_refl w none) (fun k e => by cases e) 14 v { c with last := v } rfl rfl rfl rfl rfl rfl
  refine ⟨hL, ?_, ?_, ?_, h.nraw, h.nbuf⟩
  · exact ownsRow_only h.rbuf hO (fun k hk s => s.elim (fun e => (h.rbuf_far k hk).2 (.inl e)) (fun e => by cases e))
  · exact ownsRow_only h.idx hO (fun k hk s => s.elim (fun e => (h.idx_far k hk).2 (.inl e)) (fun e => by cases e))
  · exact ownsRow_only h.pos hO (fun k hk s => s.elim (fun e => (h.pos_far k hk).2 (.inl e)) (fun e => by cases e))
/-- What a call of Read leaves. -/
structure ReadOut (B : Nat) (G : Glob) (w : World) (c : CSt) (dst : Value) (arr : List (List UInt8)) (res : Option (List (List UInt8)) × Csv.Fail × Csv.Rd) (dv ev : Value) (w' : World) (c' : CSt) (r' : RSt) : Prop where
  inv : RInv B G w' c' r'
  same : c' = { c with b := c'.b, raw := c'.raw, numLine := c'.numLine, offset := c'.offset, rbuf := c'.rbuf, idx := c'.idx, pos := c'.pos, expect := c'.expect, last := c'.last }
  last : c'.last = if c.reuse then dv else c.last
  rd : c'.rd r' = res.2.2
  err : ErrOut G w w' ev res.2.1
  root : ∀ k, c'.rown k → c.rown k ∨ w.heap.size ≤ k
  small : c'.numLine + c'.b.rest.length ≤ c.numLine + c.b.rest.length + 1
  out : (res.1 = none ∧ dv = .slice none 0 0 ∧ Only c.rown w w') ∨
    ∃ fs, res.1 = some fs ∧ DstPost B w dst arr fs dv w' ∧ fs.length ≤ c.b.rest.length + 1 ∧ Only (fun k => c.rown k ∨ (dst.ownBlock = some k ∧ fs.length ≤ arr.length)) w w'
def lastOf (c : CSt) : Value := if c.reuse then c.last else .slice none 0 0
theorem ErrOut.only {G : Glob} {w0 w w' : World} {v : Value} {e : Csv.Fail} (h : ErrOut G w0 w v e) {S : Nat → Prop} (hO : Only S w w') (hS : ∀ k, w0.heap.size ≤ k → (∃ cs, Blk w k 108 cs) → ¬ S k) : ErrOut G w0 w' v e :=
  h.elim (fun h => .inl (h.only hO hS)) .inr
noncomputable def readBody : Code := (Tryz.f26.body).getD .skip
set_option maxRecDepth 100000 in
set_option maxHeartbeats 1000000 in
theorem Read_any (B : Nat) (G : Glob) (w : World) (c : CSt) (r : RSt) (m : Nat) (arr : List (List UInt8)) (hc : RInv B G w c r) (hD : DstAt B w (lastOf c) m arr) (hsm : c.numLine + c.b.rest.length < 137438953472) (ht : Tame c) :
    Calls Tryz.prog 26 [.pointer (some ⟨c.cr, 0, none⟩)].toArray w fun e w' => ∃ dv ev c' r', e = .returned (.tuple #[dv, ev]) ∧ ReadOut B G w c (lastOf c) arr ((c.rd r).read c.opt) dv ev w' c' r' := by
  have cR := readRecord_any B G w c r (lastOf c) m arr hc hD hsm ht
  have hcr := hc.l.cr.cell
  unfold crCells at hcr
  unfold lastOf at cR ⊢
  have HC := Lib.hid hc
  clear hc hD
  refine enter 28 Tryz.func26 rfl rfl (by simp) ?_
  cases hre : c.reuse
  · rw [hre] at hcr cR
    simp only [Bool.false_eq_true, if_false] at cR ⊢
    go_wp
    refine wp_if_false rfl (by simp [lk]) ?_
    go_wp
    refine cR.mono ?_
    rintro e w1 ⟨dv, ev, c', r', rfl, ho⟩
    dsimp only
    have HO := Lib.hid ho
    clear ho cR hcr
    go_wp
    refine ret2 rfl rfl rfl ⟨dv, ev, c', r', by simp [lk], ?_⟩
    have h := HO.out
    refine ⟨h.inv, ?_, ?_, h.rd, h.err, h.root, h.small, h.out⟩
    · rw [h.same]
    · rw [hre, h.same]; rfl
  · rw [hre] at hcr cR
    simp only [if_true] at cR ⊢
    go_wp
    refine wp_if_true rfl (by simp [lk]) ?_
    go_wp
    refine cR.mono ?_
    rintro e w1 ⟨dv, ev, c', r', rfl, ho⟩
    dsimp only
    have HO := Lib.hid ho
    have ecr : c'.cr = c.cr := by rw [ho.same]
    have hcc := ho.inv.l.cr.cell
    have hcf := ho.inv.l.cr.frozen
    unfold crCells at hcc
    rw [ecr] at hcc hcf
    obtain ⟨A1, n1, c1, hdv⟩ : ∃ A n c, dv = .slice A n c := by
      rcases ho.out with ⟨_, h, _⟩ | ⟨fs, _, h, _⟩
      · exact ⟨_, _, _, h⟩
      · obtain ⟨A, cp, h⟩ := h.form; exact ⟨_, _, _, h⟩
    rw [hdv]
    clear ho cR hcr ecr
    go_wp
    rw [← hdv]
    refine ret2 rfl rfl rfl ⟨dv, ev, { c' with last := dv }, r', by simp [lk, hdv], ?_⟩
    have h := HO.out
    have ecr : c'.cr = c.cr := by rw [h.same]
    have hO : Only (fun k => k = c.cr) w1 (w1.setCell ⟨c.cr, 14, none⟩ dv) := (Only.refl (fun k => k = c.cr) w1).setCell (p := ⟨c.cr, 14, none⟩) (fun _ => rfl) _
    have hcrn : ∀ k cs t, Blk w1 k t cs → (t = 9 ∨ t = 108) → k ≠ c.cr := fun k cs t hb htt e => h.inv.str_far hb htt (.inl (.inl (by rw [e, ecr])))
    have hi : RInv B G (w1.setCell ⟨c.cr, 14, none⟩ dv) { c' with last := dv } r' := by rw [← ecr]; exact h.inv.last dv
    refine ⟨hi, ?_, ?_, h.rd, h.err.only hO (fun k _ hb e => by obtain ⟨cs, hb⟩ := hb; exact hcrn k cs _ hb (.inr rfl) e), h.root, h.small, ?_⟩
    · rw [h.same]
    · rw [hre]; rfl
    · rcases h.out with ⟨h1, h2, h3⟩ | ⟨fs, h1, h2, h3, h4⟩
      · exact .inl ⟨h1, h2, h3.trans hO (fun k _ e => .inl (.inl e))⟩
      · exact .inr ⟨fs, h1, h2.keep hO (fun k cs hb e => hcrn k cs _ hb (.inl rfl) e), h3, h4.trans hO (fun k _ e => .inl (.inl (.inl e)))⟩
/- A record takes bytes off the text. -/
theorem run_left (o : Csv.Opt) (rec : Nat) : ∀ (n : Nat) (s : Csv.St), (s.run o rec n).src.left.length ≤ s.src.left.length
  | 0, s => Nat.le_refl _
  | n + 1, s => by
    unfold Csv.St.run
    cases h : s.step o rec with
    | inr q => rw [step_src h]; exact Nat.le_refl _
    | inl t =>
      refine Nat.le_trans (run_left o rec n t) ?_
      have key : t.src = s.src ∨ t.src = s.src.next := by
        unfold Csv.St.step at h
        split at h
        · obtain ⟨L, p, ht, _⟩ := trimmed_eq o s
          rw [ht] at h
          unfold Csv.St.stepStart at h
          split at h
          · injection h with h; subst h; exact .inl rfl
          · split at h
            · unfold Csv.St.plain at h
              split at h
              · cases h
              · injection h with h; subst h; exact .inl rfl
            · unfold Csv.St.plain at h
              split at h <;> cases h
        · unfold Csv.St.stepOpen at h
          split at h
          · unfold Csv.St.stepQuote at h
            split at h
            · injection h with h; subst h; exact .inl rfl
            · split at h
              · injection h with h; subst h; exact .inl rfl
              · split at h
                · cases h
                · split at h
                  · injection h with h; subst h; exact .inl rfl
                  · cases h
          · split at h
            · split at h <;> cases h
            · injection h with h; subst h; exact .inr rfl
      rcases key with h | h
      · rw [h]; exact Nat.le_refl _
      · rw [h]
        have := (rawLine_len s.src.left).1
        show (Csv.rawLine s.src.left).2.length ≤ _
        omega
theorem skip_left (o : Csv.Opt) : ∀ (n : Nat) (s : Csv.Src) (l : List UInt8) (s' : Csv.Src), Csv.skip o n s = (some l, s') → s'.left.length < s.left.length
  | 0, s, l, s', h => by cases h
  | n + 1, s, l, s', h => by
    unfold Csv.skip at h
    split at h
    · cases h
    · rename_i hne
      have hne' : s.left ≠ [] := fun e => hne (by rw [e]; rfl)
      have h1 := rawLine_len s.left
      have h2 := h1.2 hne'
      have h3 : s.next.left.length < s.left.length := by
        show (Csv.rawLine s.left).2.length < _
        have := h1.1
        omega
      split at h
      · exact Nat.lt_trans (skip_left o n s.next l s' h) h3
      · injection h with h4 h5
        rw [← h5]; exact h3
theorem read_left {o : Csv.Opt} {r : Csv.Rd} {fs : List (List UInt8)} (h : (r.read o).1 = some fs) : (r.read o).2.2.src.left.length < r.src.left.length := by
  unfold Csv.Rd.read at h ⊢
  split at h
  · cases h
  · rename_i hv
    rw [if_neg hv]
    cases hs : Csv.skip o (r.src.left.length + 1) r.src with
    | mk a s1 =>
      rw [hs] at h
      cases a with
      | none => cases h
      | some l =>
        simp only
        exact Nat.lt_of_le_of_lt (run_left _ _ _ _) (skip_left o _ _ _ _ hs)
theorem read_none {o : Csv.Opt} {r : Csv.Rd} (h : (r.read o).1 = none) : (r.read o).2.1.kind = 1 ∨ (r.read o).2.1.kind = 5 := by
  unfold Csv.Rd.read at h ⊢
  split at h
  · rename_i hv; rw [if_pos hv]; exact .inr rfl
  · rename_i hv
    rw [if_neg hv]
    cases hs : Csv.skip o (r.src.left.length + 1) r.src with
    | mk a s1 =>
      rw [hs] at h
      cases a with
      | none => exact .inl rfl
      | some l => cases h
end Go.Proofs.YtfadgnopfjajbaaGreatDoor
namespace Go.Proofs.YtfadgnopfjajbaaGreatDoor
open Go.RowKit
/-- Tame at a place of the text; at all places that reading comes to. -/
def TameS (o : Csv.Opt) (s : Csv.Src) : Prop := (0 ≤ o.comma ∧ o.comma < 128) ∨
  ∀ n l s1, Csv.skip o n s = (some l, s1) → ∀ t, Reach o s1.numLine (Csv.St.init s1 l) t → t.quoted = none → (t.trimmed o).line.head? = some 34
def Tames (o : Csv.Opt) (rd : Csv.Rd) : Prop := ∀ k, TameS o (Nat.repeat (fun rd => (rd.read o).2.2) k rd).src
theorem Tames.here {o : Csv.Opt} {rd : Csv.Rd} (h : Tames o rd) : TameS o rd.src := h 0
theorem repeat_shift {α : Type} (f : α → α) : ∀ (k : Nat) (a : α), Nat.repeat f k (f a) = Nat.repeat f (k + 1) a
  | 0, _ => rfl
  | k + 1, a => by show f (Nat.repeat f k (f a)) = f (Nat.repeat f (k + 1) a); rw [repeat_shift f k a]
theorem Tames.next {o : Csv.Opt} {rd : Csv.Rd} (h : Tames o rd) : Tames o (rd.read o).2.2 := fun k => by rw [repeat_shift (fun rd : Csv.Rd => (rd.read o).2.2) k rd]; exact h (k + 1)
theorem Tames.ascii {o : Csv.Opt} (h : 0 ≤ o.comma ∧ o.comma < 128) (rd : Csv.Rd) : Tames o rd := fun _ => .inl h
theorem TameS.tame {c : CSt} (h : TameS c.opt (srcOf c)) : Tame c := h

theorem info_strs : (Tryz.prog.info? 36).map (fun i => (i.zero, i.size, i.bytes)) = some (some (.slice none 0 0), 1, 24) := by kernel_rfl
set_option maxRecDepth 100000 in
theorem append_rec (w : World) (B : Nat) (ty : TypeId) (v : Value) (vs : List Value) (hown : w.ownsRow B 36 1 v vs.length vs) (b o c : Nat) (A : Option Addr) (n k : Nat) (hm : w.cell? ⟨b, o, none⟩ = some (.slice A n k))
    (hlen : vs.length + 1 < 70368744177664 / 24) (hB : B ≤ w.heap.size) :
    ∃ v' w', (Builtin.append_ #[33, 33] ty #[v, .slice (some ⟨b, o, none⟩) 1 c]).run Tryz.prog w = .ok v' w' ∧ w'.ownsRow B 36 1 v' (vs ++ [Value.slice A n k]).length (vs ++ [Value.slice A n k]) ∧ w.grownBy w' v.ownBlock ∧ (v'.ownBlock = v.ownBlock ∨ v'.ownBlock = some w.heap.size) := by
  cases hi : Tryz.prog.info? 36 with
  | none => have := info_strs; rw [hi] at this; cases this
  | some i =>
    have h := info_strs
    rw [hi] at h
    simp only [Option.map_some, Option.some.injEq, Prod.mk.injEq] at h
    obtain ⟨hz, hs, hb⟩ := h
    obtain ⟨v', w', h1, h2, h3, h4, h5⟩ := run_append_own_at (P := Tryz.prog) w B 33 ty 36 i _ 1 24 Tryz.underlying33 hi hz hs hb rfl (by omega) v vs.length vs hown ⟨b, o, none⟩ 1 c [.slice A n k] (by simp)
      (fun j u hu => by
        rcases j with _ | j
        · simp at hu; subst hu; rw [Addr.add_mk]; exact hm
        · simp at hu)
      (fun u hu => by simp at hu; subst hu; rfl) (by simp only [maxLen]; omega) (by omega) hB
    exact ⟨v', w', h1, by simpa using h2, h3, h5⟩
/-- A slice of records: each element holds its strings. -/
structure RecsS (B : Nat) (w : World) (v : Value) (rss : List (List (List UInt8))) (vs : List Value) : Prop where
  row : w.ownsRow B 36 1 v rss.length vs
  len : vs.length = rss.length
  each : ∀ (i : Nat) (fs : List (List UInt8)), rss[i]? = some fs → ∃ u, vs[i]? = some u ∧ StrS B w u fs
theorem RecsS.nil (B : Nat) (w : World) : RecsS B w (.slice none 0 0) [] [] := ⟨⟨rfl, .inl ⟨rfl, rfl⟩⟩, rfl, fun i fs h => by simp at h⟩
/-- No block of a reader's has this type. -/
def farTypes (t : TypeId) : Bool := t != 66 && t != 163 && t != 5 && t != 61 && t != 3 && t != 128
theorem RInv.type_far {B : Nat} {G : Glob} {w : World} {c : CSt} {r : RSt} (h : RInv B G w c r) {g : Nat} {t : TypeId} {cs : Array Value} {fr : Nat × Nat} (hg : w.heap[g]? = some (.cells cs t fr)) (ht : farTypes t = true) : ¬ c.rown g := by
  unfold farTypes at ht
  simp only [Bool.and_eq_true, bne_iff_ne, ne_eq] at ht
  obtain ⟨⟨⟨⟨⟨d1, d2⟩, d3⟩, d4⟩, d5⟩, d6⟩ := ht
  have key : ∀ (u : TypeId) (ds : List Value), Blk w g u ds → t = u := fun u ds hb => by
    unfold Blk at hb
    rw [hg] at hb
    injection hb with hb
    injection hb with _ hb
  have key2 : ∀ (base : Nat) (e : TypeId) (size n : Nat) (v : Value) (xs : List Value), w.ownsRow base e size v n xs → v.ownBlock = some g → t = e := fun base e size n v xs hr ho => by
    rcases hr.2 with ⟨rfl, _⟩ | ⟨g', cap, cur, rfl, _, hh, _⟩
    · cases ho
    · have e1 : some g' = some g := ho
      injection e1 with e1
      subst e1
      rw [hg] at hh
      injection hh with hh
      injection hh with _ hh
  rintro ((rfl | (rfl | rfl | rfl) | hk) | hk | hk | hk)
  · exact d1 (key _ _ h.l.cr)
  · exact d2 (key _ _ h.l.b.rb)
  · exact d3 (key _ _ h.l.b.buf)
  · exact d4 (key _ _ h.l.b.src)
  · obtain ⟨l, hl⟩ := h.l.raw; exact d3 (key2 _ _ _ _ _ _ hl hk)
  · exact d3 (key2 _ _ _ _ _ _ h.rbuf hk)
  · exact d5 (key2 _ _ _ _ _ _ h.idx hk)
  · exact d6 (key2 _ _ _ _ _ _ h.pos hk)
theorem row_far {B : Nat} {G : Glob} {w : World} {c : CSt} {r : RSt} (h : RInv B G w c r) {base : Nat} {e : TypeId} {size n : Nat} {v : Value} {xs : List Value} (hr : w.ownsRow base e size v n xs) (ht : farTypes e = true) (k : Nat) (hk : v.ownBlock = some k) : ¬ c.rown k := by
  rcases hr.2 with ⟨rfl, _⟩ | ⟨g', cap, cur, rfl, _, hh, _⟩
  · cases hk
  · have e1 : some g' = some k := hk
    injection e1 with e1
    subst e1
    exact h.type_far hh ht
theorem RecsS.only {B : Nat} {w w' : World} {v : Value} {rss : List (List (List UInt8))} {vs : List Value} (h : RecsS B w v rss vs) {S : Nat → Prop} (hO : Only S w w') (h1 : ∀ k, v.ownBlock = some k → ¬ S k) (h2 : ∀ u ∈ vs, ∀ k, u.ownBlock = some k → ¬ S k) : RecsS B w' v rss vs :=
  ⟨ownsRow_only h.row hO h1, h.len, fun i fs hi => by
    obtain ⟨u, hu, hs⟩ := h.each i fs hi
    exact ⟨u, hu, hs.only hO (h2 u (List.mem_of_getElem? hu))⟩⟩
theorem RecsS.mem {B : Nat} {w : World} {v : Value} {rss : List (List (List UInt8))} {vs : List Value} (h : RecsS B w v rss vs) {u : Value} (hu : u ∈ vs) : ∃ fs, StrS B w u fs := by
  obtain ⟨i, hi⟩ := List.mem_iff_getElem?.1 hu
  have hl : i < vs.length := by
    rcases Nat.lt_or_ge i vs.length with h | h
    · exact h
    · rw [List.getElem?_eq_none h] at hi; cases hi
  obtain ⟨u', hu', hs⟩ := h.each i (rss[i]'(by rw [← h.len]; exact hl)) (List.getElem?_eq_getElem _)
  rw [hi] at hu'
  injection hu' with e
  subst e
  exact ⟨_, hs⟩
theorem RecsS.reader {B B' : Nat} {G : Glob} {w w' : World} {c : CSt} {r : RSt} {v : Value} {rss : List (List (List UInt8))} {vs : List Value} (h : RecsS B w v rss vs) (hi : RInv B' G w c r) (hO : Only c.rown w w') : RecsS B w' v rss vs :=
  h.only hO (row_far hi h.row (by decide)) (fun u hu k hk => by obtain ⟨fs, hs⟩ := h.mem hu; exact row_far hi hs (by decide) k hk)
end Go.Proofs.YtfadgnopfjajbaaGreatDoor
namespace Go.Proofs.YtfadgnopfjajbaaGreatDoor
open Go.RowKit
noncomputable def allBody : Code := (Tryz.f29.body).getD .skip
noncomputable def all0 : Code := part [false] allBody
set_option maxRecDepth 100000 in
theorem all_p0 (w : World) (l : List (Nat × Value)) (f : Nat → Value) :
    all0.wp Tryz.prog (NPost fun a w' => a = Fr 22 ((3, .nilIface) :: (2, .slice none 0 0) :: l) f ∧ w' = w) (Fr 22 l f) w := by
  dsimp only [all0, allBody, part, part.sub2', sub1, sub2, Tryz.f29, Option.getD]
  go_wp
  exact NPost.mk ⟨rfl, rfl⟩
noncomputable def all1 : Code := part [true, false, false, false, false] allBody
set_option maxRecDepth 100000 in
theorem all_p1 (B : Nat) (G : Glob) (w : World) (c : CSt) (r : RSt) (l : List (Nat × Value)) (f : Nat → Value) (hc : RInv B G w c r) (hsm : c.numLine + c.b.rest.length < 137438953472) (ht : Tame c) (h0 : lk l f 0 = .pointer (some ⟨c.cr, 0, none⟩)) :
    all1.wp Tryz.prog (NPost fun a w' => ∃ l' dv ev c' r', a = Fr 22 ((5, ev) :: (4, dv) :: l') f ∧ lk l' f 0 = lk l f 0 ∧ lk l' f 2 = lk l f 2 ∧ RecOut B G w c (.slice none 0 0) [] ((c.rd r).read c.opt) dv ev w' c' r') (Fr 22 l f) w := by
  dsimp only [all1, allBody, part, part.sub2', sub1, sub2, Tryz.f29, Option.getD]
  have cR := readRecord_any B G w c r (.slice none 0 0) 0 [] hc (.inl ⟨rfl, rfl, rfl⟩) hsm ht
  clear hc hsm ht
  go_wp
  refine cR.mono ?_
  rintro e w1 ⟨dv, ev, c', r', rfl, ho⟩
  dsimp only
  have HO := Lib.hid ho
  clear ho cR
  go_wp
  exact NPost.mk ⟨_, dv, ev, c', r', rfl, by simp [lk], by simp [lk], HO.out⟩
/-- Is it the end? -/
theorem eql_eof {B : Nat} {G : Glob} {w0 w : World} {ev : Value} {e : Csv.Fail} (hG : GInv B w G) (h : ErrOut G w0 w ev e) : (binOp .eql 70 ev (errVal G.eof)).run Tryz.prog w = .ok (.bool (e.kind == 1)) w := by
  rcases h with (⟨rfl, rfl⟩ | ⟨g, a, rfl, _, _, hk⟩) | ⟨rfl, rfl⟩ | ⟨rfl, rfl⟩
  · exact eql_nil_left _ _
  · have : (e.kind == 1) = false := by rw [beq_eq_false_iff_ne]; omega
    rw [this]
    exact run_eql_iface_types _ _ _ _ Tryz.underlying70 (by decide) w
  · exact eql_same _ _
  · exact eql_other hG.inval hG.eof (by decide)
noncomputable def all2 : Code := part [true, false, false, false, true, false] allBody
set_option maxRecDepth 100000 in
theorem all_p2 (w : World) (G : Glob) (l : List (Nat × Value)) (f : Nat → Value) (ev : Value) (b : Bool) (A : Option Addr) (n cp : Nat) (h5 : lk l f 5 = ev) (hv : ev = .nilIface ∨ ∃ t x, ev = .iface t x) (h2 : lk l f 2 = .slice A n cp) (hg : w.cell? ⟨0, 0, none⟩ = some (errVal G.eof)) (hq : (binOp .eql 70 ev (errVal G.eof)).run Tryz.prog w = .ok (.bool b) w) :
    all2.wp Tryz.prog (fun e a w' => w' = w ∧ ((e = .normal ∧ b = false ∧ ∃ l', a = Fr 22 l' f ∧ lk l' f 0 = lk l f 0 ∧ lk l' f 2 = .slice A n cp ∧ lk l' f 4 = lk l f 4 ∧ lk l' f 5 = ev) ∨ (e = .ret ∧ b = true ∧ ∃ l', a = Fr 22 ((3, .nilIface) :: (2, .slice A n cp) :: l') f))) (Fr 22 l f) w := by
  dsimp only [all2, allBody, part, part.sub2', sub1, sub2, Tryz.f29, Option.getD]
  rcases hv with rfl | ⟨t, x, rfl⟩
  · cases b
    · go_wp
      refine wp_if_false rfl (by simp [lk]) ?_
      refine wp_skip ?_
      exact ⟨rfl, .inl ⟨rfl, rfl, _, rfl, by simp [lk], by simp [lk, h2], by simp [lk], by simp [lk, h5]⟩⟩
    · go_wp
      refine wp_if_true rfl (by simp [lk]) ?_
      go_wp
      exact ⟨rfl, .inr ⟨rfl, rfl, _, rfl⟩⟩
  · cases b
    · go_wp
      refine wp_if_false rfl (by simp [lk]) ?_
      refine wp_skip ?_
      exact ⟨rfl, .inl ⟨rfl, rfl, _, rfl, by simp [lk], by simp [lk, h2], by simp [lk], by simp [lk, h5]⟩⟩
    · go_wp
      refine wp_if_true rfl (by simp [lk]) ?_
      go_wp
      exact ⟨rfl, .inr ⟨rfl, rfl, _, rfl⟩⟩
noncomputable def all4 : Code := part [true, false, false, false, true, true, false] allBody
set_option maxRecDepth 100000 in
theorem all_p4 (w : World) (l : List (Nat × Value)) (f : Nat → Value) (ev : Value) (h5 : lk l f 5 = ev) (hv : ev = .nilIface ∨ ∃ t x, ev = .iface t x) :
    all4.wp Tryz.prog (fun e a w' => w' = w ∧ ((e = .normal ∧ ev = .nilIface ∧ ∃ l', a = Fr 22 l' f ∧ lk l' f 0 = lk l f 0 ∧ lk l' f 2 = lk l f 2 ∧ lk l' f 4 = lk l f 4) ∨ (e = .ret ∧ ev ≠ .nilIface ∧ ∃ l', a = Fr 22 ((3, ev) :: (2, .slice none 0 0) :: l') f))) (Fr 22 l f) w := by
  dsimp only [all4, allBody, part, part.sub2', sub1, sub2, Tryz.f29, Option.getD]
  rcases hv with rfl | ⟨t, x, rfl⟩
  · go_wp
    refine wp_if_false rfl (by simp [lk]) ?_
    refine wp_skip ?_
    exact ⟨rfl, .inl ⟨rfl, rfl, _, rfl, by simp [lk], by simp [lk], by simp [lk]⟩⟩
  · go_wp
    refine wp_if_true rfl (by simp [lk]) ?_
    go_wp
    exact ⟨rfl, .inr ⟨rfl, (fun h => by cases h), _, rfl⟩⟩
noncomputable def all6 : Code := part [true, false, false, false, true, true, true] allBody
set_option maxRecDepth 100000 in
theorem all_p6 (w : World) (B : Nat) (l : List (Nat × Value)) (f : Nat → Value) (v : Value) (vs : List Value) (A : Option Addr) (n k : Nat) (h2 : lk l f 2 = v) (h4 : lk l f 4 = .slice A n k) (hown : w.ownsRow B 36 1 v vs.length vs) (hlen : vs.length + 1 < 70368744177664 / 24) (hB : B ≤ w.heap.size) :
    all6.wp Tryz.prog (NPost fun a w' => ∃ l' v', a = Fr 22 l' f ∧ lk l' f 0 = lk l f 0 ∧ lk l' f 2 = v' ∧ w'.ownsRow B 36 1 v' (vs ++ [Value.slice A n k]).length (vs ++ [Value.slice A n k]) ∧ Only (fun q => v.ownBlock = some q) w w' ∧ (v'.ownBlock = v.ownBlock ∨ ∃ g, v'.ownBlock = some g ∧ w.heap.size ≤ g)) (Fr 22 l f) w := by
  dsimp only [all6, allBody, part, part.sub2', sub1, sub2, Tryz.f29, Option.getD]
  have hb1 : Below w.heap.size w (w.alloc (.cells #[.slice A n k] 36)) := (Below.refl _ w).alloc (Nat.le_refl _) _
  have hown1 := ownsRow_only hown (Only.of_below hb1) (fun q hq s => by have := (own_lt hown hq).2; omega)
  obtain ⟨v', w', hrun, h1, h3, h4'⟩ := append_rec (w.alloc (.cells #[.slice A n k] 36)) B 33 v vs hown1 w.heap.size 0 1 A n k ((Blk.new_arr w 36 _).cell 0) hlen (Nat.le_trans hB hb1.size)
  have HF := Lib.hid (And.intro h1 (And.intro h3 (And.intro h4' hb1)))
  clear h1 h3 h4' hb1 hown1 hown
  refine region_split 3 ?_
  simp only [List.take_succ_cons, List.take_zero, List.drop_succ_cons, List.drop_zero]
  go_wp
  refine Stop.mk (wl_append _ _ _ rfl rfl (by rw [Fr_eval _ _ _ _ rfl]; simp only [lk]; rfl) (by rw [Fr_eval _ _ _ _ rfl]; simp only [lk]; rfl) hrun ?_)
  rw [Fr_put]
  clear hrun
  go_wp
  obtain ⟨h1, h3, h4', hb1⟩ := HF.out
  refine NPost.mk ⟨_, v', rfl, by simp [lk], by simp [lk], h1, ?_, own_new hb1.size h4'⟩
  exact ((Only.refl (fun q => v.ownBlock = some q) w).alloc _).grown h3 (fun q hq _ => hq)
theorem skip_left_le (o : Csv.Opt) : ∀ (n : Nat) (s : Csv.Src), (Csv.skip o n s).2.left.length ≤ s.left.length
  | 0, s => Nat.le_refl _
  | n + 1, s => by
    have h3 : s.next.left.length ≤ s.left.length := by
      show (Csv.rawLine s.left).2.length ≤ _
      have := (rawLine_len s.left).1
      omega
    unfold Csv.skip
    split
    · exact h3
    · split
      · exact Nat.le_trans (skip_left_le o n s.next) h3
      · exact h3
theorem read_left_le (o : Csv.Opt) (r : Csv.Rd) : (r.read o).2.2.src.left.length ≤ r.src.left.length := by
  cases h : (r.read o).1 with
  | some fs => exact Nat.le_of_lt (read_left h)
  | none =>
    unfold Csv.Rd.read at h ⊢
    split
    · exact Nat.le_refl _
    · rename_i hv
      rw [if_neg hv] at h
      have h1 := skip_left_le o (r.src.left.length + 1) r.src
      cases hs : Csv.skip o (r.src.left.length + 1) r.src with
      | mk a s1 =>
        rw [hs] at h h1
        cases a with
        | none => exact h1
        | some l => cases h
/-- What ReadAll leaves. -/
structure AllOut (B : Nat) (G : Glob) (w : World) (c : CSt) (res : List (List (List UInt8)) × Csv.Fail × Csv.Rd) (v ev : Value) (w' : World) (c' : CSt) (r' : RSt) : Prop where
  inv : RInv B G w' c' r'
  same : c' = { c with b := c'.b, raw := c'.raw, numLine := c'.numLine, offset := c'.offset, rbuf := c'.rbuf, idx := c'.idx, pos := c'.pos, expect := c'.expect }
  rd : c'.rd r' = res.2.2
  err : ErrOut G w w' ev res.2.1
  root : ∀ k, c'.rown k → c.rown k ∨ w.heap.size ≤ k
  small : c'.numLine + 2 * c'.b.rest.length ≤ c.numLine + 2 * c.b.rest.length + 1
  only : Only c.rown w w'
  recs : ∃ vs, RecsS w.heap.size w' v res.1 vs
theorem ErrOut.form {G : Glob} {w0 w : World} {ev : Value} {e : Csv.Fail} (h : ErrOut G w0 w ev e) : ev = .nilIface ∨ ∃ t x, ev = .iface t x := by
  rcases h with h | ⟨_, rfl⟩ | ⟨_, rfl⟩
  · rcases h.form with h | ⟨g, h⟩
    · exact .inl h
    · exact .inr ⟨_, _, h⟩
  · exact .inr ⟨_, _, rfl⟩
  · exact .inr ⟨_, _, rfl⟩
theorem ErrOut.kind {G : Glob} {w0 w : World} {ev : Value} {e : Csv.Fail} (h : ErrOut G w0 w ev e) : e.kind = 0 ↔ ev = .nilIface := by
  rcases h with h | ⟨rfl, rfl⟩ | ⟨rfl, rfl⟩
  · exact h.kind
  · exact ⟨(fun h => by cases h), (fun h => by cases h)⟩
  · exact ⟨(fun h => by cases h), (fun h => by cases h)⟩
theorem ErrOut.since {G : Glob} {w0 w1 w : World} {ev : Value} {e : Csv.Fail} (h : ErrOut G w1 w ev e) (hs : w0.heap.size ≤ w1.heap.size) : ErrOut G w0 w ev e := by
  rcases h with (h | ⟨g, a, h1, h2, h3⟩) | h | h
  · exact .inl (.inl h)
  · exact .inl (.inr ⟨g, a, h1, Nat.le_trans hs h2, h3⟩)
  · exact .inr (.inl h)
  · exact .inr (.inr h)
/-- While ReadAll reads. -/
structure AllIn (B : Nat) (G : Glob) (w : World) (c : CSt) (r : RSt) (w' : World) (c' : CSt) (r' : RSt) (acc : List (List (List UInt8))) (v : Value) (vs : List Value) : Prop where
  inv : RInv B G w' c' r'
  same : c' = { c with b := c'.b, raw := c'.raw, numLine := c'.numLine, offset := c'.offset, rbuf := c'.rbuf, idx := c'.idx, pos := c'.pos, expect := c'.expect }
  root : ∀ k, c'.rown k → c.rown k ∨ w.heap.size ≤ k
  small : c'.numLine + 2 * c'.b.rest.length ≤ c.numLine + 2 * c.b.rest.length
  only : Only c.rown w w'
  recs : RecsS w.heap.size w' v acc vs
  tame : Tames c.opt (c'.rd r')
  count : acc.length + c'.b.rest.length ≤ c.b.rest.length
  eq : ∃ n, c'.b.rest.length + 1 < n ∧ (c.rd r).all c.opt (c.b.rest.length + 2) [] = (c'.rd r').all c.opt n acc
set_option maxHeartbeats 1000000 in
theorem ReadAll_any (B : Nat) (G : Glob) (w : World) (c : CSt) (r : RSt) (hc : RInv B G w c r) (hsm : c.numLine + 2 * c.b.rest.length < 137438953472) (ht : Tames c.opt (c.rd r)) :
    Calls Tryz.prog 29 [.pointer (some ⟨c.cr, 0, none⟩)].toArray w fun e w' => ∃ v ev c' r', e = .returned (.tuple #[v, ev]) ∧ AllOut B G w c ((c.rd r).all c.opt (c.b.rest.length + 2) []) v ev w' c' r' := by
  refine enter 22 Tryz.func29 rfl rfl (by simp) ?_
  refine seq_part (x := all0) (all_p0 w _ _) ?_
  rintro a w0 ⟨rfl, rfl⟩
  refine wp_block ?_
  refine wp_loop_n (fun k a w' => ∃ l c' r' acc v vs, a = Fr 22 l (fun _ => undef) ∧ lk l (fun _ => undef) 0 = .pointer (some ⟨c.cr, 0, none⟩) ∧ lk l (fun _ => undef) 2 = v ∧ AllIn B G w0 c r w' c' r' acc v vs ∧ k = c'.b.rest.length) c.b.rest.length
    ⟨_, c, r, [], .slice none 0 0, [], rfl, rfl, rfl, ⟨hc, rfl, fun _ h => .inl h, Nat.le_refl _, Only.refl _ _, RecsS.nil _ _, ht, by simp, _, by omega, rfl⟩, rfl⟩ ?_
  rintro k a w1 ⟨l, c1, r1, acc, v, vs, rfl, h0, h2, hI, rfl⟩
  have ecr : c1.cr = c.cr := by rw [hI.same]
  have eopt : c1.opt = c.opt := by rw [hI.same]; rfl
  refine wp_block ?_
  have hsm1 := hI.small
  have htame : Tame c1 := by
    have h := hI.tame.here
    rw [← eopt] at h
    exact h
  refine seq_part (x := all1) (all_p1 B G w1 c1 r1 l _ hI.inv (by omega) htame (by rw [ecr]; exact h0)) ?_
  rintro a w2 ⟨l2, dv, ev, c2, r2, rfl, k0, k2, ho⟩
  rw [eopt] at ho
  obtain ⟨n, hn, heq⟩ := hI.eq
  obtain ⟨n, rfl⟩ : ∃ n', n = n' + 1 := ⟨n - 1, by omega⟩
  obtain ⟨rs, fl, rd', hread⟩ : ∃ rs fl rd', (c1.rd r1).read c.opt = (rs, fl, rd') := ⟨_, _, _, rfl⟩
  have hall : (c1.rd r1).all c.opt (n + 1) acc = if fl.kind = 1 then (acc, Csv.Fail.none, rd') else if fl.kind ≠ 0 then ([], fl, rd') else rd'.all c.opt n (acc ++ [rs.getD []]) := by
    conv => lhs; unfold Csv.Rd.all
    rw [hread]
  have hOnly2 : Only c1.rown w1 w2 := by
    rcases ho.out with ⟨_, _, h⟩ | ⟨fs, _, _, _, h⟩
    · exact h
    · exact h.mono (fun k _ h => h.elim id (fun h => by cases h.1))
  have hO2 : Only c.rown w0 w2 := hI.only.trans hOnly2 (fun k hk o => (hI.root k o).elim id (fun h => by omega))
  have hroot2 : ∀ k, c2.rown k → c.rown k ∨ w0.heap.size ≤ k := fun k hk => (ho.root k hk).elim (hI.root k) (fun h => .inr (Nat.le_trans hI.only.size h))
  have hrec2 : RecsS w0.heap.size w2 v acc vs := hI.recs.reader hI.inv hOnly2
  have hsame2 : c2 = { c with b := c2.b, raw := c2.raw, numLine := c2.numLine, offset := c2.offset, rbuf := c2.rbuf, idx := c2.idx, pos := c2.pos, expect := c2.expect } := by
    have h1 := ho.same
    rw [hI.same] at h1
    exact h1
  rw [hread] at ho
  have hrd : c2.rd r2 = rd' := ho.rd
  have herr2 : ErrOut G w0 w2 ev fl := ho.err.since hI.only.size
  have hsm2 := ho.small
  have hrest2 : rs ≠ none → c2.b.rest.length < c1.b.rest.length := fun hne => by
    cases hrs : rs with
    | none => exact absurd hrs hne
    | some fs =>
      have h1 := read_left (o := c.opt) (r := c1.rd r1) (fs := fs) (by rw [hread]; exact hrs)
      rw [hread] at h1
      have h2 : c2.b.rest = rd'.src.left := by rw [← hrd]; rfl
      rw [h2]; exact h1
  have hrest2' : c2.b.rest.length ≤ c1.b.rest.length := by
    cases hrs : rs with
    | some fs => exact Nat.le_of_lt (hrest2 (by rw [hrs]; simp))
    | none =>
      have h1 := read_left_le c.opt (c1.rd r1)
      rw [hread] at h1
      have h2 : c2.b.rest = rd'.src.left := by rw [← hrd]; rfl
      rw [h2]; exact h1
  obtain ⟨A, n2, cp, hv⟩ : ∃ A n c, v = .slice A n c := by
    obtain ⟨A, cp, h, _⟩ := ownsRow_form hI.recs.row
    exact ⟨_, _, _, h⟩
  have q2 : lk ((5, ev) :: (4, dv) :: l2) (fun _ => undef) 2 = .slice A n2 cp := by rw [lk_ne _ _ _ _ _ rfl, lk_ne _ _ _ _ _ rfl, k2, h2, hv]
  refine wp_seq (wp_mono (all_p2 w2 G _ _ ev (fl.kind == 1) A n2 cp (lk_same _ _ _ _) herr2.form q2 ho.inv.l.glob.eof.var (eql_eof ho.inv.l.glob herr2)) ?_)
  rintro e a w3 ⟨rfl, ⟨rfl, hb, l3, rfl, m0, m2, m4, m5⟩ | ⟨rfl, hb, l3, rfl⟩⟩
  · have hk1 : fl.kind ≠ 1 := by simpa using hb
    refine wp_seq (wp_mono (all_p4 w3 _ _ ev m5 herr2.form) ?_)
    rintro e a w4 ⟨rfl, ⟨rfl, hnil, l4, rfl, n0, nn2, n4⟩ | ⟨rfl, hnn, l4, rfl⟩⟩
    · have hk0 : fl.kind = 0 := herr2.kind.2 hnil
      obtain ⟨fs, hrs⟩ : ∃ fs, rs = some fs := by
        cases hrs : rs with
        | some fs => exact ⟨fs, rfl⟩
        | none =>
          have h1 := read_none (o := c.opt) (r := c1.rd r1) (by rw [hread]; exact hrs)
          rw [hread] at h1
          simp only at h1
          omega
      have hlt := hrest2 (by rw [hrs]; simp)
      rcases ho.out with ⟨h1, _⟩ | ⟨fs', h1, hdst, hfl, _⟩
      · rw [hrs] at h1; cases h1
      have hfs : fs' = fs := by simp only [hrs] at h1; injection h1 with h1; exact h1.symm
      subst hfs
      have hdv : ∃ A' n' k', dv = .slice A' n' k' := by obtain ⟨A', cp', h⟩ := hdst.form; exact ⟨_, _, _, h⟩
      obtain ⟨A', n', k', hdv⟩ := hdv
      have hStr : StrS w0.heap.size w4 dv fs' := by
        rcases hdst with ⟨_, g, h, hg, hb⟩ | ⟨hle, ⟨h, h2, h3⟩ | ⟨g, h, _⟩, hob⟩
        · have := StrS.of_blk (B := w0.heap.size) (n := fs'.length) hb (Nat.le_trans hI.only.size hg) (Nat.le_refl _) (by simp only [maxLen]; omega)
          rw [List.take_length] at this
          rw [h]; exact this
        · have : fs' = [] := List.eq_nil_of_length_eq_zero h2
          rw [this, h]; exact StrS.nil _ _
        · rw [h] at hob; cases hob
      have hln := hrec2.len
      have hcnt := hI.count
      refine last_part (x := all6) (all_p6 w4 w0.heap.size _ _ v vs A' n' k' (by rw [nn2, m2, hv]) (by rw [n4, m4, lk_ne _ _ _ _ _ rfl, lk_same, hdv]) (by rw [hln]; exact hrec2.row) (by omega) hO2.size) ?_
      rintro a w5 ⟨l5, v5, rfl, p0, p2, hrow5, hO5, hv5⟩
      have hrowfar := row_far ho.inv hrec2.row (by decide)
      have hdvfar : ∀ k, dv.ownBlock = some k → v.ownBlock ≠ some k := fun k hk => rows_ne hStr hrec2.row (by decide) hk
      have hInv5 : RInv B G w5 c2 r2 := ho.inv.only hO5 (fun k hk => ⟨Nat.le_trans hc.l.size (own_lt hrec2.row hk).1, hrowfar k hk⟩)
      refine ⟨c2.b.rest.length, by omega, l5, c2, r2, acc ++ [fs'], v5, vs ++ [.slice A' n' k'], rfl, ?_, p2, ⟨hInv5, hsame2, hroot2, by omega, ?_, ⟨?_, ?_, ?_⟩, ?_, ?_, n, by omega, ?_⟩, rfl⟩
      · rw [p0, n0, m0, lk_ne _ _ _ _ _ rfl, lk_ne _ _ _ _ _ rfl, k0]; exact h0
      · exact hO2.trans hO5 (fun k hk h => by have := (own_lt hrec2.row h).1; omega)
      · have e1 : (acc ++ [fs']).length = (vs ++ [Value.slice A' n' k']).length := by simp [hln]
        rw [e1]; exact hrow5
      · simp [hln]
      · intro i x hx
        rcases Nat.lt_or_ge i acc.length with h | h
        · rw [List.getElem?_append_left h] at hx
          obtain ⟨u, hu, hs⟩ := hrec2.each i x hx
          exact ⟨u, by rw [List.getElem?_append_left (by omega)]; exact hu, hs.only hO5 (fun k hk => rows_ne hs hrec2.row (by decide) hk)⟩
        · rw [List.getElem?_append_right h] at hx
          have hi0 : i - acc.length = 0 := by
            rcases Nat.eq_zero_or_pos (i - acc.length) with h' | h'
            · exact h'
            · rw [List.getElem?_eq_none (by simp; omega)] at hx; cases hx
          rw [hi0] at hx
          simp at hx
          subst hx
          refine ⟨_, by rw [List.getElem?_append_right (by omega), hln, hi0]; rfl, ?_⟩
          rw [← hdv]
          exact hStr.only hO5 hdvfar
      · rw [hrd, ← show ((c1.rd r1).read c.opt).2.2 = rd' by rw [hread]]
        exact hI.tame.next
      · simp; omega
      · rw [heq, hall, if_neg hk1, if_neg (by omega), hrd, hrs]
        rfl
    · simp only [Exit.then, Exit.inBlock]
      refine ret2 rfl rfl rfl ⟨_, _, c2, r2, rfl, ?_⟩
      have hk0 : fl.kind ≠ 0 := fun h => hnn (herr2.kind.1 h)
      rw [heq, hall, if_neg hk1, if_pos hk0]
      refine ⟨ho.inv, hsame2, hrd, ?_, hroot2, by show c2.numLine + 2 * c2.b.rest.length ≤ _; omega, hO2, [], ?_⟩
      · simpa [lk] using herr2
      · simpa [lk] using RecsS.nil _ _
  · have hk1 : fl.kind = 1 := by simpa using hb
    simp only [Exit.then, Exit.inBlock]
    refine ret2 rfl rfl rfl ⟨_, _, c2, r2, rfl, ?_⟩
    rw [heq, hall, if_pos hk1]
    refine ⟨ho.inv, hsame2, hrd, .inl (.inl ⟨rfl, by simp [lk]⟩), hroot2, by show c2.numLine + 2 * c2.b.rest.length ≤ _; omega, hO2, vs, ?_⟩
    simp only [lk_same, lk_ne _ _ _ _ _ (show ((2 : Nat) == 3) = false from rfl)]
    rw [← hv]
    exact hrec2
end Go.Proofs.YtfadgnopfjajbaaGreatDoor
namespace Go.Proofs.YtfadgnopfjajbaaGreatDoor
open Go.RowKit
def zeros : List UInt8 := List.replicate 4096 0
set_option maxRecDepth 100000 in
theorem make_buf (w : World) : (Instr.makeSlice 63 (.int .i64 4096) (.int .i64 4096)).run Tryz.prog w = .ok (.slice (some ⟨w.heap.size, 0, none⟩) 4096 4096) (w.alloc (.cells (zeros.map b8).toArray 5)) := by
  cases hi : Tryz.prog.info? 5 with
  | none => have := info_u8; rw [hi] at this; cases this
  | some i =>
    have h := info_u8
    rw [hi] at h
    simp only [Option.map_some, Option.some.injEq, Prod.mk.injEq] at h
    obtain ⟨hz, hs, hb⟩ := h
    have hr := run_make (P := Tryz.prog) w 63 5 i _ Tryz.underlying63 hi hz .i64 .i64 4096 4096 (by decide) (by decide) (by rw [hb]; decide) (by decide)
    rw [hr, hs]
    have e1 : (4096 : Int).toNat = 4096 := rfl
    rw [e1, Nat.mul_one]
    congr 2
    have e : (Value.int .u8 0).cells = #[b8 0] := rfl
    rw [e]
    congr 1
    apply Array.toList_inj.1
    rw [toList_madeCells_one]
    unfold zeros
    rw [List.map_replicate]
theorem reset_any (rb : Nat) (bv rv : Value) (cs : List Value) (w : World) (h : Blk w rb 163 cs) (hl : cs.length = 7) (A : Addr) (n c : Nat) (hbv : bv = .slice (some A) n c) (t : TypeId) (x : Value) (hrv : rv = .iface t x) :
    Calls Tryz.prog 97 [.pointer (some ⟨rb, 0, none⟩), bv, rv].toArray w fun e w' => e = .returned (.tuple #[]) ∧ Only (fun k => k = rb) w w' ∧ Blk w' rb 163 [bv, rv, .int .i64 0, .int .i64 0, .nilIface, .int .i64 (-1), .int .i64 (-1)] := by
  subst hbv hrv
  match cs, hl with
  | [x0, x1, x2, x3, x4, x5, x6], _ =>
    have hc := h.cell
    have hz := h.frozen
    have HB := Lib.hid h
    clear h
    refine enter 11 Tryz.func97 rfl rfl (by simp) ?_
    go_wp
    refine end0 rfl ⟨rfl, ?_, ?_⟩
    · exact (((((((Only.refl (fun k => k = rb) w).setCell (p := ⟨rb, 0, none⟩) (fun _ => rfl) _).setCell (p := ⟨rb, 1, none⟩) (fun _ => rfl) _).setCell (p := ⟨rb, 2, none⟩) (fun _ => rfl) _).setCell (p := ⟨rb, 3, none⟩) (fun _ => rfl) _).setCell (p := ⟨rb, 4, none⟩) (fun _ => rfl) _).setCell (p := ⟨rb, 5, none⟩) (fun _ => rfl) _).setCell (p := ⟨rb, 6, none⟩) (fun _ => rfl) _
    · exact ((((((HB.out.set 0 _).set 1 _).set 2 _).set 3 _).set 4 _).set 5 _).set 6 _
theorem noBufio (v : Value) (xT : TypeId) (w : World) : (Instr.typeAssert (.iface 59 v) xT 62 true).run Tryz.prog w = .ok (.tuple #[.pointer none, .bool false]) w := by kernel_rfl
set_option maxRecDepth 100000 in
theorem NewReaderSize_any (s : Nat) (w : World) : Calls Tryz.prog 68 [.iface 59 (.pointer (some ⟨s, 0, none⟩)), .int .i64 4096].toArray w fun e w' =>
    e = .returned (.pointer (some ⟨w.heap.size, 0, none⟩)) ∧ Below w.heap.size w w' ∧ Blk w' w.heap.size 163 [.slice (some ⟨w.heap.size + 1, 0, none⟩) 4096 4096, .iface 59 (.pointer (some ⟨s, 0, none⟩)), .int .i64 0, .int .i64 0, .nilIface, .int .i64 (-1), .int .i64 (-1)] ∧ Blk w' (w.heap.size + 1) 5 (zeros.map b8) := by
  have hnb := noBufio
  obtain ⟨o0, ho0⟩ : ∃ o0 : List Value, o0 = [.slice none 0 0, .nilIface, .int .i64 0, .int .i64 0, .nilIface, .int .i64 0, .int .i64 0] := ⟨_, rfl⟩
  have hmk := make_buf (w.alloc (.cells o0.toArray 163))
  have hb0 : Blk ((w.alloc (.cells o0.toArray 163)).alloc (.cells (zeros.map b8).toArray 5)) w.heap.size 163 o0 := (Blk.new w _ _).alloc _
  have hz0 : Blk ((w.alloc (.cells o0.toArray 163)).alloc (.cells (zeros.map b8).toArray 5)) (w.heap.size + 1) 5 (zeros.map b8) := by
    have := Blk.new (w.alloc (.cells o0.toArray 163)) 5 (zeros.map b8)
    simpa using this
  have hbel : Below w.heap.size w ((w.alloc (.cells o0.toArray 163)).alloc (.cells (zeros.map b8).toArray 5)) := ((Below.refl _ w).alloc (Nat.le_refl _) _).alloc (by simp) _
  have hsz : (w.alloc (.cells o0.toArray 163)).heap.size = w.heap.size + 1 := by simp
  have cR := reset_any w.heap.size (.slice (some ⟨w.heap.size + 1, 0, none⟩) 4096 4096) (.iface 59 (.pointer (some ⟨s, 0, none⟩))) o0 _ hb0 (by rw [ho0]; rfl) _ _ _ rfl _ _ rfl
  rw [hsz] at hmk
  generalize zeros.map b8 = zs at hmk cR hz0 hbel hb0 ⊢
  subst ho0
  have HF := Lib.hid (And.intro hz0 hbel)
  have hmax : max (4096 : Int) 16 = 4096 := by decide
  clear hb0 hz0 hbel hsz
  refine enter 32 Tryz.func68 rfl rfl (by simp) ?_
  go_wp
  refine wp_if_false rfl (by simp [lk]) ?_
  go_wp
  refine cR.mono ?_
  rintro e w1 ⟨rfl, hO, hb⟩
  dsimp only
  have HB := Lib.hid (And.intro hO hb)
  clear hO hb cR hmk hnb
  go_wp
  obtain ⟨hO, hb⟩ := HB.out
  obtain ⟨hz0, hbel⟩ := HF.out
  refine ret1 rfl rfl ⟨by simp [lk], hbel.trans (hO.below hbel.size (fun k hk => by subst hk; exact Nat.le_refl _)), hb, hz0.only hO (by omega)⟩
set_option maxRecDepth 100000 in
theorem NewReader_any (s : Nat) (w : World) : Calls Tryz.prog 25 [.iface 59 (.pointer (some ⟨s, 0, none⟩))].toArray w fun e w' => ∃ cr rb buf,
    e = .returned (.pointer (some ⟨cr, 0, none⟩)) ∧ Below w.heap.size w w' ∧ w.heap.size ≤ cr ∧ w.heap.size ≤ rb ∧ w.heap.size ≤ buf ∧ Blk w' rb 163 [.slice (some ⟨buf, 0, none⟩) 4096 4096, .iface 59 (.pointer (some ⟨s, 0, none⟩)), .int .i64 0, .int .i64 0, .nilIface, .int .i64 (-1), .int .i64 (-1)] ∧ Blk w' buf 5 (zeros.map b8) ∧
      Blk w' cr 66 [.int .i32 44, .int .i32 0, .int .i64 0, .bool false, .bool false, .bool false, .bool false, .pointer (some ⟨rb, 0, none⟩), .int .i64 0, .int .i64 0, .slice none 0 0, .slice none 0 0, .slice none 0 0, .slice none 0 0, .slice none 0 0] := by
  have cS := NewReaderSize_any s w
  have cB : Calls Tryz.prog 50 [.iface 59 (.pointer (some ⟨s, 0, none⟩))].toArray w fun e w' =>
    e = .returned (.pointer (some ⟨w.heap.size, 0, none⟩)) ∧ Below w.heap.size w w' ∧ Blk w' w.heap.size 163 [.slice (some ⟨w.heap.size + 1, 0, none⟩) 4096 4096, .iface 59 (.pointer (some ⟨s, 0, none⟩)), .int .i64 0, .int .i64 0, .nilIface, .int .i64 (-1), .int .i64 (-1)] ∧ Blk w' (w.heap.size + 1) 5 (zeros.map b8) := by
    refine enter 5 Tryz.func50 rfl rfl (by simp) ?_
    go_wp
    refine cS.mono ?_
    rintro e w1 ⟨rfl, h⟩
    dsimp only
    have H := Lib.hid h
    clear h cS
    go_wp
    exact ret1 rfl rfl ⟨by simp [lk], H.out⟩
  clear cS
  refine enter 7 Tryz.func25 rfl rfl (by simp) ?_
  go_wp
  refine cB.mono ?_
  rintro e w1 ⟨rfl, h⟩
  dsimp only
  have H := Lib.hid h
  clear h cB
  go_wp
  obtain ⟨h1, h2, h3⟩ := H.out
  refine ret1 rfl rfl ⟨w1.heap.size, w.heap.size, w.heap.size + 1, by simp [lk], ?_, h1.size, Nat.le_refl _, by omega, h2.alloc _, h3.alloc _, Blk.new_arr w1 _ _⟩
  exact h1.alloc h1.size _
end Go.Proofs.YtfadgnopfjajbaaGreatDoor
namespace Go.Proofs.YtfadgnopfjajbaaGreatDoor
open Go.RowKit
/-- A value's block is none of M's. -/
def Away (M : Nat → Prop) (v : Value) : Prop := ∀ k, v.ownBlock = some k → ¬ M k
theorem Away.nil (M : Nat → Prop) : Away M (.slice none 0 0) := fun k h => by cases h
/-- The blocks of M were written, and new ones may have joined. -/
structure Turns (M : Nat → Prop) (w : World) (M' : Nat → Prop) (w' : World) : Prop where
  only : Only M w w'
  root : ∀ k, M' k → M k ∨ w.heap.size ≤ k
section
variable {M M' M'' : Nat → Prop} {w w' w'' : World} {B : Nat}
theorem Turns.refl (M : Nat → Prop) (w : World) : Turns M w M w := ⟨Only.refl _ _, fun _ h => .inl h⟩
theorem Turns.trans (h : Turns M w M' w') (h' : Turns M' w' M'' w'') : Turns M w M'' w'' :=
  ⟨h.only.trans h'.only (fun k hk m => (h.root k m).elim id (fun h => by omega)), fun k hk => (h'.root k hk).elim (h.root k) (fun h1 => .inr (Nat.le_trans h.only.size h1))⟩
theorem Turns.below (hb : Below w.heap.size w w') : Turns M w M w' := ⟨(Only.of_below hb).mono (fun k hk h => absurd hk (by omega)), fun _ h => .inl h⟩
theorem Away.turn {v : Value} (h : Away M v) (hv : ∀ k, v.ownBlock = some k → k < w.heap.size) (ht : Turns M w M' w') : Away M' v := fun k hk hm => (ht.root k hm).elim (h k hk) (fun h1 => by have := hv k hk; omega)
theorem StrS.turn {v : Value} {fs : List (List UInt8)} (h : StrS B w v fs) (ha : Away M v) (ht : Turns M w M' w') : StrS B w' v fs ∧ Away M' v := ⟨h.only ht.only ha, ha.turn (fun k hk => (own_lt h hk).2) ht⟩
theorem RecsS.turn {v : Value} {rss : List (List (List UInt8))} {vs : List Value} (h : RecsS B w v rss vs) (ha : Away M v) (hv : ∀ u ∈ vs, Away M u) (ht : Turns M w M' w') : RecsS B w' v rss vs ∧ Away M' v ∧ ∀ u ∈ vs, Away M' u :=
  ⟨h.only ht.only ha hv, ha.turn (fun k hk => (own_lt h.row hk).2) ht, fun u hu => by
    obtain ⟨fs, hs⟩ := h.mem hu
    exact (hv u hu).turn (fun k hk => (own_lt hs hk).2) ht⟩
end
/-- An answer in memory. -/
structure AnsAt (B : Nat) (w : World) (M : Nat → Prop) (cells : List Value) (a : Csv.Ans) : Prop where
  form : ∃ rv lv sv vs, cells = ansCells rv lv sv a.fail.kind a.fail.start a.fail.line a.fail.col a.line a.col a.panicked a.n ∧ StrS B w rv a.record ∧ Away M rv ∧ StrS B w lv a.later ∧ Away M lv ∧ RecsS B w sv a.records vs ∧ Away M sv ∧ ∀ u ∈ vs, Away M u
theorem AnsAt.turn {B : Nat} {w w' : World} {M M' : Nat → Prop} {cells : List Value} {a : Csv.Ans} (h : AnsAt B w M cells a) (ht : Turns M w M' w') : AnsAt B w' M' cells a := by
  obtain ⟨rv, lv, sv, vs, h1, h2, h3, h4, h5, h6, h7, h8⟩ := h.form
  obtain ⟨a1, a2⟩ := h2.turn h3 ht
  obtain ⟨b1, b2⟩ := h4.turn h5 ht
  obtain ⟨c1, c2, c3⟩ := h6.turn h7 h8 ht
  exact ⟨rv, lv, sv, vs, h1, a1, a2, b1, b2, c1, c2, c3⟩
/-- The value of a slice of a record's array. -/
def refV (gs : List Nat) (arrays : List (List (List UInt8))) : Csv.Ref → Value
  | none => .slice none 0 0
  | some (i, n) => .slice (some ⟨gs.getD i 0, 0, none⟩) n (arrays.getD i []).length
/-- Such a slice lies in its array. -/
def refOk (arrays : List (List (List UInt8))) : Csv.Ref → Prop
  | none => True
  | some (i, n) => i < arrays.length ∧ n ≤ (arrays.getD i []).length
/-- The records' arrays. -/
structure Arrs (B : Nat) (w : World) (gs : List Nat) (arrays : List (List (List UInt8))) : Prop where
  len : gs.length = arrays.length
  blk : ∀ (i g : Nat) (arr : List (List UInt8)), gs[i]? = some g → arrays[i]? = some arr → Blk w g 9 (arr.map strV) ∧ B ≤ g ∧ arr.length < 268435456
  nodup : gs.Nodup
/-- The blocks that a script's calls may write. -/
def Mut (c : CSt) (gs : List Nat) (kb : Nat) (av : Value) (k : Nat) : Prop := c.rown k ∨ k ∈ gs ∨ k = kb ∨ av.ownBlock = some k
/-- Between two calls. -/
structure SInv (B : Nat) (G : Glob) (w : World) (n : Nat) (c : CSt) (r : RSt) (gs : List Nat) (kb : Nat) (av : Value) (s : Csv.Ses) : Prop where
  inv : RInv B G w c r
  rd : c.rd r = s.rd
  cache : c.last = refV gs s.arrays s.cache
  reuse : c.reuse = false → s.cache = none
  arrs : Arrs B w gs s.arrays
  okLast : refOk s.arrays s.last
  okCache : refOk s.arrays s.cache
  okKept : ∀ x ∈ s.kept, refOk s.arrays x
  kept : Blk w kb 36 ((s.kept.map (refV gs s.arrays)) ++ List.replicate (n - s.kept.length) (.slice none 0 0))
  keptB : B ≤ kb
  keptN : s.kept.length ≤ n
  ans : ∃ css : List (List Value), w.ownsRow B 53 11 av s.answers.length css.flatten ∧ css.length = s.answers.length ∧ ∀ (i : Nat) (cs : List Value) (a : Csv.Ans), css[i]? = some cs → s.answers[i]? = some a → AnsAt B w (Mut c gs kb av) cs a
  same : s.kept.length = s.answers.length
  ety : ETy B w
theorem deref_str {B : Nat} {w : World} {gs : List Nat} {arrays : List (List (List UInt8))} (h : Arrs B w gs arrays) (x : Csv.Ref) (hx : refOk arrays x) : StrS B w (refV gs arrays x) (Csv.deref arrays x) := by
  cases x with
  | none => exact StrS.nil _ _
  | some p =>
    obtain ⟨i, n⟩ := p
    obtain ⟨h1, h2⟩ := hx
    have hg : gs[i]? = some (gs.getD i 0) := by rw [List.getD_eq_getElem?_getD, List.getElem?_eq_getElem (by rw [h.len]; exact h1)]; rfl
    have ha : arrays[i]? = some (arrays.getD i []) := by rw [List.getD_eq_getElem?_getD, List.getElem?_eq_getElem h1]; rfl
    obtain ⟨hb, hB, hl⟩ := h.blk i _ _ hg ha
    exact StrS.of_blk hb hB h2 (by simp only [maxLen]; omega)
end Go.Proofs.YtfadgnopfjajbaaGreatDoor
namespace Go.Proofs.YtfadgnopfjajbaaGreatDoor
open Go.RowKit
/-- The array that Read is handed. -/
def arrOf (s : Csv.Ses) (reuse : Bool) : List (List UInt8) := match (if reuse then s.cache else none) with
  | none => []
  | some (i, _) => s.arrays.getD i []
theorem Mut.turn {c c' : CSt} {gs gs' : List Nat} {kb : Nat} {av : Value} {w w' : World} (hO : Only (Mut c gs kb av) w w') (hr : ∀ k, c'.rown k → c.rown k ∨ w.heap.size ≤ k) (hg : ∀ k ∈ gs', k ∈ gs ∨ w.heap.size ≤ k) : Turns (Mut c gs kb av) w (Mut c' gs' kb av) w' := by
  refine ⟨hO, ?_⟩
  rintro k (h | h | h | h)
  · exact (hr k h).imp .inl id
  · exact (hg k h).imp (fun h => .inr (.inl h)) id
  · exact .inl (.inr (.inr (.inl h)))
  · exact .inl (.inr (.inr (.inr h)))
theorem refV_ext {gs gs' : List Nat} {arrays arrays' : List (List (List UInt8))} (hl : gs.length = arrays.length) (hg : ∀ i, i < gs.length → gs'.getD i 0 = gs.getD i 0) (ha : ∀ i, i < arrays.length → (arrays'.getD i []).length = (arrays.getD i []).length) (x : Csv.Ref) (hx : refOk arrays x) : refV gs' arrays' x = refV gs arrays x := by
  cases x with
  | none => rfl
  | some p =>
    obtain ⟨i, n⟩ := p
    obtain ⟨h1, _⟩ := hx
    show Value.slice (some ⟨gs'.getD i 0, 0, none⟩) n (arrays'.getD i []).length = Value.slice (some ⟨gs.getD i 0, 0, none⟩) n (arrays.getD i []).length
    rw [hg i (by omega), ha i h1]
theorem refOk_ext {arrays arrays' : List (List (List UInt8))} (hl : arrays.length ≤ arrays'.length) (ha : ∀ i, i < arrays.length → (arrays'.getD i []).length = (arrays.getD i []).length) (x : Csv.Ref) (hx : refOk arrays x) : refOk arrays' x := by
  cases x with
  | none => trivial
  | some p =>
    obtain ⟨i, n⟩ := p
    obtain ⟨h1, h2⟩ := hx
    exact ⟨by omega, by rw [ha i h1]; exact h2⟩
section
variable {B : Nat} {G : Glob} {w w' : World} {n : Nat} {c c' : CSt} {r r' : RSt} {gs gs' : List Nat} {kb : Nat} {av : Value} {s : Csv.Ses}
/-- The state goes on: the arrays keep their blocks and lengths. -/
theorem SInv.go (h : SInv B G w n c r gs kb av s) (hi : RInv B G w' c' r') (ht : Turns (Mut c gs kb av) w (Mut c' gs' kb av) w') (hkb : Blk w' kb 36 ((s.kept.map (refV gs s.arrays)) ++ List.replicate (n - s.kept.length) (.slice none 0 0)))
    (hav : ∀ k, av.ownBlock = some k → w'.heap[k]? = w.heap[k]?) (hB : Below B w w') (arrays' : List (List (List UInt8))) (last' cache' : Csv.Ref) (hA : Arrs B w' gs' arrays') (hl : s.arrays.length ≤ arrays'.length) (hg : ∀ i, i < gs.length → gs'.getD i 0 = gs.getD i 0)
    (ha : ∀ i, i < s.arrays.length → (arrays'.getD i []).length = (s.arrays.getD i []).length) (h1 : refOk arrays' last') (h2 : refOk arrays' cache') (hc : c'.last = refV gs' arrays' cache') (hre : c'.reuse = false → cache' = none) :
    SInv B G w' n c' r' gs' kb av { s with rd := c'.rd r', arrays := arrays', last := last', cache := cache' } := by
  have hm : s.kept.map (refV gs' arrays') = s.kept.map (refV gs s.arrays) := List.map_congr_left (fun x hx => refV_ext h.arrs.len hg ha x (h.okKept x hx))
  obtain ⟨css, a1, a2, a3⟩ := h.ans
  refine ⟨hi, rfl, hc, hre, hA, h1, h2, fun x hx => refOk_ext hl ha x (h.okKept x hx), ?_, h.keptB, h.keptN, ⟨css, ?_, a2, fun i cs a e1 e2 => (a3 i cs a e1 e2).turn ht⟩, h.same, h.ety.keep hB⟩
  · show Blk w' kb 36 (s.kept.map (refV gs' arrays') ++ _)
    rw [hm]; exact hkb
  · refine ⟨a1.1, ?_⟩
    rcases a1.2 with hn | ⟨g, cap, cur, e1, e2, e3, e4⟩
    · exact .inl hn
    · exact .inr ⟨g, cap, cur, e1, e2, (hav g (by rw [e1]; rfl)).trans e3, e4⟩
theorem SInv.size (h : SInv B G w n c r gs kb av s) : B ≤ w.heap.size := h.inv.l.size
theorem SInv.kb_far (h : SInv B G w n c r gs kb av s) : ¬ c.rown kb ∧ kb ∉ gs ∧ av.ownBlock ≠ some kb := by
  refine ⟨h.inv.type_far h.kept (by decide), fun hm => ?_, fun e => ?_⟩
  · obtain ⟨i, hi⟩ := List.mem_iff_getElem?.1 hm
    have hl : i < gs.length := by
      rcases Nat.lt_or_ge i gs.length with h | h
      · exact h
      · rw [List.getElem?_eq_none h] at hi; cases hi
    obtain ⟨hb, _⟩ := h.arrs.blk i kb (s.arrays[i]'(by rw [← h.arrs.len]; exact hl)) hi (List.getElem?_eq_getElem _)
    exact hb.ne h.kept (by decide) rfl
  · obtain ⟨css, a1, _⟩ := h.ans
    exact own_ne a1 h.kept (by decide) e
theorem SInv.gs_far (h : SInv B G w n c r gs kb av s) (k : Nat) (hk : k ∈ gs) : ¬ c.rown k ∧ av.ownBlock ≠ some k ∧ B ≤ k ∧ k < w.heap.size := by
  obtain ⟨i, hi⟩ := List.mem_iff_getElem?.1 hk
  have hl : i < gs.length := by
    rcases Nat.lt_or_ge i gs.length with h | h
    · exact h
    · rw [List.getElem?_eq_none h] at hi; cases hi
  obtain ⟨hb, hB, _⟩ := h.arrs.blk i k (s.arrays[i]'(by rw [← h.arrs.len]; exact hl)) hi (List.getElem?_eq_getElem _)
  refine ⟨h.inv.type_far hb (by decide), fun e => ?_, hB, hb.lt⟩
  obtain ⟨css, a1, _⟩ := h.ans
  exact own_ne a1 hb (by decide) e
theorem SInv.av_far (h : SInv B G w n c r gs kb av s) (k : Nat) (hk : av.ownBlock = some k) : ¬ c.rown k ∧ B ≤ k ∧ k < w.heap.size := by
  obtain ⟨css, a1, _⟩ := h.ans
  exact ⟨row_far h.inv a1 (by decide) k hk, own_lt a1 hk⟩
theorem SInv.mut (h : SInv B G w n c r gs kb av s) (k : Nat) (hk : Mut c gs kb av k) : B ≤ k := by
  rcases hk with h1 | h1 | h1 | h1
  · rcases h1 with h1 | h1 | h1 | h1
    · exact h.inv.l.ownB k h1
    · exact (own_lt h.inv.rbuf h1).1
    · exact (own_lt h.inv.idx h1).1
    · exact (own_lt h.inv.pos h1).1
  · exact (h.gs_far k h1).2.2.1
  · rw [h1]; exact h.keptB
  · exact (h.av_far k h1).2.1
/-- What Read is handed. -/
theorem SInv.dst (h : SInv B G w n c r gs kb av s) : ∃ m, DstAt B w (lastOf c) m (arrOf s c.reuse) := by
  unfold lastOf arrOf
  cases hr : c.reuse
  · exact ⟨0, .inl ⟨rfl, rfl, rfl⟩⟩
  · simp only [if_true]
    rw [h.cache]
    cases hc : s.cache with
    | none => exact ⟨0, .inl ⟨rfl, rfl, rfl⟩⟩
    | some p =>
      obtain ⟨i, m⟩ := p
      have hok := h.okCache
      rw [hc] at hok
      obtain ⟨h1, h2⟩ := hok
      have hg : gs[i]? = some (gs.getD i 0) := by rw [List.getD_eq_getElem?_getD, List.getElem?_eq_getElem (by rw [h.arrs.len]; exact h1)]; rfl
      have ha : s.arrays[i]? = some (s.arrays.getD i []) := by rw [List.getD_eq_getElem?_getD, List.getElem?_eq_getElem h1]; rfl
      obtain ⟨hb, hB, hl⟩ := h.arrs.blk i _ _ hg ha
      exact ⟨m, .inr ⟨gs.getD i 0, rfl, h2, hB, hb⟩⟩
/-- Only the reader's own blocks were written. -/
theorem SInv.quiet (h : SInv B G w n c r gs kb av s) (hi : RInv B G w' c' r') (hO : Only c.rown w w') (hr : ∀ k, c'.rown k → c.rown k ∨ w.heap.size ≤ k) (last' cache' : Csv.Ref) (h1 : refOk s.arrays last') (h2 : refOk s.arrays cache') (hc : c'.last = refV gs s.arrays cache') (hre : c'.reuse = false → cache' = none) :
    SInv B G w' n c' r' gs kb av { s with rd := c'.rd r', last := last', cache := cache' } ∧ Turns (Mut c gs kb av) w (Mut c' gs kb av) w' := by
  have ht : Turns (Mut c gs kb av) w (Mut c' gs kb av) w' := Mut.turn (hO.mono (fun k _ h => .inl h)) hr (fun k h => .inl h)
  refine ⟨?_, ht⟩
  refine h.go hi ht (h.kept.only hO h.kb_far.1) (fun k hk => hO.block k (h.av_far k hk).2.2 (h.av_far k hk).1) (ht.only.below h.size h.mut) s.arrays last' cache' ?_ (Nat.le_refl _) (fun _ _ => rfl) (fun _ _ => rfl) h1 h2 hc hre
  refine ⟨h.arrs.len, fun i g arr e1 e2 => ?_, h.arrs.nodup⟩
  obtain ⟨hb, hB, hl⟩ := h.arrs.blk i g arr e1 e2
  exact ⟨hb.only hO (h.gs_far g (List.mem_of_getElem? e1)).1, hB, hl⟩
/-- Read. -/
theorem SInv.read (h : SInv B G w n c r gs kb av s) {dv ev : Value} {fs : List (List UInt8)} {fl : Csv.Fail} {rd' : Csv.Rd} (ho : ReadOut B G w c (lastOf c) (arrOf s c.reuse) (some fs, fl, rd') dv ev w' c' r') (hfs : fs.length < 268435456) :
    ∃ gs', SInv B G w' n c' r' gs' kb av { s with rd := rd', arrays := (Csv.place s.arrays (if c.reuse then s.cache else none) fs).1, last := (Csv.place s.arrays (if c.reuse then s.cache else none) fs).2, cache := if c.reuse then (Csv.place s.arrays (if c.reuse then s.cache else none) fs).2 else none } ∧
      dv = refV gs' (Csv.place s.arrays (if c.reuse then s.cache else none) fs).1 (Csv.place s.arrays (if c.reuse then s.cache else none) fs).2 ∧ Turns (Mut c gs kb av) w (Mut c' gs' kb av) w' := by
  obtain ⟨fs', hfs', hdst, _, hO⟩ : ∃ fs', some fs = some fs' ∧ DstPost B w (lastOf c) (arrOf s c.reuse) fs' dv w' ∧ fs'.length ≤ c.b.rest.length + 1 ∧ Only (fun k => c.rown k ∨ ((lastOf c).ownBlock = some k ∧ fs'.length ≤ (arrOf s c.reuse).length)) w w' := by
    rcases ho.out with ⟨h1, _⟩ | h1
    · cases h1
    · exact h1
  injection hfs' with hfs'
  subst hfs'
  have hrd : c'.rd r' = rd' := ho.rd
  have hreu : c'.reuse = c.reuse := by rw [ho.same]
  rw [← hrd]
  rcases hdst with ⟨hlt, g, hdv, hg, hb⟩ | ⟨hle, hD, hob⟩
  · -- a new array
    have hp : Csv.place s.arrays (if c.reuse then s.cache else none) fs = (s.arrays ++ [fs], some (s.arrays.length, fs.length)) := by
      unfold Csv.place
      unfold arrOf at hlt
      cases hca : (if c.reuse then s.cache else none) with
      | none =>
        simp only
        rw [if_neg]
        intro he
        rw [hca] at hlt
        have : fs = [] := List.isEmpty_iff.1 he
        rw [this] at hlt; simp at hlt
      | some p =>
        obtain ⟨i, m⟩ := p
        rw [hca] at hlt
        simp only at hlt ⊢
        rw [if_pos hlt]
    rw [hp]
    have hO' : Only c.rown w w' := hO.mono (fun k _ h => h.elim id (fun h => by omega))
    have hnew : g ∉ gs := fun hm => by have := (h.gs_far g hm).2.2.2; omega
    have ht : Turns (Mut c gs kb av) w (Mut c' (gs ++ [g]) kb av) w' := Mut.turn (hO'.mono (fun k _ h => .inl h)) ho.root (fun k hk => by
      rcases List.mem_append.1 hk with h1 | h1
      · exact .inl h1
      · simp at h1; exact .inr (by omega))
    have hgd : (gs ++ [g]).getD s.arrays.length 0 = g := by rw [← h.arrs.len, List.getD_eq_getElem?_getD, List.getElem?_append_right (Nat.le_refl _)]; simp
    have had : (s.arrays ++ [fs]).getD s.arrays.length [] = fs := by rw [List.getD_eq_getElem?_getD, List.getElem?_append_right (Nat.le_refl _)]; simp
    have hrv : refV (gs ++ [g]) (s.arrays ++ [fs]) (some (s.arrays.length, fs.length)) = dv := by
      show Value.slice (some ⟨(gs ++ [g]).getD s.arrays.length 0, 0, none⟩) fs.length ((s.arrays ++ [fs]).getD s.arrays.length []).length = dv
      rw [hgd, had, hdv]
    have hro : refOk (s.arrays ++ [fs]) (some (s.arrays.length, fs.length)) := ⟨by simp, by rw [had]; exact Nat.le_refl _⟩
    refine ⟨gs ++ [g], ?_, hrv.symm, ht⟩
    refine h.go ho.inv ht (h.kept.only hO' h.kb_far.1) (fun k hk => hO'.block k (h.av_far k hk).2.2 (h.av_far k hk).1) (ht.only.below h.size h.mut) _ _ _ ?_ (by simp) ?_ ?_ hro ?_ ?_ ?_
    · refine ⟨by simp [h.arrs.len], fun i g' arr e1 e2 => ?_, ?_⟩
      · rcases Nat.lt_or_ge i gs.length with hi | hi
        · rw [List.getElem?_append_left hi] at e1
          rw [List.getElem?_append_left (by rw [← h.arrs.len]; exact hi)] at e2
          obtain ⟨hb', hB', hl'⟩ := h.arrs.blk i g' arr e1 e2
          exact ⟨hb'.only hO' (h.gs_far g' (List.mem_of_getElem? e1)).1, hB', hl'⟩
        · rw [List.getElem?_append_right hi] at e1
          rw [List.getElem?_append_right (by rw [← h.arrs.len]; exact hi)] at e2
          have hi0 : i - gs.length = 0 := by
            rcases Nat.eq_zero_or_pos (i - gs.length) with h' | h'
            · exact h'
            · rw [List.getElem?_eq_none (by simp; omega)] at e1; cases e1
          rw [hi0] at e1
          rw [← h.arrs.len, hi0] at e2
          simp at e1 e2
          subst e1 e2
          exact ⟨hb, Nat.le_trans h.size hg, hfs⟩
      · rw [List.nodup_append]
        exact ⟨h.arrs.nodup, by simp, fun a ha b hb' => by simp at hb'; subst hb'; exact fun e => hnew (e ▸ ha)⟩
    · intro i hi
      rw [List.getD_eq_getElem?_getD, List.getElem?_append_left hi, ← List.getD_eq_getElem?_getD]
    · intro i hi
      rw [List.getD_eq_getElem?_getD, List.getElem?_append_left hi, ← List.getD_eq_getElem?_getD]
    · cases c.reuse
      · trivial
      · exact hro
    · rw [ho.last]
      cases hr : c.reuse
      · simp only [Bool.false_eq_true, if_false]
        rw [h.cache, h.reuse hr]; rfl
      · simp only [if_true]
        exact hrv.symm
    · intro hf; rw [hreu] at hf; rw [hf]; rfl
  · rcases hD with ⟨hdv, hl0, harr0⟩ | ⟨g, hdv, hm, hgB, hb⟩
    · -- nothing to hold
      have hfs0 : fs = [] := List.eq_nil_of_length_eq_zero hl0
      have hca : (if c.reuse then s.cache else none) = none := by
        cases hr : c.reuse
        · rfl
        · simp only [if_true]
          cases hc : s.cache with
          | none => rfl
          | some p =>
            exfalso
            rw [hdv] at hob
            unfold lastOf at hob
            rw [hr, if_pos rfl, h.cache, hc] at hob
            cases hob
      have hO' : Only c.rown w w' := hO.mono (fun k _ h' => h'.elim id (fun h' => by rw [← hob, hdv] at h'; cases h'.1))
      have hp : Csv.place s.arrays (if c.reuse then s.cache else none) fs = (s.arrays, none) := by rw [hca, hfs0]; rfl
      rw [hp]
      have hcache : (if c.reuse then (none : Csv.Ref) else none) = none := by split <;> rfl
      obtain ⟨q1, q2⟩ := h.quiet ho.inv hO' ho.root none (if c.reuse then (none : Csv.Ref) else none) trivial (by rw [hcache]; trivial) (by
        rw [ho.last, hcache]
        cases hr : c.reuse
        · simp only [Bool.false_eq_true, if_false]
          rw [h.cache, h.reuse hr]
        · simp only [if_true]; exact hdv) (fun _ => hcache)
      exact ⟨gs, q1, hdv, q2⟩
    · -- the cached array
      have hlo : (lastOf c).ownBlock = some g := by rw [← hob, hdv]; rfl
      obtain ⟨hr, i, m, hc⟩ : c.reuse = true ∧ ∃ i m, s.cache = some (i, m) := by
        unfold lastOf at hlo
        cases hr : c.reuse
        · rw [hr] at hlo; cases hlo
        · rw [hr, if_pos rfl, h.cache] at hlo
          cases hc : s.cache with
          | none => rw [hc] at hlo; cases hlo
          | some p => exact ⟨rfl, p.1, p.2, rfl⟩
      have hok := h.okCache
      rw [hc] at hok
      obtain ⟨hi1, hi2⟩ := hok
      have harr : arrOf s c.reuse = s.arrays.getD i [] := by unfold arrOf; rw [hr, if_pos rfl, hc]
      have hgi : g = gs.getD i 0 := by
        unfold lastOf at hlo
        rw [hr, if_pos rfl, h.cache, hc] at hlo
        injection hlo with hlo
        exact hlo.symm
      have hgm : gs[i]? = some g := by rw [hgi, List.getD_eq_getElem?_getD, List.getElem?_eq_getElem (by rw [h.arrs.len]; exact hi1)]; rfl
      rw [harr] at hle hb hdv hO
      obtain ⟨na, hna⟩ : ∃ na, na = fs ++ (s.arrays.getD i []).drop fs.length := ⟨_, rfl⟩
      rw [← hna] at hb hdv
      have hnl : na.length = (s.arrays.getD i []).length := by rw [hna]; simp only [List.length_append, List.length_drop]; omega
      have hp : Csv.place s.arrays (if c.reuse then s.cache else none) fs = (s.arrays.set i na, some (i, fs.length)) := by
        rw [hr, if_pos rfl, hc]
        show (if (s.arrays.getD i []).length < fs.length then _ else _) = _
        rw [if_neg (by omega), hna]
      rw [hp, hr]
      simp only [if_true]
      have hgd : ∀ j, j < s.arrays.length → ((s.arrays.set i na).getD j []).length = (s.arrays.getD j []).length := fun j hj => by
        rw [List.getD_eq_getElem?_getD, List.getElem?_set]
        by_cases hij : i = j
        · subst hij; rw [if_pos rfl, if_pos hi1]; exact hnl
        · rw [if_neg hij, ← List.getD_eq_getElem?_getD]
      have hrv : refV gs (s.arrays.set i na) (some (i, fs.length)) = dv := by
        show Value.slice (some ⟨gs.getD i 0, 0, none⟩) fs.length ((s.arrays.set i na).getD i []).length = dv
        rw [hgd i hi1, ← hgi, hdv, hnl]
      have hro : refOk (s.arrays.set i na) (some (i, fs.length)) := ⟨by simpa using hi1, by rw [hgd i hi1]; omega⟩
      have hgmem : g ∈ gs := List.mem_of_getElem? hgm
      have hOn : Only (fun k => c.rown k ∨ k = g) w w' := hO.mono (fun k _ h' => h'.imp id (fun h' => by
        have := h'.1
        rw [hlo] at this
        injection this with this
        exact this.symm))
      have ht : Turns (Mut c gs kb av) w (Mut c' gs kb av) w' := Mut.turn (hOn.mono (fun k _ h' => h'.elim .inl (fun e => .inr (.inl (e ▸ hgmem))))) ho.root (fun k hk => .inl hk)
      have hkbf := h.kb_far
      refine ⟨gs, ?_, hrv.symm, ht⟩
      refine h.go ho.inv ht (h.kept.only hOn (fun h' => h'.elim hkbf.1 (fun e => hkbf.2.1 (e ▸ hgmem)))) (fun k hk => hOn.block k (h.av_far k hk).2.2 (fun h' => h'.elim (h.av_far k hk).1 (fun e => (h.gs_far g hgmem).2.1 (e ▸ hk)))) (ht.only.below h.size h.mut) _ _ _ ?_ (by simp) (fun _ _ => rfl) hgd hro hro ?_ (fun hf => by rw [hreu, hr] at hf; cases hf)
      · refine ⟨by simp [h.arrs.len], fun j g' arr e1 e2 => ?_, h.arrs.nodup⟩
        rw [List.getElem?_set] at e2
        by_cases hij : i = j
        · subst hij
          rw [if_pos rfl, if_pos hi1] at e2
          injection e2 with e2
          rw [hgm] at e1
          injection e1 with e1
          subst e1 e2
          have hold := (h.arrs.blk i g (s.arrays.getD i []) hgm (by rw [List.getD_eq_getElem?_getD, List.getElem?_eq_getElem hi1]; rfl)).2.2
          exact ⟨hb, hgB, by omega⟩
        · rw [if_neg hij] at e2
          obtain ⟨hb', hB', hl'⟩ := h.arrs.blk j g' arr e1 e2
          refine ⟨hb'.only hOn (fun h' => h'.elim (h.gs_far g' (List.mem_of_getElem? e1)).1 (fun e => hij ?_)), hB', hl'⟩
          have hjl : j < gs.length := by
            rcases Nat.lt_or_ge j gs.length with h' | h'
            · exact h'
            · rw [List.getElem?_eq_none h'] at e1; cases e1
          have hil : i < gs.length := by rw [h.arrs.len]; exact hi1
          have e3 : gs[i]? = gs[j]? := by rw [hgm, e1, e]
          have hp := List.pairwise_iff_getElem.1 h.arrs.nodup
          rw [List.getElem?_eq_getElem hil, List.getElem?_eq_getElem hjl] at e3
          injection e3 with e3
          rcases Nat.lt_trichotomy i j with h' | h' | h'
          · exact absurd e3 (hp i j hil hjl h')
          · exact h'
          · exact absurd e3.symm (hp j i hjl hil h')
      · rw [ho.last, hr, if_pos rfl]; exact hrv.symm
end
end Go.Proofs.YtfadgnopfjajbaaGreatDoor
