/- A part of the proof: readRecord: ahead of the parser's loop. readRecord: behind the parser's loop. readRecord, whole. -/
import Derived.Test.YtfadgnopfjajbaaGreatDoorP09
import Derived.Lib.BufferRead
import Derived.Laws.OwnMore
namespace Go.Proofs.YtfadgnopfjajbaaGreatDoor
open Go.RowKit
noncomputable def rec11 : Code := part [true, false, true, true, true, true, false] recBody
set_option maxRecDepth 100000 in
theorem rec_end11 (w : World) (G : Glob) (l : List (Nat × Value)) (f : Nat → Value) (b : Bool) (h7 : lk l f 7 = if b then errVal G.eof else .nilIface) (he : w.cell? ⟨0, 0, none⟩ = some (errVal G.eof)) :
    rec11.wp Tryz.prog (fun e a w' => w' = w ∧ ((e = .normal ∧ b = false ∧ ∃ l', a = Fr 560 l' f ∧ Keeps [] l f l') ∨ (e = .ret ∧ b = true ∧ ∃ l', a = Fr 560 ((5, errVal G.eof) :: (4, .slice none 0 0) :: l') f))) (Fr 560 l f) w := by
  dsimp only [rec11, part, part.sub2', sub1, sub2, recBody, Tryz.f51, Option.getD]
  cases b
  · simp only [Bool.false_eq_true, if_false] at h7
    have hq := eql_nil_left G.eof w
    go_wp
    refine wp_if_false rfl (by simp [lk]) ?_
    refine wp_skip ?_
    exact ⟨rfl, .inl ⟨rfl, rfl, _, rfl, (by repeat first | exact Keeps.refl _ _ _ | refine Keeps.far (by decide) ?_ | refine Keeps.set (by decide) ?_)⟩⟩
  · simp only [if_true] at h7
    have hq := eql_same G.eof w
    go_wp
    refine wp_if_true rfl (by simp [lk]) ?_
    go_wp
    exact ⟨rfl, .inr ⟨rfl, rfl, _, rfl⟩⟩
noncomputable def rec13 : Code := part [true, false, true, true, true, true, true, false] recBody
set_option maxRecDepth 100000 in
theorem rec_p13 (w : World) (l : List (Nat × Value)) (f : Nat → Value) :
    rec13.wp Tryz.prog (NPost fun a w' => ∃ l', a = Fr 560 ((8, .nilIface) :: l') f ∧ Keeps [] l f l' ∧ w' = w) (Fr 560 l f) w := by
  dsimp only [rec13, part, part.sub2', sub1, sub2, recBody, Tryz.f51, Option.getD]
  go_wp
  exact NPost.mk ⟨_, rfl, (by repeat first | exact Keeps.refl _ _ _ | refine Keeps.far (by decide) ?_ | refine Keeps.set (by decide) ?_), rfl⟩
theorem runeLen_enc (r : Int) (hv : Csv.validDelim r = true) : Lib.runeLen r = ((Csv.enc r).length : Int) := by
  have hv' : Utf8.valid r = true := by
    unfold Csv.validDelim at hv
    simp only [Bool.and_eq_true] at hv
    exact hv.1.2
  unfold Utf8.valid at hv'
  simp only [Bool.or_eq_true, Bool.and_eq_true, decide_eq_true_eq] at hv'
  obtain ⟨c, rfl⟩ := Int.eq_ofNat_of_zero_le (show 0 ≤ r by omega)
  rw [enc_eq]
  unfold Lib.runeLen
  by_cases h1 : c < 128
  · rw [enc1 c h1, if_neg (by omega), if_pos (by omega)]; rfl
  by_cases h2 : c < 2048
  · rw [enc2 c (by omega) h2, if_neg (by omega), if_neg (by omega), if_pos (by omega)]; rfl
  by_cases h3 : c < 65536
  · rw [enc3 c (by omega) h3 (by omega), if_neg (by omega), if_neg (by omega), if_neg (by omega), if_neg (by omega), if_pos (by omega)]; rfl
  · rw [enc4 c (by omega) (by omega), if_neg (by omega), if_neg (by omega), if_neg (by omega), if_neg (by omega), if_neg (by omega), if_pos (by omega)]; rfl
noncomputable def rec14 : Code := part [true, false, true, true, true, true, true, true, false] recBody
set_option maxRecDepth 100000 in
theorem rec_p14 (B : Nat) (G : Glob) (w : World) (c : CSt) (r : RSt) (l : List (Nat × Value)) (f : Nat → Value) (hc : RInv B G w c r) (hv : Csv.validDelim c.comma = true) (h0 : lk l f 0 = .pointer (some ⟨c.cr, 0, none⟩)) :
    rec14.wp Tryz.prog (NPost fun a w' => ∃ l', a = Fr 560 ((9, .int .i64 ((Csv.enc c.comma).length : Int)) :: l') f ∧ Keeps [] l f l' ∧ w' = w) (Fr 560 l f) w := by
  dsimp only [rec14, part, part.sub2', sub1, sub2, recBody, Tryz.f51, Option.getD]
  have hcr := hc.l.cr.cell
  unfold crCells at hcr
  have cR := Any.utf8_RuneLen Tryz.laysRuneLen c.comma w
  rw [runeLen_enc c.comma hv] at cR
  clear hc hv
  go_wp
  refine Calls.mono cR ?_
  rintro e w1 ⟨rfl, rfl⟩
  dsimp only
  clear cR
  go_wp
  exact NPost.mk ⟨_, rfl, (by repeat first | exact Keeps.refl _ _ _ | refine Keeps.far (by decide) ?_ | refine Keeps.set (by decide) ?_), rfl⟩
noncomputable def rec15 : Code := part [true, false, true, true, true, true, true, true, true, false] recBody
set_option maxRecDepth 100000 in
theorem rec_p15 (B : Nat) (G : Glob) (w : World) (c : CSt) (r : RSt) (l : List (Nat × Value)) (f : Nat → Value) (hc : RInv B G w c r) (h0 : lk l f 0 = .pointer (some ⟨c.cr, 0, none⟩)) :
    rec15.wp Tryz.prog (NPost fun a w' => ∃ l', a = Fr 560 ((10, .int .i64 (c.numLine : Int)) :: l') f ∧ Keeps [] l f l' ∧ w' = w) (Fr 560 l f) w := by
  dsimp only [rec15, part, part.sub2', sub1, sub2, recBody, Tryz.f51, Option.getD]
  have hcr := hc.l.cr.cell
  unfold crCells at hcr
  clear hc
  go_wp
  exact NPost.mk ⟨_, rfl, (by repeat first | exact Keeps.refl _ _ _ | refine Keeps.far (by decide) ?_ | refine Keeps.set (by decide) ?_), rfl⟩
theorem grown_refl (w : World) (row : Option Nat) : w.grownBy w row := ⟨rfl, rfl, rfl, Nat.le_refl _, fun _ _ _ => rfl⟩
/- The rows are cut to nothing. -/
noncomputable def rec16 : Code := part [true, false, true, true, true, true, true, true, true, true, false] recBody
set_option maxRecDepth 100000 in
theorem rec_zero16 (B : Nat) (G : Glob) (w : World) (c : CSt) (r : RSt) (l : List (Nat × Value)) (f : Nat → Value) (hc : RInv B G w c r) (h0 : lk l f 0 = .pointer (some ⟨c.cr, 0, none⟩)) :
    rec16.wp Tryz.prog (NPost fun a w' => ∃ l' v', a = Fr 560 l' f ∧ Keeps [] l f l' ∧ RInv B G w' { c with rbuf := v' } { r with buf := [] } ∧ Only (fun k => k = c.cr ∨ c.rbuf.ownBlock = some k) w w' ∧ (v'.ownBlock = c.rbuf.ownBlock ∨ ∃ g, v'.ownBlock = some g ∧ w.heap.size ≤ g)) (Fr 560 l f) w := by
  dsimp only [rec16, part, part.sub2', sub1, sub2, recBody, Tryz.f51, Option.getD]
  have hcr := hc.l.cr.cell
  have hfz := hc.l.cr.frozen
  unfold crCells at hcr
  obtain ⟨A1, c1, hA1, hn1, hm1, hnil, _⟩ := ownsRow_form hc.rbuf
  have hown := hc.rbuf
  rw [hA1] at hown
  have hz := ownsRow_zero hown
  have ho : Value.ownBlock (.slice A1 0 c1) = c.rbuf.ownBlock := by rw [hA1]; cases A1 <;> rfl
  obtain ⟨hR, hO⟩ := hc.appBuf (v' := .slice A1 0 c1) (l := []) hz (grown_refl w _) (.inl ho)
  have HF := Lib.hid (And.intro hR (And.intro hO ho))
  rw [hA1] at hcr
  have hc1 : c1 ≤ 9223372036854775807 := by simp only [maxLen] at hm1; omega
  clear hR hO ho hz hown hc hnil hm1 hA1
  rcases A1 with _ | A1
  all_goals
    go_wp
    obtain ⟨hR, hO, ho⟩ := HF.out
    exact NPost.mk ⟨_, _, rfl, (by repeat first | exact Keeps.refl _ _ _ | refine Keeps.far (by decide) ?_ | refine Keeps.set (by decide) ?_), hR, hO, .inl ho⟩
noncomputable def rec17 : Code := part [true, false, true, true, true, true, true, true, true, true, true, false] recBody
set_option maxRecDepth 100000 in
theorem rec_zero17 (B : Nat) (G : Glob) (w : World) (c : CSt) (r : RSt) (l : List (Nat × Value)) (f : Nat → Value) (hc : RInv B G w c r) (h0 : lk l f 0 = .pointer (some ⟨c.cr, 0, none⟩)) :
    rec17.wp Tryz.prog (NPost fun a w' => ∃ l' v', a = Fr 560 l' f ∧ Keeps [] l f l' ∧ RInv B G w' { c with idx := v' } { r with idx := [] } ∧ Only (fun k => k = c.cr ∨ c.idx.ownBlock = some k) w w' ∧ (v'.ownBlock = c.idx.ownBlock ∨ ∃ g, v'.ownBlock = some g ∧ w.heap.size ≤ g)) (Fr 560 l f) w := by
  dsimp only [rec17, part, part.sub2', sub1, sub2, recBody, Tryz.f51, Option.getD]
  have hcr := hc.l.cr.cell
  have hfz := hc.l.cr.frozen
  unfold crCells at hcr
  obtain ⟨A1, c1, hA1, hn1, hm1, hnil, _⟩ := ownsRow_form hc.idx
  have hown := hc.idx
  rw [hA1] at hown
  have hz := ownsRow_zero hown
  have ho : Value.ownBlock (.slice A1 0 c1) = c.idx.ownBlock := by rw [hA1]; cases A1 <;> rfl
  obtain ⟨hR, hO⟩ := hc.appIdx (v' := .slice A1 0 c1) (l := []) hz (grown_refl w _) (.inl ho)
  have HF := Lib.hid (And.intro hR (And.intro hO ho))
  rw [hA1] at hcr
  have hc1 : c1 ≤ 9223372036854775807 := by simp only [maxLen] at hm1; omega
  clear hR hO ho hz hown hc hnil hm1 hA1
  rcases A1 with _ | A1
  all_goals
    go_wp
    obtain ⟨hR, hO, ho⟩ := HF.out
    exact NPost.mk ⟨_, _, rfl, (by repeat first | exact Keeps.refl _ _ _ | refine Keeps.far (by decide) ?_ | refine Keeps.set (by decide) ?_), hR, hO, .inl ho⟩
noncomputable def rec18 : Code := part [true, false, true, true, true, true, true, true, true, true, true, true, false] recBody
set_option maxRecDepth 100000 in
theorem rec_zero18 (B : Nat) (G : Glob) (w : World) (c : CSt) (r : RSt) (l : List (Nat × Value)) (f : Nat → Value) (hc : RInv B G w c r) (h0 : lk l f 0 = .pointer (some ⟨c.cr, 0, none⟩)) :
    rec18.wp Tryz.prog (NPost fun a w' => ∃ l' v', a = Fr 560 l' f ∧ Keeps [] l f l' ∧ RInv B G w' { c with pos := v' } { r with pos := [] } ∧ Only (fun k => k = c.cr ∨ c.pos.ownBlock = some k) w w' ∧ (v'.ownBlock = c.pos.ownBlock ∨ ∃ g, v'.ownBlock = some g ∧ w.heap.size ≤ g)) (Fr 560 l f) w := by
  dsimp only [rec18, part, part.sub2', sub1, sub2, recBody, Tryz.f51, Option.getD]
  have hcr := hc.l.cr.cell
  have hfz := hc.l.cr.frozen
  unfold crCells at hcr
  obtain ⟨A1, c1, hA1, hn1, hm1, hnil, _⟩ := ownsRow_form hc.pos
  have hown := hc.pos
  rw [hA1] at hown
  have hz := ownsRow_zero hown
  have ho : Value.ownBlock (.slice A1 0 c1) = c.pos.ownBlock := by rw [hA1]; cases A1 <;> rfl
  obtain ⟨hR, hO⟩ := hc.appPos (v' := .slice A1 0 c1) (l := []) hz (grown_refl w _) (.inl ho)
  have HF := Lib.hid (And.intro hR (And.intro hO ho))
  rw [hA1] at hcr
  have hc1 : c1 ≤ 9223372036854775807 := by simp only [maxLen] at hm1; omega
  clear hR hO ho hz hown hc hnil hm1 hA1
  rcases A1 with _ | A1
  all_goals
    go_wp
    obtain ⟨hR, hO, ho⟩ := HF.out
    exact NPost.mk ⟨_, _, rfl, (by repeat first | exact Keeps.refl _ _ _ | refine Keeps.far (by decide) ?_ | refine Keeps.set (by decide) ?_), hR, hO, .inl ho⟩
noncomputable def rec19 : Code := part [true, false, true, true, true, true, true, true, true, true, true, true, true, false] recBody
set_option maxRecDepth 100000 in
theorem rec_p19 (B : Nat) (G : Glob) (w : World) (c : CSt) (r : RSt) (l : List (Nat × Value)) (f : Nat → Value) (hc : RInv B G w c r) (h0 : lk l f 0 = .pointer (some ⟨c.cr, 0, none⟩)) :
    rec19.wp Tryz.prog (NPost fun a w' => ∃ l', a = Fr 560 ((11, .pointer (some ⟨w.heap.size, 0, none⟩)) :: l') f ∧ Keeps [] l f l' ∧ Below w.heap.size w w' ∧ Blk w' w.heap.size 128 (posCells (c.numLine, 1))) (Fr 560 l f) w := by
  dsimp only [rec19, part, part.sub2', sub1, sub2, recBody, Tryz.f51, Option.getD]
  have hcr := hc.l.cr.cell
  unfold crCells at hcr
  clear hc
  go_wp
  exact NPost.mk ⟨_, rfl, (by repeat first | exact Keeps.refl _ _ _ | refine Keeps.far (by decide) ?_ | refine Keeps.set (by decide) ?_), (Below.refl _ w).alloc (Nat.le_refl _) _, Blk.new_arr w _ _⟩
end Go.Proofs.YtfadgnopfjajbaaGreatDoor
namespace Go.Proofs.YtfadgnopfjajbaaGreatDoor
open Go.RowKit
def strV (b : List UInt8) : Value := .string ⟨b.toArray⟩
noncomputable def rec82 : Code := part [true, false, true, true, true, true, true, true, true, true, true, true, true, true, true, true, false] recBody
set_option maxRecDepth 100000 in
theorem rec_p82 (w : World) (l : List (Nat × Value)) (f : Nat → Value) (v : Value) (h7 : lk l f 7 = .nilIface) (h8 : lk l f 8 = v) (hv : v = .nilIface ∨ ∃ g, v = peVal g) :
    rec82.wp Tryz.prog (NPost fun a w' => ∃ l', a = Fr 560 l' f ∧ Keeps [8] l f l' ∧ lk l' f 8 = v ∧ w' = w) (Fr 560 l f) w := by
  dsimp only [rec82, part, part.sub2', sub1, sub2, recBody, Tryz.f51, Option.getD]
  rcases hv with rfl | ⟨g, rfl⟩
  · go_wp
    refine wp_if_true rfl (by simp [lk]) ?_
    go_wp
    exact NPost.mk ⟨_, rfl, (by repeat first | exact Keeps.refl _ _ _ | refine Keeps.far (by decide) ?_ | refine Keeps.set (by decide) ?_), by simp [lk], rfl⟩
  · go_wp
    refine wp_if_false rfl (by simp [lk]) ?_
    refine wp_skip ?_
    exact NPost.mk ⟨_, rfl, (by repeat first | exact Keeps.refl _ _ _ | refine Keeps.far (by decide) ?_ | refine Keeps.set (by decide) ?_), by simp [lk, h8], rfl⟩
noncomputable def rec84 : Code := part [true, false, true, true, true, true, true, true, true, true, true, true, true, true, true, true, true, false] recBody
set_option maxRecDepth 100000 in
theorem rec_str84 (B : Nat) (G : Glob) (w : World) (c : CSt) (r : RSt) (l : List (Nat × Value)) (f : Nat → Value) (hc : RInv B G w c r) (h0 : lk l f 0 = .pointer (some ⟨c.cr, 0, none⟩)) :
    rec84.wp Tryz.prog (NPost fun a w' => ∃ l', a = Fr 560 ((20, strV r.buf) :: l') f ∧ Keeps [] l f l' ∧ w' = w) (Fr 560 l f) w := by
  dsimp only [rec84, part, part.sub2', sub1, sub2, recBody, Tryz.f51, Option.getD]
  have hcr := hc.l.cr.cell
  unfold crCells at hcr
  have hcv : (convert 63 9 c.rbuf).run Tryz.prog w = .ok (strV r.buf) w := by
    have hown := hc.rbuf
    obtain ⟨A1, c1, hA1, hn1, hm1, hnil, _⟩ := ownsRow_form hown
    rw [hA1] at hown ⊢
    rcases A1 with _ | A1
    · obtain ⟨e1, rfl⟩ := hnil rfl
      have e2 : r.buf = [] := List.eq_nil_of_length_eq_zero e1
      rw [e2]
      exact Lib.run_convert_nil_bytes (P := Tryz.prog) w _ _ _ _ Tryz.underlying63 Tryz.underlying5 Tryz.underlying9
    · obtain ⟨g, rfl, hat, _⟩ := ownsRow_bytes hown
      refine run_convert_bytes_back w _ _ _ _ _ _ Tryz.underlying63 Tryz.underlying5 Tryz.underlying9 (fun j hj => ?_)
      rw [Addr.add_mk]
      exact hat j _ (List.getElem?_eq_getElem hj)
  obtain ⟨A1, c1, hA1, _⟩ := ownsRow_form hc.rbuf
  rw [hA1] at hcr hcv
  generalize strV r.buf = sv at hcv
  clear hc hA1
  go_wp
  exact NPost.mk ⟨_, rfl, (by repeat first | exact Keeps.refl _ _ _ | refine Keeps.far (by decide) ?_ | refine Keeps.set (by decide) ?_), rfl⟩
noncomputable def rec85 : Code := part [true, false, true, true, true, true, true, true, true, true, true, true, true, true, true, true, true, true, false] recBody
set_option maxRecDepth 100000 in
theorem rec_dst85 (w : World) (l : List (Nat × Value)) (f : Nat → Value) (A : Option Addr) (n cp : Nat) (h1 : lk l f 1 = .slice A n cp) (hA : A = none → cp = 0) :
    rec85.wp Tryz.prog (NPost fun a w' => ∃ l', a = Fr 560 ((1, .slice A 0 cp) :: l') f ∧ Keeps [] l f l' ∧ w' = w) (Fr 560 l f) w := by
  dsimp only [rec85, part, part.sub2', sub1, sub2, recBody, Tryz.f51, Option.getD]
  rcases A with _ | A
  · have e := hA rfl
    subst e
    clear hA
    go_wp
    exact NPost.mk ⟨_, rfl, (by repeat first | exact Keeps.refl _ _ _ | refine Keeps.far (by decide) ?_ | refine Keeps.set (by decide) ?_), rfl⟩
  · clear hA
    go_wp
    exact NPost.mk ⟨_, rfl, (by repeat first | exact Keeps.refl _ _ _ | refine Keeps.far (by decide) ?_ | refine Keeps.set (by decide) ?_), rfl⟩
theorem info_string : (Tryz.prog.info? 9).map (fun i => (i.zero, i.size, i.bytes)) = some (some (.string ByteArray.empty), 1, 16) := by kernel_rfl
set_option maxRecDepth 100000 in
theorem make_strings (w : World) (n : Nat) (hn : n < 1099511627776) : (Instr.makeSlice 36 (.int .i64 (n : Int)) (.int .i64 (n : Int))).run Tryz.prog w = .ok (.slice (some ⟨w.heap.size, 0, none⟩) n n) (w.alloc (.cells ((List.replicate n (strV [])).toArray) 9)) := by
  cases hi : Tryz.prog.info? 9 with
  | none => have := info_string; rw [hi] at this; cases this
  | some i =>
    have h := info_string
    rw [hi] at h
    simp only [Option.map_some, Option.some.injEq, Prod.mk.injEq] at h
    obtain ⟨hz, hs, hb⟩ := h
    have hr := run_make (P := Tryz.prog) w 36 9 i _ Tryz.underlying36 hi hz .i64 .i64 n n (by omega) (Int.le_refl _) (by rw [hb]; omega) (by omega)
    rw [hr, hs]
    simp only [Int.toNat_natCast, Nat.mul_one]
    congr 2
    have e : (Value.string ByteArray.empty).cells = #[strV []] := rfl
    rw [e]
    congr 1
    apply Array.toList_inj.1
    rw [toList_madeCells_one]
noncomputable def rec86 : Code := part [true, false, true, true, true, true, true, true, true, true, true, true, true, true, true, true, true, true, true, false] recBody
set_option maxRecDepth 100000 in
theorem rec_make86 (B : Nat) (G : Glob) (w : World) (c : CSt) (r : RSt) (l : List (Nat × Value)) (f : Nat → Value) (hc : RInv B G w c r) (h0 : lk l f 0 = .pointer (some ⟨c.cr, 0, none⟩)) (A : Option Addr) (cp : Nat) (h1 : lk l f 1 = .slice A 0 cp) (hn : r.idx.length < 1099511627776) :
    rec86.wp Tryz.prog (NPost fun a w' => ∃ l', a = Fr 560 l' f ∧ Keeps [1] l f l' ∧ ((r.idx.length ≤ cp ∧ lk l' f 1 = .slice A 0 cp ∧ w' = w) ∨ (cp < r.idx.length ∧ lk l' f 1 = .slice (some ⟨w.heap.size, 0, none⟩) r.idx.length r.idx.length ∧ w' = w.alloc (.cells ((List.replicate r.idx.length (strV [])).toArray) 9)))) (Fr 560 l f) w := by
  dsimp only [rec86, part, part.sub2', sub1, sub2, recBody, Tryz.f51, Option.getD]
  have hcr := hc.l.cr.cell
  unfold crCells at hcr
  obtain ⟨A1, c1, hA1, _⟩ := ownsRow_form hc.idx
  rw [hA1] at hcr
  have hmk := make_strings w r.idx.length hn
  obtain ⟨m, hm⟩ : ∃ m, m = r.idx.length := ⟨_, rfl⟩
  rw [← hm] at hcr hmk hn ⊢
  generalize w.alloc (.cells ((List.replicate m (strV [])).toArray) 9) = w1 at hmk
  clear hc hA1 hm
  by_cases h : cp < m
  · have hi : (cp : Int) < (m : Int) := by omega
    go_wp
    refine wp_if_true rfl (by simp [lk]) ?_
    go_wp
    exact NPost.mk ⟨_, rfl, (by repeat first | exact Keeps.refl _ _ _ | refine Keeps.far (by decide) ?_ | refine Keeps.set (by decide) ?_), .inr ⟨h, by simp [lk], rfl⟩⟩
  · have hi : ¬ (cp : Int) < (m : Int) := by omega
    go_wp
    refine wp_if_false rfl (by simp [lk]) ?_
    refine wp_skip ?_
    exact NPost.mk ⟨_, rfl, (by repeat first | exact Keeps.refl _ _ _ | refine Keeps.far (by decide) ?_ | refine Keeps.set (by decide) ?_), .inl ⟨by omega, by simp [lk, h1], rfl⟩⟩
noncomputable def rec88 : Code := part [true, false, true, true, true, true, true, true, true, true, true, true, true, true, true, true, true, true, true, true, false] recBody
set_option maxRecDepth 100000 in
theorem rec_dst88 (B : Nat) (G : Glob) (w : World) (c : CSt) (r : RSt) (l : List (Nat × Value)) (f : Nat → Value) (hc : RInv B G w c r) (h0 : lk l f 0 = .pointer (some ⟨c.cr, 0, none⟩)) (A : Option Addr) (n cp : Nat) (h1 : lk l f 1 = .slice A n cp) (hn : r.idx.length ≤ cp) (hA : A = none → cp = 0) :
    rec88.wp Tryz.prog (NPost fun a w' => ∃ l', a = Fr 560 ((1, .slice A r.idx.length cp) :: l') f ∧ Keeps [] l f l' ∧ w' = w) (Fr 560 l f) w := by
  dsimp only [rec88, part, part.sub2', sub1, sub2, recBody, Tryz.f51, Option.getD]
  have hcr := hc.l.cr.cell
  unfold crCells at hcr
  obtain ⟨A1, c1, hA1, _⟩ := ownsRow_form hc.idx
  rw [hA1] at hcr
  obtain ⟨m, hm⟩ : ∃ m, m = r.idx.length := ⟨_, rfl⟩
  rw [← hm] at hcr hn ⊢
  clear hc hA1 hm
  rcases A with _ | A
  · have e := hA rfl
    subst e
    have e2 : m = 0 := by omega
    subst e2
    clear hA
    go_wp
    exact NPost.mk ⟨_, rfl, (by repeat first | exact Keeps.refl _ _ _ | refine Keeps.far (by decide) ?_ | refine Keeps.set (by decide) ?_), rfl⟩
  · clear hA
    go_wp
    exact NPost.mk ⟨_, rfl, (by repeat first | exact Keeps.refl _ _ _ | refine Keeps.far (by decide) ?_ | refine Keeps.set (by decide) ?_), rfl⟩
noncomputable def rec89 : Code := part [true, false, true, true, true, true, true, true, true, true, true, true, true, true, true, true, true, true, true, true, true, false] recBody
set_option maxRecDepth 100000 in
theorem rec_p89 (w : World) (l : List (Nat × Value)) (f : Nat → Value) :
    rec89.wp Tryz.prog (NPost fun a w' => ∃ l', a = Fr 560 ((21, .int .i64 0) :: l') f ∧ Keeps [] l f l' ∧ w' = w) (Fr 560 l f) w := by
  dsimp only [rec89, part, part.sub2', sub1, sub2, recBody, Tryz.f51, Option.getD]
  go_wp
  exact NPost.mk ⟨_, rfl, (by repeat first | exact Keeps.refl _ _ _ | refine Keeps.far (by decide) ?_ | refine Keeps.set (by decide) ?_), rfl⟩
noncomputable def rec90 : Code := part [true, false, true, true, true, true, true, true, true, true, true, true, true, true, true, true, true, true, true, true, true, true, false, false] recBody
set_option maxRecDepth 100000 in
theorem rec_p90 (B : Nat) (G : Glob) (w : World) (c : CSt) (r : RSt) (l : List (Nat × Value)) (f : Nat → Value) (hc : RInv B G w c r) (h0 : lk l f 0 = .pointer (some ⟨c.cr, 0, none⟩)) :
    rec90.wp Tryz.prog (NPost fun a w' => ∃ l', a = Fr 560 l' f ∧ Keeps [] l f l' ∧ lk l' f 510 = c.idx ∧ lk l' f 511 = .int .i64 (r.idx.length : Int) ∧ lk l' f 512 = .int .i64 0 ∧ w' = w) (Fr 560 l f) w := by
  dsimp only [rec90, part, part.sub2', sub1, sub2, recBody, Tryz.f51, Option.getD]
  have hcr := hc.l.cr.cell
  unfold crCells at hcr
  obtain ⟨A1, c1, hA1, _⟩ := ownsRow_form hc.idx
  rw [hA1] at hcr ⊢
  clear hc hA1
  go_wp
  exact NPost.mk ⟨_, rfl, (by repeat first | exact Keeps.refl _ _ _ | refine Keeps.far (by decide) ?_ | refine Keeps.set (by decide) ?_), by simp [lk], by simp [lk], by simp [lk], rfl⟩
noncomputable def recRound : Code := part [true, false, true, true, true, true, true, true, true, true, true, true, true, true, true, true, true, true, true, true, true, true, false, true, false, false, true, true] recBody
set_option maxRecDepth 100000 in
set_option maxHeartbeats 1000000 in
theorem rec_round (w : World) (l : List (Nat × Value)) (f : Nat → Value) (g gi n cp ci d pre e : Nat) (s : ByteArray) (x : Value) (h1 : lk l f 1 = .slice (some ⟨g, 0, none⟩) n cp) (h20 : lk l f 20 = .string s) (h21 : lk l f 21 = .int .i64 (pre : Int))
    (h510 : lk l f 510 = .slice (some ⟨gi, 0, none⟩) n ci) (h511 : lk l f 511 = .int .i64 (n : Int)) (h512 : lk l f 512 = .int .i64 (d : Int)) (hd : d < n) (hn : n < 1099511627776) (hc : w.cell? ⟨gi, d, none⟩ = some (.int .i64 (e : Int))) (he1 : pre ≤ e) (he2 : e ≤ s.size)
    (hx : w.cell? ⟨g, d, none⟩ = some x) (hfz : w.frozen? ⟨g, d, none⟩ = false) :
    recRound.wp Tryz.prog (NPost fun a w' => ∃ l', a = Fr 560 l' f ∧ Keeps [21, 22, 23] l f l' ∧ lk l' f 21 = .int .i64 (e : Int) ∧ lk l' f 510 = .slice (some ⟨gi, 0, none⟩) n ci ∧ lk l' f 511 = .int .i64 (n : Int) ∧ lk l' f 512 = .int .i64 ((d + 1 : Nat) : Int) ∧ w' = w.setCell ⟨g, d, none⟩ (.string (s.extract pre e))) (Fr 560 l f) w := by
  dsimp only [recRound, part, part.sub2', sub1, sub2, recBody, Tryz.f51, Option.getD]
  go_wp
  exact NPost.mk ⟨_, rfl, (by repeat first | exact Keeps.refl _ _ _ | refine Keeps.far (by decide) ?_ | refine Keeps.set (by decide) ?_), by simp [lk], by simp [lk, h510], by simp [lk, h511], by simp [lk], rfl⟩
noncomputable def rec91 : Code := part [true, false, true, true, true, true, true, true, true, true, true, true, true, true, true, true, true, true, true, true, true, true, false, true, false, false, false] recBody
set_option maxRecDepth 100000 in
theorem rec_p91 (w : World) (l : List (Nat × Value)) (f : Nat → Value) (n d : Nat) (h511 : lk l f 511 = .int .i64 (n : Int)) (h512 : lk l f 512 = .int .i64 (d : Int)) :
    rec91.wp Tryz.prog (NPost fun a w' => a = Fr 560 ((513, .bool (decide (d < n))) :: l) f ∧ w' = w) (Fr 560 l f) w := by
  dsimp only [rec91, part, part.sub2', sub1, sub2, recBody, Tryz.f51, Option.getD]
  go_wp
  exact NPost.mk ⟨rfl, rfl⟩
theorem extract_field (pre fl post : List UInt8) : (⟨(pre ++ fl ++ post).toArray⟩ : ByteArray).extract pre.length (pre.length + fl.length) = ⟨fl.toArray⟩ := by
  rw [Lib.extract_eq]
  congr 2
  simp
theorem ends_getElem : ∀ (n : Nat) (dn : List (List UInt8)) (fl : List UInt8) (rest : List (List UInt8)), (ends n (dn ++ fl :: rest))[dn.length]? = some (n + dn.flatten.length + fl.length)
  | n, [], fl, rest => by simp [ends]
  | n, g :: dn, fl, rest => by
    simp only [List.cons_append, ends, List.length_cons, List.getElem?_cons_succ, List.flatten_cons, List.length_append]
    rw [ends_getElem (n + g.length) dn fl rest]
    congr 1
    omega
noncomputable def recFill : Code := part [true, false, true, true, true, true, true, true, true, true, true, true, true, true, true, true, true, true, true, true, true, true, false] recBody
set_option maxHeartbeats 1000000 in
theorem rec_fill {B : Nat} {G : Glob} {w : World} {c : CSt} {r : RSt} {l : List (Nat × Value)} {f : Nat → Value} (fs : List (List UInt8)) (x : List UInt8) (g cp : Nat) (old : List (List UInt8)) (dv : Value) (hc : RInv B G w c r) (h0 : lk l f 0 = .pointer (some ⟨c.cr, 0, none⟩)) (h1 : lk l f 1 = dv) (h20 : lk l f 20 = strV r.buf) (h21 : lk l f 21 = .int .i64 0)
    (hbuf : r.buf = fs.flatten ++ x) (hidx : r.idx = ends 0 fs) (hfl : fs.length < 1099511627776) (hD : fs ≠ [] → dv = .slice (some ⟨g, 0, none⟩) fs.length cp ∧ Blk w g 9 (old.map strV) ∧ fs.length ≤ old.length) :
    recFill.wp Tryz.prog (NPost fun a w' => ∃ l', a = Fr 560 l' f ∧ Keeps [21, 22, 23] l f l' ∧ Only (fun k => k = g ∧ fs ≠ []) w w' ∧ (fs ≠ [] → Blk w' g 9 ((fs ++ old.drop fs.length).map strV))) (Fr 560 l f) w := by
  have hil : r.idx.length = fs.length := by rw [hidx, ends_length]
  refine seq_part (x := rec90) (rec_p90 B G w c r l f hc h0) ?_
  rintro a w1 ⟨l1, rfl, hk1, h510, h511, h512, rfl⟩
  rw [hil] at h511
  refine wp_block ?_
  refine wp_loop_n (fun k a w' => ∃ l' dn rest, a = Fr 560 l' f ∧ Keeps [21, 22, 23] l f l' ∧ fs = dn ++ rest ∧ k = rest.length ∧ lk l' f 21 = .int .i64 (dn.flatten.length : Int) ∧ lk l' f 510 = c.idx ∧ lk l' f 511 = .int .i64 (fs.length : Int) ∧ lk l' f 512 = .int .i64 (dn.length : Int) ∧
      Only (fun k => k = g ∧ fs ≠ []) w1 w' ∧ (fs ≠ [] → Blk w' g 9 ((dn ++ old.drop dn.length).map strV))) fs.length ⟨l1, [], fs, rfl, ?_, rfl, rfl, ?_, h510, h511, h512, Only.refl _ _, ?_⟩ ?_
  · exact fun k hk hs => hk1 k hk rfl
  · rw [hk1 21 (by omega) rfl]; exact h21
  · intro hne; simpa using (hD hne).2.1
  clear h510 h511 h512 hk1 l1
  rintro k a w2 ⟨l2, dn, rest, rfl, hk2, hfs, rfl, h21', h510, h511, h512, hO, hB2⟩
  refine seq_part (x := rec91) (rec_p91 w2 l2 f fs.length dn.length h511 h512) ?_
  rintro a w2 ⟨rfl, rfl⟩
  cases rest with
  | nil =>
    have e : fs = dn := by rw [hfs]; simp
    refine wp_seq ?_
    refine wp_if_false rfl (by rw [lk_same, e]; simp) ?_
    refine wp_exit ?_
    exact ⟨_, rfl, Keeps.far rfl hk2, hO, fun hne => by have := hB2 hne; rw [← e] at this; exact this⟩
  | cons fl rest =>
    have hne : fs ≠ [] := by rw [hfs]; simp
    obtain ⟨hdv, hbl0, hol⟩ := hD hne
    have hlt : dn.length < fs.length := by rw [hfs]; simp
    have hb2 := hB2 hne
    refine wp_seq ?_
    refine wp_if_true rfl (by rw [lk_same]; simp [hlt]) ?_
    refine wp_skip ?_
    have hst : r.buf = dn.flatten ++ fl ++ (rest.flatten ++ x) := by rw [hbuf, hfs]; simp
    obtain ⟨A1, c1, hA1, hn1, _, hnil, hsome⟩ := ownsRow_form hc.idx
    have hgne : ∀ gi, c.idx.ownBlock = some gi → gi ≠ g := fun gi h e => own_ne hc.idx hbl0 (by decide) (by rw [h, e])
    have hcellI : ∃ gi ci, c.idx = .slice (some ⟨gi, 0, none⟩) fs.length ci ∧ w2.cell? ⟨gi, dn.length, none⟩ = some (.int .i64 ((dn.flatten.length + fl.length : Nat) : Int)) := by
      rcases A1 with _ | A1
      · have := (hnil rfl).1; omega
      · obtain ⟨gi, rfl, _, hgl⟩ := hsome A1 rfl
        refine ⟨gi, c1, by rw [hA1, hil], ?_⟩
        have hob : c.idx.ownBlock = some gi := by rw [hA1]; rfl
        have hcell := hc.idx.cells (g := gi) hob dn.length (i64v (dn.flatten.length + fl.length)) (by
          rw [List.getElem?_map, hidx, hfs, ends_getElem]
          simp)
        rw [Addr.add_mk] at hcell
        simp only [Nat.zero_add] at hcell
        rw [World.cell?_of_block (a := ⟨gi, dn.length, none⟩) (hO.block gi hgl (fun h => hgne gi hob h.1))]
        exact hcell
    obtain ⟨gi, ci, hci, hcell⟩ := hcellI
    have hsz : (⟨r.buf.toArray⟩ : ByteArray).size = r.buf.length := ba_size _
    have hlen : r.buf.length = dn.flatten.length + fl.length + (rest.flatten ++ x).length := by rw [hst]; simp only [List.length_append]
    have hcell2 : w2.cell? ⟨g, dn.length, none⟩ = some (strV (old.getD dn.length [])) := by
      rw [hb2.cell, List.getElem?_map, List.getElem?_append_right (Nat.le_refl _), Nat.sub_self, List.getElem?_drop, Nat.add_zero, List.getD_eq_getElem?_getD, List.getElem?_eq_getElem (by omega)]
      rfl
    refine last_part (x := recRound) (rec_round w2 _ f g gi fs.length cp ci dn.length dn.flatten.length (dn.flatten.length + fl.length) ⟨r.buf.toArray⟩ _ ?_ ?_ ?_ ?_ ?_ ?_ hlt hfl hcell (by omega) (by rw [hsz]; omega) hcell2 (hb2.frozen _)) ?_
    · rw [lk_ne _ _ _ _ _ rfl, hk2 1 (by omega) rfl, h1, hdv]
    · rw [lk_ne _ _ _ _ _ rfl, hk2 20 (by omega) rfl, h20]; rfl
    · rw [lk_ne _ _ _ _ _ rfl, h21']
    · rw [lk_ne _ _ _ _ _ rfl, h510, hci]
    · rw [lk_ne _ _ _ _ _ rfl, h511]
    · rw [lk_ne _ _ _ _ _ rfl, h512]
    rintro a w3 ⟨l3, rfl, hk3, k21, k510, k511, k512, rfl⟩
    refine ⟨rest.length, by simp, l3, dn ++ [fl], rest, rfl, Keeps.trans (Keeps.far rfl hk2) hk3 rfl rfl, by rw [hfs]; simp, rfl, ?_, by rw [k510, hci], k511, ?_, hO.setCell (p := ⟨g, dn.length, none⟩) (fun _ => ⟨rfl, hne⟩) _, fun _ => ?_⟩
    · rw [k21]; simp
    · rw [k512]; simp
    · have hext : (⟨r.buf.toArray⟩ : ByteArray).extract dn.flatten.length (dn.flatten.length + fl.length) = ⟨fl.toArray⟩ := by rw [hst]; exact extract_field _ _ _
      rw [hext]
      have hset := hb2.set dn.length (strV fl)
      have e : ((dn ++ old.drop dn.length).map strV).set dn.length (strV fl) = ((dn ++ [fl]) ++ old.drop (dn ++ [fl]).length).map strV := by
        rw [← List.map_set]
        congr 1
        rw [List.set_append_right _ _ (Nat.le_refl _), Nat.sub_self]
        have hd : old.drop dn.length ≠ [] := by simp; omega
        obtain ⟨o, ot, hot⟩ := List.exists_cons_of_ne_nil hd
        have hot2 : old.drop (dn ++ [fl]).length = ot := by
          rw [List.length_append, List.length_singleton, ← List.drop_drop, hot]; rfl
        rw [hot2, hot]
        simp
      rw [e] at hset
      exact hset
/-- The number of expected fields is set. -/
theorem RInv.expect {B : Nat} {G : Glob} {w : World} {c : CSt} {r : RSt} (h : RInv B G w c r) (n : Int) : RInv B G (w.setCell ⟨c.cr, 2, none⟩ (.int .i64 n)) { c with expect := n } r := by
  obtain ⟨hL, hO⟩ := h.l.row (grown_refl w none) (fun k e => by cases e) 2 (.int .i64 n) { c with expect := n } rfl rfl rfl rfl rfl rfl
  refine ⟨hL, ?_, ?_, ?_, h.nraw, h.nbuf⟩
  · exact ownsRow_only h.rbuf hO (fun k hk s => s.elim (fun e => (h.rbuf_far k hk).2 (.inl e)) (fun e => by cases e))
  · exact ownsRow_only h.idx hO (fun k hk s => s.elim (fun e => (h.idx_far k hk).2 (.inl e)) (fun e => by cases e))
  · exact ownsRow_only h.pos hO (fun k hk s => s.elim (fun e => (h.pos_far k hk).2 (.inl e)) (fun e => by cases e))
noncomputable def recCount : Code := part [true, false, true, true, true, true, true, true, true, true, true, true, true, true, true, true, true, true, true, true, true, true, true, false] recBody
set_option maxRecDepth 100000 in
set_option maxHeartbeats 1000000 in
theorem rec_count (B : Nat) (G : Glob) (w : World) (c : CSt) (r : RSt) (l : List (Nat × Value)) (f : Nat → Value) (hc : RInv B G w c r) (h0 : lk l f 0 = .pointer (some ⟨c.cr, 0, none⟩)) (A : Option Addr) (n cp rec : Nat) (v : Value) (h1 : lk l f 1 = .slice A n cp) (h8 : lk l f 8 = v) (hv : v = .nilIface ∨ ∃ g, v = peVal g) (h10 : lk l f 10 = .int .i64 (rec : Int)) :
    recCount.wp Tryz.prog (NPost fun a w' => ∃ l', a = Fr 560 l' f ∧ Keeps [8] l f l' ∧
      ((0 < c.expect ∧ (n : Int) ≠ c.expect ∧ v = .nilIface ∧ lk l' f 8 = peVal w.heap.size ∧ w' = w.alloc (.cells #[i64v rec, i64v rec, i64v 1, errVal G.count] 108)) ∨
       (¬ (0 < c.expect ∧ (n : Int) ≠ c.expect ∧ v = .nilIface) ∧ c.expect ≠ 0 ∧ lk l' f 8 = v ∧ w' = w) ∨
       (c.expect = 0 ∧ lk l' f 8 = v ∧ w' = w.setCell ⟨c.cr, 2, none⟩ (.int .i64 (n : Int))))) (Fr 560 l f) w := by
  dsimp only [recCount, part, part.sub2', sub1, sub2, recBody, Tryz.f51, Option.getD]
  have hcr := hc.l.cr.cell
  have hfz := hc.l.cr.frozen
  have hgc := hc.l.glob.count.var
  unfold crCells at hcr
  obtain ⟨x, hx⟩ : ∃ x, x = c.expect := ⟨_, rfl⟩
  rw [← hx] at hcr ⊢
  clear hc hx
  rcases Int.lt_trichotomy x 0 with h | h | h
  · have h2 : ¬ 0 < x := by omega
    have h3 : ¬ x = 0 := by omega
    go_wp
    refine wp_if_false rfl (by simp [lk] <;> omega) ?_
    go_wp
    refine wp_if_false rfl (by simp [lk] <;> omega) ?_
    refine wp_skip ?_
    exact NPost.mk ⟨_, rfl, (by repeat first | exact Keeps.refl _ _ _ | refine Keeps.far (by decide) ?_ | refine Keeps.set (by decide) ?_), .inr (.inl ⟨fun q => h2 q.1, h3, by simp [lk, h8], rfl⟩)⟩
  · subst h
    go_wp
    refine wp_if_false rfl (by simp [lk]) ?_
    go_wp
    refine wp_if_true rfl (by simp [lk]) ?_
    go_wp
    exact NPost.mk ⟨_, rfl, (by repeat first | exact Keeps.refl _ _ _ | refine Keeps.far (by decide) ?_ | refine Keeps.set (by decide) ?_), .inr (.inr ⟨rfl, by simp [lk, h8], rfl⟩)⟩
  · have h3 : ¬ x = 0 := by omega
    by_cases hn : (n : Int) = x
    · have hb : ((n : Int) != x) = false := by simp [hn]
      have HN := Lib.hid hn
      clear hn
      go_wp
      refine wp_if_true rfl (by simp [lk] <;> omega) ?_
      go_wp
      refine wp_if_false rfl (by simp [lk]) ?_
      refine wp_skip ?_
      exact NPost.mk ⟨_, rfl, (by repeat first | exact Keeps.refl _ _ _ | refine Keeps.far (by decide) ?_ | refine Keeps.set (by decide) ?_), .inr (.inl ⟨fun q => q.2.1 HN.out, h3, by simp [lk, h8], rfl⟩)⟩
    · have hb : ((n : Int) != x) = true := by simp [hn]
      have HN := Lib.hid hn
      clear hn
      rcases hv with rfl | ⟨g, rfl⟩
      · go_wp
        refine wp_if_true rfl (by simp [lk] <;> omega) ?_
        go_wp
        refine wp_if_true rfl (by simp [lk]) ?_
        go_wp
        exact NPost.mk ⟨_, rfl, (by repeat first | exact Keeps.refl _ _ _ | refine Keeps.far (by decide) ?_ | refine Keeps.set (by decide) ?_), .inl ⟨h, HN.out, rfl, by simp [lk], rfl⟩⟩
      · go_wp
        refine wp_if_true rfl (by simp [lk] <;> omega) ?_
        go_wp
        refine wp_if_false rfl (by simp [lk]) ?_
        refine wp_skip ?_
        exact NPost.mk ⟨_, rfl, (by repeat first | exact Keeps.refl _ _ _ | refine Keeps.far (by decide) ?_ | refine Keeps.set (by decide) ?_), .inr (.inl ⟨(fun q => by cases q.2.2), h3, by simp [lk, h8], rfl⟩)⟩
noncomputable def rec101 : Code := part [true, false, true, true, true, true, true, true, true, true, true, true, true, true, true, true, true, true, true, true, true, true, true, true] recBody
set_option maxRecDepth 100000 in
theorem rec_ret101 (w : World) (l : List (Nat × Value)) (f : Nat → Value) (v1 v8 : Value) (h1 : lk l f 1 = v1) (h8 : lk l f 8 = v8) :
    rec101.wp Tryz.prog (fun e a w' => e = .ret ∧ w' = w ∧ ∃ l', a = Fr 560 ((5, v8) :: (4, v1) :: l') f) (Fr 560 l f) w := by
  dsimp only [rec101, part, part.sub2', sub1, sub2, recBody, Tryz.f51, Option.getD]
  go_wp
  exact ⟨rfl, rfl, _, rfl⟩
end Go.Proofs.YtfadgnopfjajbaaGreatDoor
namespace Go.Proofs.YtfadgnopfjajbaaGreatDoor
open Go.RowKit
/-- A record's slice: the first m of the strings arr, which fill its array. -/
def DstAt (B : Nat) (w : World) (v : Value) (m : Nat) (arr : List (List UInt8)) : Prop :=
  (v = .slice none 0 0 ∧ m = 0 ∧ arr = []) ∨ ∃ g, v = .slice (some ⟨g, 0, none⟩) m arr.length ∧ m ≤ arr.length ∧ B ≤ g ∧ Blk w g 9 (arr.map strV)
/-- An error value is this failure, or the end, or a wrong delimiter. -/
def ErrOut (G : Glob) (w0 w : World) (v : Value) (e : Csv.Fail) : Prop :=
  ErrIs G w0 w v e ∨ (e = ⟨1, 0, 0, 0⟩ ∧ v = errVal G.eof) ∨ (e = ⟨5, 0, 0, 0⟩ ∧ v = errVal G.inval)
/-- Only quoted fields will be met, or the delimiter is one byte. -/
def Tame (c : CSt) : Prop := (0 ≤ c.opt.comma ∧ c.opt.comma < 128) ∨
  ∀ n l s1, Csv.skip c.opt n (srcOf c) = (some l, s1) → ∀ s, Reach c.opt s1.numLine (Csv.St.init s1 l) s → s.quoted = none → (s.trimmed c.opt).line.head? = some 34
def CSt.rd (c : CSt) (r : RSt) : Csv.Rd := ⟨srcOf c, c.expect, r.pos⟩
/-- Where the fields of a record go. -/
def DstPost (B : Nat) (w : World) (dst : Value) (arr : List (List UInt8)) (fs : List (List UInt8)) (dv : Value) (w' : World) : Prop :=
  (arr.length < fs.length ∧ ∃ g, dv = .slice (some ⟨g, 0, none⟩) fs.length fs.length ∧ w.heap.size ≤ g ∧ Blk w' g 9 (fs.map strV)) ∨
  (fs.length ≤ arr.length ∧ DstAt B w' dv fs.length (fs ++ arr.drop fs.length) ∧ dv.ownBlock = dst.ownBlock)
structure RecOut (B : Nat) (G : Glob) (w : World) (c : CSt) (dst : Value) (arr : List (List UInt8)) (res : Option (List (List UInt8)) × Csv.Fail × Csv.Rd) (dv ev : Value) (w' : World) (c' : CSt) (r' : RSt) : Prop where
  inv : RInv B G w' c' r'
  same : c' = { c with b := c'.b, raw := c'.raw, numLine := c'.numLine, offset := c'.offset, rbuf := c'.rbuf, idx := c'.idx, pos := c'.pos, expect := c'.expect }
  rd : c'.rd r' = res.2.2
  err : ErrOut G w w' ev res.2.1
  root : ∀ k, c'.rown k → c.rown k ∨ w.heap.size ≤ k
  small : c'.numLine + c'.b.rest.length ≤ c.numLine + c.b.rest.length + 1
  out : (res.1 = none ∧ dv = .slice none 0 0 ∧ Only c.rown w w') ∨
    ∃ fs, res.1 = some fs ∧ DstPost B w dst arr fs dv w' ∧ fs.length ≤ c.b.rest.length + 1 ∧ Only (fun k => c.rown k ∨ (dst.ownBlock = some k ∧ fs.length ≤ arr.length)) w w'
def RecPost (B : Nat) (G : Glob) (w : World) (c : CSt) (r : RSt) (dst : Value) (arr : List (List UInt8)) (e : Ending) (w' : World) : Prop :=
  ∃ dv ev c' r', e = .returned (.tuple #[dv, ev]) ∧ RecOut B G w c dst arr ((c.rd r).read c.opt) dv ev w' c' r'
noncomputable def recTail : Code := part [true, false, true, true, true, true, true, true, true, true, true, true, true, true, true, true] recBody
theorem ErrIs.form {G : Glob} {w0 w : World} {v : Value} {e : Csv.Fail} (h : ErrIs G w0 w v e) : v = .nilIface ∨ ∃ g, v = peVal g := by
  rcases h with ⟨_, h⟩ | ⟨g, a, h, _⟩
  · exact .inl h
  · exact .inr ⟨g, h⟩
theorem ErrIs.kind {G : Glob} {w0 w : World} {v : Value} {e : Csv.Fail} (h : ErrIs G w0 w v e) : e.kind = 0 ↔ v = .nilIface := by
  rcases h with ⟨h1, h⟩ | ⟨g, a, h, _, _, hk⟩
  · rw [h1, h]; simp [Csv.Fail.none]
  · rw [h]
    constructor
    · intro h0; rcases hk with hk | hk | hk <;> (have := hk.1; omega)
    · intro h0; cases h0
theorem ErrIs.only {G : Glob} {w0 w w' : World} {v : Value} {e : Csv.Fail} (h : ErrIs G w0 w v e) {S : Nat → Prop} (hO : Only S w w') (hS : ∀ k, w0.heap.size ≤ k → (∃ cs, Blk w k 108 cs) → ¬ S k) : ErrIs G w0 w' v e := by
  rcases h with h | ⟨g, a, h, hg, hb, hk⟩
  · exact .inl h
  · exact .inr ⟨g, a, h, hg, hb.only hO (hS g hg ⟨_, hb⟩), hk⟩
theorem RInv.str_far {B : Nat} {G : Glob} {w : World} {c : CSt} {r : RSt} (h : RInv B G w c r) {g : Nat} {t : TypeId} {cs : List Value} (hg : Blk w g t cs) (ht : t = 9 ∨ t = 108) : ¬ c.rown g := by
  have d : ∀ u : TypeId, u ≠ 9 → u ≠ 108 → u ≠ t := fun u h1 h2 e => by rcases ht with h | h <;> rw [h] at e; exact h1 e; exact h2 e
  rintro ((rfl | (rfl | rfl | rfl) | hk) | hk | hk | hk)
  · exact h.l.cr.ne hg (d _ (by decide) (by decide)) rfl
  · exact h.l.b.rb.ne hg (d _ (by decide) (by decide)) rfl
  · exact h.l.b.buf.ne hg (d _ (by decide) (by decide)) rfl
  · exact h.l.b.src.ne hg (d _ (by decide) (by decide)) rfl
  · obtain ⟨l, hl⟩ := h.l.raw; exact own_ne hl hg (d _ (by decide) (by decide)) hk
  · exact own_ne h.rbuf hg (d _ (by decide) (by decide)) hk
  · exact own_ne h.idx hg (d _ (by decide) (by decide)) hk
  · exact own_ne h.pos hg (d _ (by decide) (by decide)) hk
/-- What the tail leaves. -/
structure TailOut (B : Nat) (G : Glob) (w0 : World) (c0 : CSt) (dst : Value) (arr : List (List UInt8)) (rec : Nat) (q : Csv.Out) (dv ev : Value) (w' : World) (c' : CSt) (r' : RSt) : Prop where
  inv : RInv B G w' c' r'
  same : c' = { c0 with b := c'.b, raw := c'.raw, numLine := c'.numLine, offset := c'.offset, rbuf := c'.rbuf, idx := c'.idx, pos := c'.pos, expect := c'.expect }
  src : srcOf c' = q.src
  expect : c'.expect = if c0.expect = 0 then (q.fields.length : Int) else c0.expect
  poss : r'.pos = q.poss
  err : ErrIs G w0 w' ev (Csv.counted c0.expect rec q.fields.length q.fail)
  root : ∀ k, c'.rown k → c0.rown k ∨ w0.heap.size ≤ k
  put : DstPost B w0 dst arr q.fields dv w'
  only : Only (fun k => c0.rown k ∨ (dst.ownBlock = some k ∧ q.fields.length ≤ arr.length)) w0 w'
theorem seq_mid {P : Program} {x y : Code} {Q : Exit → Act → World → Prop} {a : Act} {w : World} (R : Act → World → Prop) (h1 : x.wp P (NPost R) a w) (h2 : ∀ a w, R a w → y.wp P Q a w) : (Code.seq x y).wp P Q a w := seq_part h1 h2
/-- Behind the filling of the record. -/
structure Filled (B : Nat) (G : Glob) (w0 : World) (c0 : CSt) (dst : Value) (arr : List (List UInt8)) (q : Csv.Out) (dv ev : Value) (w : World) (c : CSt) (r : RSt) : Prop where
  inv : RInv B G w c r
  same : c = { c0 with b := c.b, raw := c.raw, numLine := c.numLine, offset := c.offset, rbuf := c.rbuf, idx := c.idx, pos := c.pos }
  src : srcOf c = q.src
  poss : r.pos = q.poss
  err : ErrIs G w0 w ev q.fail
  root : ∀ k, c.rown k → c0.rown k ∨ w0.heap.size ≤ k
  put : DstPost B w0 dst arr q.fields dv w
  only : Only (fun k => c0.rown k ∨ (dst.ownBlock = some k ∧ q.fields.length ≤ arr.length)) w0 w
theorem DstPost.form {B : Nat} {w0 w : World} {dst dv : Value} {arr fs : List (List UInt8)} (h : DstPost B w0 dst arr fs dv w) : ∃ A cp, dv = .slice A fs.length cp := by
  rcases h with ⟨_, g, h, _⟩ | ⟨_, ⟨h, h2, _⟩ | ⟨g, h, _⟩, _⟩
  · exact ⟨_, _, h⟩
  · exact ⟨_, _, by rw [h, h2]⟩
  · exact ⟨_, _, h⟩
theorem DstPost.keep {B : Nat} {w0 w w' : World} {dst dv : Value} {arr fs : List (List UInt8)} (h : DstPost B w0 dst arr fs dv w) {S : Nat → Prop} (hO : Only S w w') (hS : ∀ k cs, Blk w k 9 cs → ¬ S k) : DstPost B w0 dst arr fs dv w' := by
  rcases h with ⟨h1, g, h, hg, hb⟩ | ⟨h1, ⟨h, h2, h3⟩ | ⟨g, h, hm, hg, hb⟩, ho⟩
  · exact .inl ⟨h1, g, h, hg, hb.only hO (hS _ _ hb)⟩
  · exact .inr ⟨h1, .inl ⟨h, h2, h3⟩, ho⟩
  · exact .inr ⟨h1, .inr ⟨g, h, hm, hg, hb.only hO (hS _ _ hb)⟩, ho⟩
noncomputable def recEnd : Code := part [true, false, true, true, true, true, true, true, true, true, true, true, true, true, true, true, true, true, true, true, true, true, true] recBody
theorem rec_end {B : Nat} {G : Glob} {w0 : World} {c0 : CSt} {dst : Value} {arr : List (List UInt8)} {rec : Nat} {q : Csv.Out} {dv ev : Value} {w : World} {c : CSt} {r : RSt} {l : List (Nat × Value)} {f : Nat → Value} (h : Filled B G w0 c0 dst arr q dv ev w c r) (h0 : lk l f 0 = .pointer (some ⟨c0.cr, 0, none⟩)) (h1 : lk l f 1 = dv) (h8 : lk l f 8 = ev) (h10 : lk l f 10 = .int .i64 (rec : Int)) :
    recEnd.wp Tryz.prog (fun e a w' => e = .ret ∧ ∃ l' ev' c', a = Fr 560 ((5, ev') :: (4, dv) :: l') f ∧ TailOut B G w0 c0 dst arr rec q dv ev' w' c' r) (Fr 560 l f) w := by
  have ecr : c.cr = c0.cr := by rw [h.same]
  have eex : c.expect = c0.expect := by rw [h.same]
  obtain ⟨A, cp, hdv⟩ := h.put.form
  refine seq_part (x := recCount) (rec_count B G w c r l f h.inv (by rw [ecr]; exact h0) A q.fields.length cp rec ev (by rw [h1, hdv]) h8 h.err.form h10) ?_
  rintro a w1 ⟨l1, rfl, hk1, hcase⟩
  have k1 : lk l1 f 1 = dv := by rw [hk1 1 (by omega) rfl]; exact h1
  have fin : ∀ ev' c', lk l1 f 8 = ev' → TailOut B G w0 c0 dst arr rec q dv ev' w1 c' r → rec101.wp Tryz.prog (fun e a w' => e = .ret ∧ ∃ l' ev' c', a = Fr 560 ((5, ev') :: (4, dv) :: l') f ∧ TailOut B G w0 c0 dst arr rec q dv ev' w' c' r) (Fr 560 l1 f) w1 := by
    intro ev' c' k8 ht
    refine wp_mono (rec_ret101 w1 l1 f dv ev' k1 k8) ?_
    rintro e a w2 ⟨rfl, rfl, l2, rfl⟩
    exact ⟨rfl, l2, ev', c', rfl, ht⟩
  have hkind := h.err.kind
  rcases hcase with ⟨p1, p2, rfl, k8, hw⟩ | ⟨p1, p2, k8, hw⟩ | ⟨p1, k8, hw⟩
  · have hb : Below w.heap.size w w1 := by rw [hw]; exact (Below.refl _ w).alloc (Nat.le_refl _) _
    have hO : Only (fun k => False) w w1 := (Only.of_below hb).mono (fun k hk h => by omega)
    have hk0 : q.fail.kind = 0 := hkind.2 rfl
    have hcnt : Csv.counted c0.expect rec q.fields.length q.fail = ⟨4, rec, rec, 1⟩ := by
      unfold Csv.counted
      rw [← eex, if_pos ⟨p1, p2, hk0⟩]
    refine fin _ c k8 ⟨h.inv.below hb, ?_, h.src, ?_, h.poss, ?_, h.root, h.put.keep hO (fun _ _ _ h => h), h.only.trans hO (fun _ _ h => h.elim)⟩
    · rw [h.same]
    · rw [eex, if_neg (by rw [← eex]; omega)]
    · rw [hcnt]
      refine .inr ⟨w.heap.size, G.count, rfl, h.only.size, ?_, .inr (.inr ⟨rfl, rfl⟩)⟩
      rw [hw]
      exact Blk.new_arr w _ _
  · subst hw
    have hcnt : Csv.counted c0.expect rec q.fields.length q.fail = q.fail := by
      unfold Csv.counted
      rw [if_neg]
      intro hh
      rw [← eex] at hh
      exact p1 ⟨hh.1, hh.2.1, hkind.1 hh.2.2⟩
    refine fin _ c k8 ⟨h.inv, ?_, h.src, ?_, h.poss, by rw [hcnt]; exact h.err, h.root, h.put, h.only⟩
    · rw [h.same]
    · rw [eex, if_neg (by rw [← eex]; exact p2)]
  · have hO : Only (fun k => k = c.cr) w w1 := by rw [hw]; exact (Only.refl (fun k => k = c.cr) w).setCell (p := ⟨c.cr, 2, none⟩) (fun _ => rfl) _
    have hcnt : Csv.counted c0.expect rec q.fields.length q.fail = q.fail := by
      unfold Csv.counted
      rw [if_neg]
      intro hh
      rw [← eex] at hh
      omega
    have hRe := h.inv.expect (q.fields.length : Int)
    rw [← hw] at hRe
    refine fin _ { c with expect := (q.fields.length : Int) } k8 ⟨hRe, ?_, h.src, ?_, h.poss, ?_, h.root, h.put.keep hO (fun k cs hb e => ?_), h.only.trans hO (fun k hk e => ?_)⟩
    · rw [h.same]
    · rw [if_pos (by rw [← eex]; exact p1)]
    · rw [hcnt]
      refine h.err.only hO (fun k _ hb e => ?_)
      obtain ⟨cs, hb⟩ := hb
      exact h.inv.str_far hb (.inr rfl) (.inl (.inl e))
    · exact h.inv.str_far hb (.inl rfl) (.inl (.inl e))
    · rw [e, ecr]; exact .inl (.inl (.inl rfl))
theorem rec_tail {B : Nat} {G : Glob} {w0 : World} {c0 : CSt} {r0 : RSt} {dst : Value} {m : Nat} {arr : List (List UInt8)} {rec : Nat} {s0 : Csv.St} {f : Nat → Value} {a : Act} {w : World} (hc0 : RInv B G w0 c0 r0) (hD : DstAt B w0 dst m arr) (hF : Fin B G w0 c0 dst rec s0 f a w) (hsz : s0.size < 1099511627776) :
    recTail.wp Tryz.prog (fun e a w' => e = .ret ∧ ∃ l' dv ev c' r' q, a = Fr 560 ((5, ev) :: (4, dv) :: l') f ∧ (∃ s, Reach c0.opt rec s0 s ∧ s.step c0.opt rec = .inr q) ∧ q.fields.length ≤ s0.size ∧ TailOut B G w0 c0 dst arr rec q dv ev w' c' r') a w := by
  obtain ⟨l, c, r, q, errV, x, rfl, h0, h1, h7, h8, h10, hS, hsrc, hbuf, hidx, hpos, hre, herr, b1, b2⟩ := hF
  have ecr : c.cr = c0.cr := by rw [hS.same]
  have hil : r.idx.length = q.fields.length := by rw [hidx, ends_length]
  have hB : B ≤ w0.heap.size := hc0.l.size
  obtain ⟨A, n0, cp, hdst, hA, hcp, hAg⟩ : ∃ A n0 cp, dst = .slice A n0 cp ∧ (A = none → cp = 0) ∧ cp = arr.length ∧ (∀ a, A = some a → ∃ g, a = ⟨g, 0, none⟩ ∧ B ≤ g ∧ g < w0.heap.size ∧ ¬ c0.rown g ∧ Blk w0 g 9 (arr.map strV)) := by
    rcases hD with ⟨h, _, h3⟩ | ⟨g, h, _, hg, hb⟩
    · exact ⟨none, 0, 0, h, fun _ => rfl, by rw [h3]; rfl, fun a e => by cases e⟩
    · exact ⟨_, _, _, h, fun e => (by cases e), rfl, fun a e => ⟨g, (by injection e with e; exact e.symm), hg, hb.lt, hc0.str_far hb (.inl rfl), hb⟩⟩
  refine seq_part (x := rec82) (rec_p82 w l f errV h7 h8 herr.form) ?_
  rintro a w1 ⟨l1, rfl, hk1, k8, rfl⟩
  have k0 : lk l1 f 0 = .pointer (some ⟨c0.cr, 0, none⟩) := by rw [hk1 0 (by omega) rfl]; exact h0
  have k1 : lk l1 f 1 = .slice A n0 cp := by rw [hk1 1 (by omega) rfl, h1]; exact hdst
  have k10 : lk l1 f 10 = .int .i64 (rec : Int) := by rw [hk1 10 (by omega) rfl]; exact h10
  refine seq_part (x := rec84) (rec_str84 B G w1 c r _ f hS.inv (by rw [ecr]; exact k0)) ?_
  rintro a w1 ⟨l2, rfl, hk2, rfl⟩
  refine seq_part (x := rec85) (rec_dst85 w1 _ f A n0 cp (by rw [lk_ne _ _ _ _ _ rfl, hk2 1 (by omega) rfl, k1]) hA) ?_
  rintro a w1 ⟨l3, rfl, hk3, rfl⟩
  have e3 : ∀ k, k < 24 → k ≠ 1 → k ≠ 20 → lk ((1, Value.slice A 0 cp) :: l3) f k = lk l1 f k := fun k hk n1 n2 => by
    rw [lk_ne _ _ _ _ _ (by simp; exact n1), hk3 k hk rfl, lk_ne _ _ _ _ _ (by simp; exact n2), hk2 k hk rfl]
  have k20 : lk ((1, Value.slice A 0 cp) :: l3) f 20 = strV r.buf := by rw [lk_ne _ _ _ _ _ rfl, hk3 20 (by omega) rfl, lk_same]
  refine seq_part (x := rec86) (rec_make86 B G w1 c r _ f hS.inv (by rw [ecr, e3 0 (by omega) (by omega) (by omega)]; exact k0) A cp (lk_same _ _ _ _) (by omega)) ?_
  rintro a w4 ⟨l4, rfl, hk4, hmk⟩
  -- where the record goes
  obtain ⟨A', n', cp', old, g', hl1, hle, hA', hD', hb4, hg'B, hg'n, hfin⟩ : ∃ (A' : Option Addr) (n' cp' : Nat) (old : List (List UInt8)) (g' : Nat), lk l4 f 1 = .slice A' n' cp' ∧ q.fields.length ≤ cp' ∧ (A' = none → cp' = 0) ∧
      (q.fields ≠ [] → A' = some ⟨g', 0, none⟩ ∧ Blk w4 g' 9 (old.map strV) ∧ q.fields.length ≤ old.length) ∧ Below w1.heap.size w1 w4 ∧ (q.fields ≠ [] → B ≤ g') ∧ (q.fields ≠ [] → g' < w0.heap.size → dst.ownBlock = some g' ∧ q.fields.length ≤ arr.length) ∧
      (∀ w' : World, Only (fun k => k = g' ∧ q.fields ≠ []) w4 w' → (q.fields ≠ [] → Blk w' g' 9 ((q.fields ++ old.drop q.fields.length).map strV)) → DstPost B w0 dst arr q.fields (.slice A' q.fields.length cp') w') := by
    rw [hil] at hmk
    rcases hmk with ⟨hn, hl1, rfl⟩ | ⟨hn, hl1, hw4⟩
    · rcases A with _ | a0
      · have e0 := hA rfl
        subst e0
        have hnil : q.fields = [] := List.eq_nil_of_length_eq_zero (by omega)
        have harr : arr = [] := List.eq_nil_of_length_eq_zero hcp.symm
        refine ⟨none, 0, 0, [], 0, hl1, hn, fun _ => rfl, fun h => absurd hnil h, Below.refl _ _, fun h => absurd hnil h, fun h => absurd hnil h, fun w' _ _ => ?_⟩
        rw [hnil, harr]
        exact .inr ⟨Nat.le_refl _, .inl ⟨rfl, rfl, rfl⟩, by rw [hdst]; rfl⟩
      · obtain ⟨g, rfl, hgB, hgl, hgn, hgb⟩ := hAg a0 rfl
        have hgw : Blk w4 g 9 (arr.map strV) := hgb.only hS.only hgn
        refine ⟨some ⟨g, 0, none⟩, 0, cp, arr, g, hl1, hn, (fun h => by cases h), fun _ => ⟨rfl, hgw, by omega⟩, Below.refl _ _, fun _ => hgB, fun _ _ => ⟨by rw [hdst]; rfl, by omega⟩, fun w' hO hb => ?_⟩
        refine .inr ⟨by omega, .inr ⟨g, ?_, by simp, hgB, ?_⟩, by rw [hdst]; rfl⟩
        · congr 1
          simp only [List.length_append, List.length_drop]
          omega
        · by_cases hnil : q.fields = []
          · rw [hnil]
            simpa using hgw.only hO (fun h => h.2 hnil)
          · exact hb hnil
    · have hne : q.fields ≠ [] := fun h => by rw [h] at hn; simp at hn
      have hb4 : Below w1.heap.size w1 w4 := by rw [hw4]; exact (Below.refl _ w1).alloc (Nat.le_refl _) _
      have hblk : Blk w4 w1.heap.size 9 ((List.replicate q.fields.length ([] : List UInt8)).map strV) := by
        rw [hw4, List.map_replicate]; exact Blk.new w1 _ _
      refine ⟨_, _, _, List.replicate q.fields.length [], w1.heap.size, hl1, Nat.le_refl _, (fun h => by cases h), fun _ => ⟨rfl, hblk, by simp⟩, hb4, fun _ => Nat.le_trans hB hS.only.size, fun _ h => ?_, fun w' hO hb => ?_⟩
      · have := hS.only.size; omega
      · refine .inl ⟨by omega, w1.heap.size, rfl, hS.only.size, ?_⟩
        have := hb hne
        rw [List.drop_of_length_le (by simp), List.append_nil] at this
        exact this
  have hS4 := hS.below hb4
  have e4 : ∀ k, k < 24 → k ≠ 1 → k ≠ 20 → lk l4 f k = lk l1 f k := fun k hk n1 n2 => by rw [hk4 k hk (by simp; exact n1), e3 k hk n1 n2]
  refine seq_part (x := rec88) (rec_dst88 B G w4 c r l4 f hS4.inv (by rw [ecr, e4 0 (by omega) (by omega) (by omega)]; exact k0) A' n' cp' hl1 (by omega) hA') ?_
  rintro a w4 ⟨l5, rfl, hk5, rfl⟩
  rw [hil]
  refine seq_part (x := rec89) (rec_p89 w4 _ f) ?_
  rintro a w4 ⟨l6, rfl, hk6, rfl⟩
  have e6 : ∀ k, k < 24 → k ≠ 1 → k ≠ 20 → k ≠ 21 → lk ((21, Value.int .i64 0) :: l6) f k = lk l1 f k := fun k hk n1 n2 n3 => by
    rw [lk_ne _ _ _ _ _ (by simp; exact n3), hk6 k hk rfl, lk_ne _ _ _ _ _ (by simp; exact n1), hk5 k hk rfl, e4 k hk n1 n2]
  have k16 : lk ((21, Value.int .i64 0) :: l6) f 1 = .slice A' q.fields.length cp' := by rw [lk_ne _ _ _ _ _ rfl, hk6 1 (by omega) rfl, lk_same]
  have k206 : lk ((21, Value.int .i64 0) :: l6) f 20 = strV r.buf := by rw [lk_ne _ _ _ _ _ rfl, hk6 20 (by omega) rfl, lk_ne _ _ _ _ _ rfl, hk5 20 (by omega) rfl, hk4 20 (by omega) rfl, k20]
  refine seq_part (x := recFill) (rec_fill q.fields x g' cp' old (.slice A' q.fields.length cp') hS4.inv (by rw [ecr, e6 0 (by omega) (by omega) (by omega) (by omega)]; exact k0) k16 k206 (lk_same _ _ _ _) hbuf hidx (by omega) (fun hne => by
    obtain ⟨p1, p2, p3⟩ := hD' hne
    exact ⟨by rw [p1], p2, p3⟩)) ?_
  rintro a w7 ⟨l7, rfl, hk7, hO7, hb7⟩
  have e7 : ∀ k, k < 20 → k ≠ 1 → lk l7 f k = lk l1 f k := fun k hk n1 => by rw [hk7 k (by omega) (by simp; omega), e6 k (by omega) n1 (by omega) (by omega)]
  have hg'far : ∀ k, (k = g' ∧ q.fields ≠ []) → B ≤ k ∧ ¬ c.rown k := fun k hk => by
    obtain ⟨rfl, hne⟩ := hk
    exact ⟨hg'B hne, hS4.inv.str_far (hD' hne).2.1 (.inl rfl)⟩
  have hFl : Filled B G w0 c0 dst arr q (.slice A' q.fields.length cp') errV w7 c r := by
    refine ⟨hS4.inv.only hO7 hg'far, hS.same, hsrc, hpos, ?_, hS.root, hfin w7 hO7 hb7, ?_⟩
    · have h4 : ErrIs G w0 w4 errV q.fail := herr.only (Only.of_below hb4) (fun k _ hb h => by obtain ⟨cs, hb⟩ := hb; have := hb.lt; omega)
      refine h4.only hO7 (fun k _ hb h => ?_)
      obtain ⟨cs, hb⟩ := hb
      obtain ⟨rfl, hne⟩ := h
      exact hb.ne (hD' hne).2.1 (by decide) rfl
    · refine (hS4.only.mono (fun k _ h => .inl h)).trans hO7 (fun k hk h => ?_)
      obtain ⟨rfl, hne⟩ := h
      exact .inr (hg'n hne hk)
  refine wp_mono (rec_end hFl (by rw [e7 0 (by omega) (by omega)]; exact k0) (by rw [hk7 1 (by omega) rfl, k16]) (by rw [e7 8 (by omega) (by omega)]; exact k8) (by rw [e7 10 (by omega) (by omega)]; exact k10)) ?_
  rintro e a w8 ⟨rfl, l8, ev', c', rfl, ht⟩
  exact ⟨rfl, l8, _, ev', c', r, q, rfl, hre, b1, ht⟩
noncomputable def rec0 : Code := part [false] recBody
set_option maxRecDepth 100000 in
theorem rec_p0 (w : World) (l : List (Nat × Value)) (f : Nat → Value) :
    rec0.wp Tryz.prog (NPost fun a w' => ∃ l', a = Fr 560 l' f ∧ Keeps [4, 5] l f l' ∧ w' = w) (Fr 560 l f) w := by
  dsimp only [rec0, part, part.sub2', sub1, sub2, recBody, Tryz.f51, Option.getD]
  go_wp
  exact NPost.mk ⟨_, rfl, (by repeat first | exact Keeps.refl _ _ _ | refine Keeps.far (by decide) ?_ | refine Keeps.set (by decide) ?_), rfl⟩
noncomputable def rec3 : Code := part [true, false, true, false] recBody
set_option maxRecDepth 100000 in
theorem rec_p3 (w : World) (l : List (Nat × Value)) (f : Nat → Value) :
    rec3.wp Tryz.prog (NPost fun a w' => ∃ l', a = Fr 560 l' f ∧ Keeps [6] l f l' ∧ w' = w) (Fr 560 l f) w := by
  dsimp only [rec3, part, part.sub2', sub1, sub2, recBody, Tryz.f51, Option.getD]
  go_wp
  exact NPost.mk ⟨_, rfl, (by repeat first | exact Keeps.refl _ _ _ | refine Keeps.far (by decide) ?_ | refine Keeps.set (by decide) ?_), rfl⟩
noncomputable def rec4 : Code := part [true, false, true, true, false] recBody
set_option maxRecDepth 100000 in
theorem rec_p4 (w : World) (l : List (Nat × Value)) (f : Nat → Value) :
    rec4.wp Tryz.prog (NPost fun a w' => ∃ l', a = Fr 560 ((7, .nilIface) :: l') f ∧ Keeps [] l f l' ∧ w' = w) (Fr 560 l f) w := by
  dsimp only [rec4, part, part.sub2', sub1, sub2, recBody, Tryz.f51, Option.getD]
  go_wp
  exact NPost.mk ⟨_, rfl, (by repeat first | exact Keeps.refl _ _ _ | refine Keeps.far (by decide) ?_ | refine Keeps.set (by decide) ?_), rfl⟩
theorem step_src {o : Csv.Opt} {rec : Nat} {s : Csv.St} {q : Csv.Out} (h : s.step o rec = .inr q) : q.src = s.src := by
  have h1 : ∀ f nx (t : Csv.St), t.plain o rec f nx = .inr q → q.src = t.src := by
    intro f nx t ht
    unfold Csv.St.plain at ht
    split at ht
    · injection ht with ht; subst ht; rfl
    · split at ht
      · cases ht
      · injection ht with ht; subst ht; rfl
  unfold Csv.St.step at h
  split at h
  · obtain ⟨L, p, ht, _⟩ := trimmed_eq o s
    rw [ht] at h
    unfold Csv.St.stepStart at h
    split at h
    · cases h
    · split at h
      · have h2 := h1 _ _ _ h; exact h2
      · have h2 := h1 _ _ _ h; exact h2
  · unfold Csv.St.stepOpen at h
    split at h
    · unfold Csv.St.stepQuote at h
      split at h
      · cases h
      · split at h
        · cases h
        · split at h
          · injection h with h; subst h; rfl
          · split at h
            · cases h
            · injection h with h; subst h; rfl
    · split at h
      · split at h
        · injection h with h; subst h; rfl
        · injection h with h; subst h; rfl
      · cases h
set_option maxHeartbeats 1000000 in
theorem readRecord_any (B : Nat) (G : Glob) (w : World) (c : CSt) (r : RSt) (dst : Value) (m : Nat) (arr : List (List UInt8)) (hc : RInv B G w c r) (hD : DstAt B w dst m arr) (hsm : c.numLine + c.b.rest.length < 137438953472) (ht : Tame c) :
    Calls Tryz.prog 51 [.pointer (some ⟨c.cr, 0, none⟩), dst].toArray w (RecPost B G w c r dst arr) := by
  refine enter 560 Tryz.func51 rfl rfl (by simp) ?_
  refine seq_part (x := rec0) (rec_p0 w _ _) ?_
  rintro a w1 ⟨l1, rfl, hk1, rfl⟩
  have e0 : lk l1 (fun _ => undef) 0 = .pointer (some ⟨c.cr, 0, none⟩) := by rw [hk1 0 (by omega) rfl]; rfl
  have e1 : lk l1 (fun _ => undef) 1 = dst := by rw [hk1 1 (by omega) rfl]; rfl
  refine wp_keep [(0, .pointer (some ⟨c.cr, 0, none⟩)), (1, dst)] ⟨e0, e1, trivial⟩ (fun f => ?_)
  clear e0 e1 hk1 l1
  refine wp_scope_straight ?_
  refine wp_seq_mid _ (rec_delims B G w1 c r dst f hc (Exit.noGoto (bodyPost Tryz.prog Tryz.f51 (RecPost B G w1 c r dst arr))) ?_) ?_
  · intro hv g
    refine ret2 rfl rfl rfl ?_
    have hread : (c.rd r).read c.opt = (none, ⟨5, 0, 0, 0⟩, c.rd r) := by unfold Csv.Rd.read; rw [hv]; rfl
    have hb : Below w1.heap.size w1 w1.drew.drew := (Below.refl _ w1).drew.drew
    have hS := (Stand.refl hc).below hb
    refine ⟨_, _, c, r, rfl, ?_⟩
    rw [hread]
    exact ⟨hS.inv, rfl, rfl, .inr (.inr ⟨rfl, by simp [lk]⟩), hS.root, by omega, .inl ⟨rfl, by simp [lk], hS.only⟩⟩
  rintro a w2 ⟨f, rfl, rfl, hv⟩
  have hb1 : Below w1.heap.size w1 w1.drew := (Below.refl _ w1).drew
  have hc1 : RInv B G w1.drew c r := hc.below hb1
  have hD1 : DstAt B w1.drew dst m arr := hD
  refine seq_part (x := rec3) (rec_p3 w1.drew _ f) ?_
  rintro a w2 ⟨l3, rfl, hk3, rfl⟩
  refine seq_part (x := rec4) (rec_p4 w1.drew _ f) ?_
  rintro a w2 ⟨l4, rfl, hk4, rfl⟩
  refine seq_part (x := recLoop) (rec_skip B G w1.drew c r dst _ f hc1 hv (by omega) ?_ ?_ (lk_same _ _ _ _)) ?_
  · rw [lk_ne _ _ _ _ _ rfl, hk4 0 (by omega) rfl, hk3 0 (by omega) rfl]; rfl
  · rw [lk_ne _ _ _ _ _ rfl, hk4 1 (by omega) rfl, hk3 1 (by omega) rfl]; rfl
  rintro a w3 ⟨l5, c', lv, errV, rfl, k0, k1, k6, k7, hSk⟩
  have hO1 : Only c.rown w1 w3 := (Only.refl c.rown w1).drew.then hSk.st.only
  have ecr : c'.cr = c.cr := by rw [hSk.st.same]
  have eopt : c'.opt = c.opt := by rw [hSk.st.same]; rfl
  obtain ⟨b, hb⟩ : ∃ b : Bool, errV = if b then errVal G.eof else .nilIface := by
    rcases hSk.res with ⟨h, _⟩ | ⟨h, _⟩
    · exact ⟨true, h⟩
    · exact ⟨false, h⟩
  refine wp_seq (wp_mono (rec_end11 w3 G l5 f b (by rw [k7]; exact hb) hSk.st.inv.l.glob.eof.var) ?_)
  rintro e a w4 ⟨rfl, ⟨rfl, rfl, l6, rfl, hk6⟩ | ⟨rfl, rfl, l6, rfl⟩⟩
  · rcases hSk.res with ⟨h, _⟩ | ⟨_, hn1, L, lb, lo, cp, hlv, hL, hLl, hLn, hskip⟩
    · rw [hb] at h; cases h
    have hsk := hskip (c.b.rest.length + 1) (by omega)
    obtain ⟨s0, hs0⟩ : ∃ s0, s0 = Csv.St.init (srcOf c') L := ⟨_, rfl⟩
    have hsize : s0.size = L.length + c'.b.rest.length + 1 := by rw [hs0]; rfl
    have hvd : Csv.validDelim c'.comma = true := by
      have := hv
      unfold Csv.Opt.valid at this
      simp only [Bool.and_eq_true] at this
      have h2 : c.opt.comma = c'.comma := by rw [hSk.st.same]; rfl
      rw [← h2]; exact this.1.2
    refine seq_part (x := rec13) (rec_p13 w4 _ f) ?_
    rintro a w4 ⟨l7, rfl, hk7, rfl⟩
    have j : ∀ k, k < 8 → lk ((8, Value.nilIface) :: l7) f k = lk l5 f k := fun k hk => by rw [lk_ne _ _ _ _ _ (by simp; omega), hk7 k (by omega) rfl, hk6 k (by omega) rfl]
    refine seq_part (x := rec14) (rec_p14 B G w4 c' r _ f hSk.st.inv hvd (by rw [ecr, j 0 (by omega)]; exact k0)) ?_
    rintro a w4 ⟨l8, rfl, hk8, rfl⟩
    refine seq_part (x := rec15) (rec_p15 B G w4 c' r _ f hSk.st.inv (by rw [ecr, lk_ne _ _ _ _ _ rfl, hk8 0 (by omega) rfl, j 0 (by omega)]; exact k0)) ?_
    rintro a w4 ⟨l9, rfl, hk9, rfl⟩
    have j9 : ∀ k, k < 8 → lk ((10, Value.int .i64 (c'.numLine : Int)) :: l9) f k = lk l5 f k := fun k hk => by rw [lk_ne _ _ _ _ _ (by simp; omega), hk9 k (by omega) rfl, lk_ne _ _ _ _ _ (by simp; omega), hk8 k (by omega) rfl, j k hk]
    refine seq_part (x := rec16) (rec_zero16 B G w4 c' r _ f hSk.st.inv (by rw [ecr, j9 0 (by omega)]; exact k0)) ?_
    rintro a w5 ⟨l10, v10, rfl, hk10, hi10, hO10, hv10⟩
    have hS10 := hSk.st.bufr hi10 hO10 hv10
    have hL10 : LineAt w5 { c' with rbuf := v10 } L lb lo cp := hL.row hSk.st.inv.l (fun k hk => (hSk.st.inv.rbuf_far k hk).2) hO10 rfl rfl
    refine seq_part (x := rec17) (rec_zero17 B G w5 _ _ _ f hS10.inv (by show lk l10 f 0 = .pointer (some ⟨c'.cr, 0, none⟩); rw [ecr, hk10 0 (by omega) rfl, j9 0 (by omega)]; exact k0)) ?_
    rintro a w6 ⟨l11, v11, rfl, hk11, hi11, hO11, hv11⟩
    have hS11 := hS10.idx hi11 hO11 hv11
    have hL11 : LineAt w6 { c' with rbuf := v10, idx := v11 } L lb lo cp := hL10.row hS10.inv.l (fun k hk => (hS10.inv.idx_far k hk).2) hO11 rfl rfl
    refine seq_part (x := rec18) (rec_zero18 B G w6 _ _ _ f hS11.inv (by show lk l11 f 0 = .pointer (some ⟨c'.cr, 0, none⟩); rw [ecr, hk11 0 (by omega) rfl, hk10 0 (by omega) rfl, j9 0 (by omega)]; exact k0)) ?_
    rintro a w7 ⟨l12, v12, rfl, hk12, hi12, hO12, hv12⟩
    have hS12 := hS11.posr hi12 hO12 hv12
    have hL12 : LineAt w7 { c' with rbuf := v10, idx := v11, pos := v12 } L lb lo cp := hL11.row hS11.inv.l (fun k hk => (hS11.inv.pos_far k hk).2) hO12 rfl rfl
    have j12 : ∀ k, k < 24 → lk l12 f k = lk ((10, Value.int .i64 (c'.numLine : Int)) :: l9) f k := fun k hk => by rw [hk12 k hk rfl, hk11 k hk rfl, hk10 k hk rfl]
    refine seq_part (x := rec19) (rec_p19 B G w7 _ _ _ f hS12.inv (by show lk l12 f 0 = .pointer (some ⟨c'.cr, 0, none⟩); rw [ecr, j12 0 (by omega), j9 0 (by omega)]; exact k0)) ?_
    rintro a w8 ⟨l13, rfl, hk13, hb13, hpb⟩
    refine wp_seq (wp_label ?_)
    have hE : Env c c'.numLine (Csv.enc c'.comma).length s0 := by
      refine ⟨hv, ?_, ?_, by rw [hs0]; rfl, by rw [hs0]; rfl, by rw [hs0]; rfl, by rw [hs0]; exact Nat.le_refl _, fun s hR hq hh => ?_⟩
      · rw [hSk.st.same]; rfl
      · rw [hsize, hs0]
        show 1 + c'.numLine + c'.numLine + _ < _
        omega
      · rcases ht with h | h
        · exact h
        · exact absurd (h _ L (srcOf c') hsk s (by rw [← hs0]; exact hR) hq) hh
    have hT : Tl ((11, .pointer (some ⟨w7.heap.size, 0, none⟩)) :: l13) f c.cr dst (Csv.enc c'.comma).length c'.numLine w7.heap.size (lineV lb lo L.length cp) := by
      have jj : ∀ k, k < 10 → lk ((11, Value.pointer (some ⟨w7.heap.size, 0, none⟩)) :: l13) f k = lk l9 f k := fun k hk => by rw [lk_ne _ _ _ _ _ (by simp; omega), hk13 k (by omega) rfl, j12 k (by omega), lk_ne _ _ _ _ _ (by simp; omega)]
      have j8 : ∀ k, k < 8 → lk l9 f k = lk l5 f k := fun k hk => by rw [hk9 k (by omega) rfl, lk_ne _ _ _ _ _ (by simp; omega), hk8 k (by omega) rfl, j k hk]
      refine ⟨by rw [jj 0 (by omega), j8 0 (by omega)]; exact k0, by rw [jj 1 (by omega), j8 1 (by omega)]; exact k1, by rw [jj 6 (by omega), j8 6 (by omega), k6]; exact hlv, by rw [jj 7 (by omega), j8 7 (by omega), k7, hb]; rfl, ?_, ?_, ?_, lk_same _ _ _ _⟩
      · rw [jj 8 (by omega), hk9 8 (by omega) rfl, lk_ne _ _ _ _ _ rfl, hk8 8 (by omega) rfl, lk_same]
      · rw [jj 9 (by omega), hk9 9 (by omega) rfl, lk_same]
      · rw [lk_ne _ _ _ _ _ rfl, hk13 10 (by omega) rfl, j12 10 (by omega), lk_same]
    have hC : Core B G w1.drew c w8 { c' with rbuf := v10, idx := v11, pos := v12 } { buf := [], idx := [], pos := [] } w7.heap.size (c'.numLine, 1) L lb lo cp :=
      ⟨hS12.below hb13, ⟨hpb, hS12.only.size, fun o => by have := hS12.inv.rown_lt _ o; omega⟩, hL12.below hS12.inv.l hb13, hc1.l.size⟩
    have hH : Head B G w1.drew c dst c'.numLine (Csv.enc c'.comma).length s0 f s0.size (Fr 560 ((11, .pointer (some ⟨w7.heap.size, 0, none⟩)) :: l13) f) w8 := by
      clear hsize hE
      subst hs0
      exact ⟨_, _, _, Csv.St.init (srcOf c') L, w7.heap.size, lb, lo, cp, rfl, hT, hC, ⟨rfl, rfl, rfl, rfl⟩, .refl _, rfl, rfl⟩
    refine seq_part (x := recParse) (rec_parse hE s0.size _ hH) ?_
    intro a w9 hFin
    refine wp_mono (rec_tail hc1 hD1 hFin (by rw [hsize]; omega)) ?_
    rintro e a w10 ⟨rfl, l14, dv, ev, c9, r9, q, rfl, ⟨s, hR, hst⟩, hql, hto⟩
    refine ret2 rfl rfl rfl ?_
    have hrun := hR.done hst s0.size (Nat.le_refl _)
    have hread : (c.rd r).read c.opt = (some q.fields, Csv.counted c.expect c'.numLine q.fields.length q.fail, ⟨q.src, if c.expect = 0 then q.fields.length else c.expect, q.poss⟩) := by
      unfold Csv.Rd.read
      rw [hv]
      have h1 : Csv.skip c.opt ((c.rd r).src.left.length + 1) (c.rd r).src = (some L, srcOf c') := hsk
      rw [h1]
      simp only [Bool.not_true, Bool.false_eq_true, if_false, ← hs0]
      have h2 : (srcOf c').numLine = c'.numLine := rfl
      rw [h2, hrun]
      rfl
    refine ⟨dv, ev, c9, r9, by simp [lk], ?_⟩
    rw [hread]
    have hbn := hR.bnd.num
    have hss := step_src hst
    refine ⟨hto.inv, hto.same, ?_, .inl ?_, hto.root, ?_, .inr ⟨q.fields, rfl, hto.put, ?_, ?_⟩⟩
    · show (⟨srcOf c9, c9.expect, r9.pos⟩ : Csv.Rd) = _
      rw [hto.src, hto.expect, hto.poss]
    · exact hto.err
    · have h3 : c9.numLine = s.src.numLine := by rw [← hss, ← hto.src]; rfl
      have h4 : c9.b.rest = s.src.left := by rw [← hss, ← hto.src]; rfl
      have h5 : s0.src.numLine = c'.numLine := by rw [hs0]; rfl
      have h6 : s.size = s.line.length + s.src.left.length + 1 := rfl
      rw [h3, h4]
      omega
    · omega
    · exact (Only.refl _ w1).drew.then hto.only
  · refine ret2 rfl rfl rfl ?_
    rcases hSk.res with ⟨h, hskip⟩ | ⟨h, _⟩
    rotate_left
    · rw [hb] at h; cases h
    have hread : (c.rd r).read c.opt = (none, ⟨1, 0, 0, 0⟩, { (c.rd r) with src := srcOf c' }) := by
      unfold Csv.Rd.read
      rw [hv]
      have h1 : Csv.skip c.opt ((c.rd r).src.left.length + 1) (c.rd r).src = (none, srcOf c') := hskip _ (by show c.b.rest.length < c.b.rest.length + 1; omega)
      rw [h1]
      rfl
    refine ⟨_, _, c', r, rfl, ?_⟩
    rw [hread]
    refine ⟨hSk.st.inv, ?_, ?_, .inr (.inl ⟨rfl, by simp [lk]⟩), hSk.st.root, by have := hSk.small; omega, .inl ⟨rfl, by simp [lk], hO1⟩⟩
    · rw [hSk.st.same]
    · have : c'.expect = c.expect := by rw [hSk.st.same]
      show (⟨srcOf c', c'.expect, r.pos⟩ : Csv.Rd) = _
      rw [this]; rfl
end Go.Proofs.YtfadgnopfjajbaaGreatDoor
