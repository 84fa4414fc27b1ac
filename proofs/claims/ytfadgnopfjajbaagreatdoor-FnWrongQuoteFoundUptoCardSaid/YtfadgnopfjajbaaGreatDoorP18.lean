/- A part of the proof: spec.Said of the empty text; laws.legal. Tables that came in; laws.filled. laws.unix, spec.Quoted. The Builder; laws.table's regions. laws.table: its loops. -/
import Derived.Test.YtfadgnopfjajbaaGreatDoorP17
namespace Go.Proofs.YtfadgnopfjajbaaGreatDoor
open Go.RowKit
/-- The delimiter and the comment character are permitted. -/
def LegalO (comma comment : Int) : Prop := LegalR comma ∧ (comment = 0 ∨ (LegalR comment ∧ comment ≠ comma))
theorem undef_bool {b : Bool} {p : Prop} (h : some undef = some (Value.bool b)) : p := by cases h
noncomputable def sdBody : Code := (Tryz.f38.body).getD .skip
noncomputable def sd0 : Code := part [false] sdBody
noncomputable def sd1 : Code := part [true, false, false] sdBody
noncomputable def sd2 : Code := part [true, false, true, false, false] sdBody
noncomputable def sd3 : Code := part [true, true, false, false] sdBody
noncomputable def sd4 : Code := part [true, true, false, true, false, false] sdBody
noncomputable def sd5 : Code := part [true, true, true, false] sdBody
set_option maxRecDepth 100000 in
theorem sd_eq : sdBody = Code.seq sd0 (.seq (.seq sd1 (.cond (.tmp 26) (.seq sd2 .ret) .skip)) (.seq (.seq sd3 (.cond (.tmp 32) (.seq sd4 .ret) .skip)) (.seq sd5 .ret))) := by kernel_rfl
abbrev dsV : List Nat := [0, 3]
set_option maxRecDepth 100000 in
theorem sd_p0 (w : World) (l : List (Nat × Value)) (f : Nat → Value) (comma comment expect : Int) (lz tr : Bool) (h1 : lk l f 1 = .agg (spCells comma comment expect lz tr).toArray) :
    sd0.wp Tryz.prog (NPost fun a w' => ∃ l', a = Fr 48 l' f ∧ VKeeps dsV [3] l f l' ∧ lk l' f 3 = .pointer (some ⟨w.heap.size, 0, none⟩) ∧ Below w.heap.size w w' ∧ Blk w' w.heap.size 42 (spCells comma comment expect lz tr)) (Fr 48 l f) w := by
  dsimp only [sd0, sdBody, part, part.sub2', sub1, sub2, Tryz.f38, Option.getD]
  dsimp only [spCells] at h1
  go_wp
  exact NPost.mk ⟨_, rfl, (by repeat first | exact VKeeps.refl _ _ _ _ | refine VKeeps.far (by decide) ?_ | refine VKeeps.set (by decide) ?_), by simp [lk], (Below.refl _ w).alloc (Nat.le_refl _) _, Blk.new_arr w _ _⟩
set_option maxRecDepth 100000 in
set_option maxHeartbeats 1000000 in
theorem sd_p1 (w : World) (l : List (Nat × Value)) (f : Nat → Value) (ob : Nat) (comma comment expect : Int) (lz tr : Bool) (h3 : lk l f 3 = .pointer (some ⟨ob, 0, none⟩)) (hob : Blk w ob 42 (spCells comma comment expect lz tr)) :
    sd1.wp Tryz.prog (NPost fun a w' => ∃ l' b, a = Fr 48 ((26, .bool b) :: l') f ∧ VKeeps dsV [] l f l' ∧ (b = false → LegalO comma comment) ∧ w' = w) (Fr 48 l f) w := by
  dsimp only [sd1, sdBody, part, part.sub2', sub1, sub2, Tryz.f38, Option.getD]
  have hc := hob.cell
  dsimp only [spCells] at hc
  clear hob
  go_wp
  refine (Legal_any w comma).mono ?_
  rintro e w1 ⟨b1, rfl, hb1, rfl⟩
  have H1 := Lib.hid hb1
  clear hb1
  dsimp only
  cases b1
  · go_wp
    all_goals first | exact undef_bool (by assumption) | exact NPost.mk ⟨_, _, rfl, (by repeat first | exact VKeeps.refl _ _ _ _ | refine VKeeps.far (by decide) ?_ | refine VKeeps.set (by decide) ?_), (fun h => by simp at h), rfl⟩
  · by_cases h0 : comment = 0
    · subst h0
      go_wp
      all_goals first | exact undef_bool (by assumption) | exact NPost.mk ⟨_, _, rfl, (by repeat first | exact VKeeps.refl _ _ _ _ | refine VKeeps.far (by decide) ?_ | refine VKeeps.set (by decide) ?_), (fun _ => ⟨H1.out rfl, .inl rfl⟩), rfl⟩
    · go_wp
      refine (Legal_any w1 comment).mono ?_
      rintro e w2 ⟨b2, rfl, hb2, rfl⟩
      have H2 := Lib.hid hb2
      clear hb2
      dsimp only
      cases b2
      · go_wp
        all_goals first | exact undef_bool (by assumption) | exact NPost.mk ⟨_, _, rfl, (by repeat first | exact VKeeps.refl _ _ _ _ | refine VKeeps.far (by decide) ?_ | refine VKeeps.set (by decide) ?_), (fun h => absurd (by simpa using h) h0), rfl⟩
      · by_cases he : comment = comma
        · subst he
          go_wp
          all_goals first | exact undef_bool (by assumption) | exact NPost.mk ⟨_, _, rfl, (by repeat first | exact VKeeps.refl _ _ _ _ | refine VKeeps.far (by decide) ?_ | refine VKeeps.set (by decide) ?_), (fun h => absurd (by simpa using h) h0), rfl⟩
        · go_wp
          all_goals first | exact undef_bool (by assumption) | exact NPost.mk ⟨_, _, rfl, (by repeat first | exact VKeeps.refl _ _ _ _ | refine VKeeps.far (by decide) ?_ | refine VKeeps.set (by decide) ?_), (fun _ => ⟨H1.out rfl, .inr ⟨H2.out rfl, he⟩⟩), rfl⟩
set_option maxRecDepth 100000 in
theorem sd_p2 (w : World) (l : List (Nat × Value)) (f : Nat → Value) : sd2.wp Tryz.prog (NPost fun a w' => a = Fr 48 ((4, .bool false) :: l) f ∧ w' = w) (Fr 48 l f) w := by
  dsimp only [sd2, sdBody, part, part.sub2', sub1, sub2, Tryz.f38, Option.getD]
  go_wp
  exact NPost.mk ⟨rfl, rfl⟩
theorem enc_le {r : Int} (hv : Utf8.valid r = true) : (Csv.enc r).length ≤ 4 := by
  unfold Utf8.valid at hv
  simp only [Bool.or_eq_true, Bool.and_eq_true, decide_eq_true_eq] at hv
  obtain ⟨c, rfl⟩ := Int.eq_ofNat_of_zero_le (show 0 ≤ r by omega)
  rw [enc_eq]
  by_cases h1 : c < 128
  · rw [enc1 c h1]; simp
  by_cases h2 : c < 2048
  · rw [enc2 c (by omega) h2]; simp
  by_cases h3 : c < 65536
  · rw [enc3 c (by omega) h3 (by omega)]; simp
  · rw [enc4 c (by omega) (by omega)]; simp
theorem contains_nil : Lib.contains (⟨#[]⟩ : ByteArray).data.toList (⟨#[13, 13, 10]⟩ : ByteArray).data.toList = false := by decide
theorem suffix_nil : Lib.hasSuffix (⟨#[]⟩ : ByteArray).data.toList (⟨#[13]⟩ : ByteArray).data.toList = false := by decide
set_option maxRecDepth 100000 in
theorem sd_p3 (w : World) (l : List (Nat × Value)) (f : Nat → Value) (h0 : lk l f 0 = .string ⟨#[]⟩) (hm : MaxAt w) :
    sd3.wp Tryz.prog (NPost fun a w' => ∃ l', a = Fr 48 ((32, .bool false) :: l') f ∧ VKeeps dsV [] l f l' ∧ w' = w) (Fr 48 l f) w := by
  dsimp only [sd3, sdBody, part, part.sub2', sub1, sub2, Tryz.f38, Option.getD]
  have HC := Contains_any w ⟨#[]⟩ ⟨#[13, 13, 10]⟩ hm (by decide)
  have HS := HasSuffix_any w ⟨#[]⟩ ⟨#[13]⟩ (by decide)
  rw [contains_nil] at HC
  rw [suffix_nil] at HS
  have HC := Lib.hid HC
  have HS := Lib.hid HS
  clear hm
  go_wp
  refine HC.out.mono ?_
  rintro e w1 ⟨rfl, rfl⟩
  clear HC
  dsimp only
  go_wp
  refine HS.out.mono ?_
  rintro e w2 ⟨rfl, rfl⟩
  clear HS
  dsimp only
  go_wp
  exact NPost.mk ⟨_, rfl, (by repeat first | exact VKeeps.refl _ _ _ _ | refine VKeeps.far (by decide) ?_ | refine VKeeps.set (by decide) ?_), rfl⟩
set_option maxRecDepth 100000 in
set_option maxHeartbeats 1000000 in
theorem sd_p5 (w : World) (l : List (Nat × Value)) (f : Nat → Value) (ob : Nat) (comma comment expect : Int) (lz tr : Bool) (h0 : lk l f 0 = .string ⟨#[]⟩) (h3 : lk l f 3 = .pointer (some ⟨ob, 0, none⟩)) (hob : Blk w ob 42 (spCells comma comment expect lz tr)) (hm : MaxAt w) (hv : Utf8.valid comma = true) :
    sd5.wp Tryz.prog (NPost fun a w' => ∃ l' b, a = Fr 48 ((4, .bool b) :: l') f ∧ Below w.heap.size w w') (Fr 48 l f) w := by
  dsimp only [sd5, sdBody, part, part.sub2', sub1, sub2, Tryz.f38, Option.getD]
  have HO := Lib.hid hob
  have hc := hob.cell
  dsimp only [spCells] at hc
  have HM := Lib.hid hm
  clear hob hm
  cases tr
  · go_wp
    all_goals first | exact undef_bool (by assumption) | exact NPost.mk ⟨_, _, rfl, Below.refl _ _⟩
  · go_wp
    refine (hasRare_any w ⟨#[]⟩ HM.out (by decide)).mono ?_
    rintro e w1 ⟨b1, rfl, hb1⟩
    clear hc
    have hc := (HO.out.below hb1 HO.out.lt).cell
    dsimp only [spCells] at hc
    have H1 := Lib.hid hb1
    clear hb1
    dsimp only
    cases b1
    · go_wp
      refine (Encoded_any w1 comma hv).mono ?_
      rintro e w2 ⟨rfl, hb2⟩
      have H2 := Lib.hid (H1.out.trans (hb2.mono H1.out.size))
      have hlen : (⟨(Csv.enc comma).toArray⟩ : ByteArray).size < 4294967281 := by
        show (Csv.enc comma).toArray.size < _
        have := enc_le hv
        simp only [List.size_toArray]; omega
      have H3 := Lib.hid (hasRare_any w2 ⟨(Csv.enc comma).toArray⟩ (HM.out.next H2.out) hlen)
      clear hb2 hc hlen
      dsimp only
      generalize (⟨(Csv.enc comma).toArray⟩ : ByteArray) = s' at H3 ⊢
      go_wp
      refine H3.out.mono ?_
      rintro e w3 ⟨b3, rfl, hb3⟩
      have H4 := Lib.hid (H2.out.trans (hb3.mono H2.out.size))
      clear hb3 H3
      dsimp only
      go_wp
      all_goals first | exact undef_bool (by assumption) | exact NPost.mk ⟨_, _, rfl, H4.out⟩
    · go_wp
      all_goals first | exact undef_bool (by assumption) | exact NPost.mk ⟨_, _, rfl, H1.out⟩
/-- Said of the empty text. -/
theorem Said_nil (w : World) (comma comment expect : Int) (lz tr : Bool) (hm : MaxAt w) : Calls Tryz.prog 38 [.string ⟨#[]⟩, .agg (spCells comma comment expect lz tr).toArray].toArray w fun e w' => ∃ b, e = .returned (.bool b) ∧ (b = true → LegalO comma comment) ∧ Below w.heap.size w w' := by
  refine enter 48 Tryz.func38 rfl rfl (by simp) ?_
  show sdBody.wp _ _ _ _
  rw [sd_eq]
  refine seq_part (sd_p0 w _ _ comma comment expect lz tr rfl) ?_
  rintro x w1 ⟨l1, rfl, K1, k3, hb1, hob⟩
  have k0 : lk l1 (fun _ => undef) 0 = .string ⟨#[]⟩ := (K1 0 rfl rfl).trans rfl
  refine wp_seq_mid (fun a w' => ∃ l', a = Fr 48 l' (fun _ => undef) ∧ lk l' (fun _ => undef) 0 = .string ⟨#[]⟩ ∧ lk l' (fun _ => undef) 3 = .pointer (some ⟨w.heap.size, 0, none⟩) ∧ LegalO comma comment ∧ w' = w1) (seq_part (sd_p1 w1 l1 _ _ comma comment expect lz tr k3 hob) ?_) ?_
  · rintro x w2 ⟨l2, b, rfl, K2, hb, rfl⟩
    cases b
    · refine wp_if_false rfl (by simp [lk]) (wp_skip ?_)
      simp only [Exit.then]
      exact ⟨_, rfl, by rw [lk_ne _ _ _ _ _ rfl, K2 0 rfl rfl, k0], by rw [lk_ne _ _ _ _ _ rfl, K2 3 rfl rfl, k3], hb rfl, trivial⟩
    · refine wp_if_true rfl (by simp [lk]) (seq_part (sd_p2 w2 _ _) ?_)
      rintro x w3 ⟨rfl, rfl⟩
      refine wp_ret ?_
      simp only [Exit.then]
      exact ret1 rfl rfl ⟨false, by simp [lk], (fun h => by simp at h), hb1⟩
  rintro x w2 ⟨l2, rfl, k0, k3, hL, rfl⟩
  refine seq_part (R := fun a w' => ∃ l', a = Fr 48 l' (fun _ => undef) ∧ lk l' (fun _ => undef) 0 = .string ⟨#[]⟩ ∧ lk l' (fun _ => undef) 3 = .pointer (some ⟨w.heap.size, 0, none⟩) ∧ w' = w2) (seq_part (sd_p3 w2 l2 _ k0 (hm.next hb1)) ?_) ?_
  · rintro x w3 ⟨l3, rfl, K3, rfl⟩
    exact wp_if_false rfl (by simp [lk]) (wp_skip (NPost.mk ⟨_, rfl, by rw [lk_ne _ _ _ _ _ rfl, K3 0 rfl rfl, k0], by rw [lk_ne _ _ _ _ _ rfl, K3 3 rfl rfl, k3], rfl⟩))
  rintro x w3 ⟨l3, rfl, k0, k3, rfl⟩
  refine seq_part (sd_p5 w3 l3 _ _ comma comment expect lz tr k0 k3 hob (hm.next hb1) hL.1.2) ?_
  rintro x w4 ⟨l4, b, rfl, hb4⟩
  exact wp_ret (ret1 rfl rfl ⟨b, by simp [lk], fun _ => hL, hb1.trans (hb4.mono hb1.size)⟩)
noncomputable def leBody : Code := (Tryz.f9.body).getD .skip
noncomputable def le0 : Code := part [false] leBody
noncomputable def le1 : Code := part [true, false] leBody
set_option maxRecDepth 100000 in
theorem le_eq : leBody = Code.seq le0 (.seq le1 .ret) := by kernel_rfl
set_option maxRecDepth 100000 in
theorem le_p0 (w : World) (l : List (Nat × Value)) (f : Nat → Value) (comma comment expect : Int) (lz tr re : Bool) (h0 : lk l f 0 = .agg (optCells comma comment expect lz tr re).toArray) :
    le0.wp Tryz.prog (NPost fun a w' => ∃ l', a = Fr 6 l' f ∧ lk l' f 1 = .pointer (some ⟨w.heap.size, 0, none⟩) ∧ Below w.heap.size w w' ∧ Blk w' w.heap.size 26 (optCells comma comment expect lz tr re)) (Fr 6 l f) w := by
  dsimp only [le0, leBody, part, part.sub2', sub1, sub2, Tryz.f9, Option.getD]
  dsimp only [optCells] at h0
  go_wp
  exact NPost.mk ⟨_, rfl, by simp [lk], (Below.refl _ w).alloc (Nat.le_refl _) _, Blk.new_arr w _ _⟩
set_option maxRecDepth 100000 in
theorem le_p1 (w : World) (l : List (Nat × Value)) (f : Nat → Value) (ob : Nat) (comma comment expect : Int) (lz tr re : Bool) (h1 : lk l f 1 = .pointer (some ⟨ob, 0, none⟩)) (hob : Blk w ob 26 (optCells comma comment expect lz tr re)) (hm : MaxAt w) (comma' : Int) (hcm : (if comma = 0 then 44 else comma) = comma') :
    le1.wp Tryz.prog (NPost fun a w' => ∃ l' b, a = Fr 6 ((2, .bool b) :: l') f ∧ (b = true → LegalO comma' comment) ∧ Below w.heap.size w w') (Fr 6 l f) w := by
  dsimp only [le1, leBody, part, part.sub2', sub1, sub2, Tryz.f9, Option.getD]
  have hc := hob.cell
  dsimp only [optCells] at hc
  have HM := Lib.hid hm
  clear hob hm
  go_wp
  refine (chosen_any w comma comment expect lz tr re).mono ?_
  rintro e w1 ⟨rfl, hb1⟩
  rw [hcm]
  clear hcm
  have H1 := Lib.hid hb1
  have HS := Lib.hid (Said_nil w1 comma' comment expect lz tr (HM.out.next hb1))
  clear hb1 hc
  dsimp only [spCells]
  go_wp
  refine HS.out.mono ?_
  rintro e w2 ⟨b, rfl, hb, hb2⟩
  have H2 := Lib.hid (And.intro hb (H1.out.trans (hb2.mono H1.out.size)))
  clear hb hb2
  dsimp only
  go_wp
  exact NPost.mk ⟨_, b, rfl, H2.out.1, H2.out.2⟩
/-- legal. -/
theorem legal_any (w : World) (comma comment expect : Int) (lz tr re : Bool) (hm : MaxAt w) : Calls Tryz.prog 9 [.agg (optCells comma comment expect lz tr re).toArray].toArray w fun e w' => ∃ b, e = .returned (.bool b) ∧ (b = true → LegalO (if comma = 0 then 44 else comma) comment) ∧ Below w.heap.size w w' := by
  refine enter 6 Tryz.func9 rfl rfl (by simp) ?_
  show leBody.wp _ _ _ _
  rw [le_eq]
  refine seq_part (le_p0 w _ _ comma comment expect lz tr re rfl) ?_
  rintro x w1 ⟨l1, rfl, k1, hb1, hob⟩
  refine seq_part (le_p1 w1 l1 _ _ comma comment expect lz tr re k1 hob (hm.next hb1) _ rfl) ?_
  rintro x w2 ⟨l2, b, rfl, hb, hb2⟩
  exact wp_ret (ret1 rfl rfl ⟨b, by simp [lk], hb, hb1.trans (hb2.mono hb1.size)⟩)
end Go.Proofs.YtfadgnopfjajbaaGreatDoor
namespace Go.Proofs.YtfadgnopfjajbaaGreatDoor
open Go.RowKit
/-- Strings in memory that is there. -/
def StrIn (w : World) (v : Value) (fs : List (List UInt8)) : Prop := ∃ A c, v = .slice A fs.length c ∧ fs.length ≤ 9223372036854775807 ∧ (0 < fs.length → ∃ b o, A = some ⟨b, o, none⟩ ∧ b < w.heap.size ∧ ∀ (j : Nat) (x : List UInt8), fs[j]? = some x → w.cell? ⟨b, o + j, none⟩ = some (strV x))
theorem StrIn.next {w w' : World} {v : Value} {fs : List (List UInt8)} (h : StrIn w v fs) (hb : Below w.heap.size w w') : StrIn w' v fs := by
  obtain ⟨A, c, hv, hl, hx⟩ := h
  refine ⟨A, c, hv, hl, fun hp => ?_⟩
  obtain ⟨b, o, h1, h2, h3⟩ := hx hp
  exact ⟨b, o, h1, Nat.lt_of_lt_of_le h2 hb.size, fun j x hj => (hb.cell (p := ⟨b, o + j, none⟩) h2).trans (h3 j x hj)⟩
theorem StrIn.read {w : World} {v : Value} {fs : List (List UInt8)} (h : StrIn w v fs) : StrR w v fs := by
  obtain ⟨A, c, hv, _, hx⟩ := h
  refine ⟨A, c, hv, fun hp => ?_⟩
  obtain ⟨b, o, h1, h2, h3⟩ := hx hp
  exact ⟨b, o, h1, h3⟩
theorem StrS.isIn {B : Nat} {w : World} {v : Value} {fs : List (List UInt8)} (h : StrS B w v fs) : StrIn w v fs := by
  obtain ⟨A, c, hv, h1, h2, h3, h4⟩ := h.form
  refine ⟨A, c, hv, by simp only [maxLen] at h2; omega, fun hp => ?_⟩
  cases hA : A with
  | none => have := (h3 hA).1; rw [this] at hp; simp at hp
  | some a =>
    obtain ⟨g, rfl, _, hg⟩ := h4 a hA
    refine ⟨g, 0, rfl, hg, fun j x hj => ?_⟩
    rw [hv, hA] at h
    rw [Nat.zero_add]; exact (h.cell j x hj).2
/-- A table in memory that is there. -/
def RowsIn (w : World) (v : Value) (rows : List (List (List UInt8))) : Prop := ∃ A c, v = .slice A rows.length c ∧ rows.length ≤ 9223372036854775807 ∧ (0 < rows.length → ∃ b o, A = some ⟨b, o, none⟩ ∧ b < w.heap.size ∧ ∀ (j : Nat) (r : List (List UInt8)), rows[j]? = some r → ∃ u, w.cell? ⟨b, o + j, none⟩ = some u ∧ StrIn w u r)
theorem RowsIn.next {w w' : World} {v : Value} {rows : List (List (List UInt8))} (h : RowsIn w v rows) (hb : Below w.heap.size w w') : RowsIn w' v rows := by
  obtain ⟨A, c, hv, hl, hx⟩ := h
  refine ⟨A, c, hv, hl, fun hp => ?_⟩
  obtain ⟨b, o, h1, h2, h3⟩ := hx hp
  refine ⟨b, o, h1, Nat.lt_of_lt_of_le h2 hb.size, fun j r hj => ?_⟩
  obtain ⟨u, g1, g2⟩ := h3 j r hj
  exact ⟨u, (hb.cell (p := ⟨b, o + j, none⟩) h2).trans g1, g2.next hb⟩
theorem RecsS.isIn {B : Nat} {w : World} {v : Value} {rss : List (List (List UInt8))} {vs : List Value} (h : RecsS B w v rss vs) : RowsIn w v rss := by
  obtain ⟨A, c, hv, h1, h2, h3, h4⟩ := ownsRow_form h.row
  refine ⟨A, c, hv, by simp only [maxLen] at h2; omega, fun hp => ?_⟩
  cases hA : A with
  | none => have := (h3 hA).1; omega
  | some a =>
    obtain ⟨g, rfl, _, hg⟩ := h4 a hA
    refine ⟨g, 0, rfl, hg, fun j r hj => ?_⟩
    obtain ⟨u, hu, hs⟩ := h.each j r hj
    refine ⟨u, ?_, hs.isIn⟩
    have hr := h.row
    rw [hv, hA] at hr
    have := World.ownsRow.cells hr (g := g) rfl j u hu
    rw [Addr.add_mk] at this
    simpa using this
/-- A row of a table. -/
theorem RowsIn.at {w : World} {v : Value} {rows : List (List (List UInt8))} (h : RowsIn w v rows) {j : Nat} (hj : j < rows.length) : ∃ b o c u A' c', v = .slice (some ⟨b, o, none⟩) rows.length c ∧ w.cell? ⟨b, o + j, none⟩ = some u ∧ StrIn w u rows[j] ∧ u = .slice A' rows[j].length c' ∧ b < w.heap.size := by
  obtain ⟨A, c, hv, hl, hx⟩ := h
  obtain ⟨b, o, rfl, h2, h3⟩ := hx (by omega)
  obtain ⟨u, g1, g2⟩ := h3 j rows[j] (List.getElem?_eq_getElem hj)
  obtain ⟨A', c', hu, _⟩ := id g2
  exact ⟨b, o, c, u, A', c', hv, g1, g2, hu, h2⟩
theorem sub_pred {n k : Nat} (h : n - k < n) (hk : k ≤ n) : n - (k - 1) = n - k + 1 := by omega
theorem pred_lt {n k : Nat} (h : n - k < n) : k - 1 < k := by omega
theorem pred_le {n k : Nat} (h : k ≤ n) : k - 1 ≤ n := by omega
theorem sub_same {n k : Nat} (h : ¬ n - k < n) : n - k = n := by omega
noncomputable def ixBody : Code := (Tryz.f63.body).getD .skip
noncomputable def ix0 : Code := part [false] ixBody
noncomputable def ix1 : Code := part [true, false, false] ixBody
noncomputable def ix2 : Code := part [true, false, true, false, false, false] ixBody
noncomputable def ix3 : Code := part [true, false, true, false, false, true, true, false, false, false] ixBody
noncomputable def ix4 : Code := part [true, false, true, false, false, true, true, false, false, true, false] ixBody
noncomputable def ix5 : Code := part [true, false, true, false, false, true, true, false, false, true, true, false, false] ixBody
noncomputable def ix6 : Code := part [true, false, true, false, false, true, true, true] ixBody
noncomputable def ix7 : Code := part [true, true, false] ixBody
set_option maxRecDepth 100000 in
theorem ix_eq : ixBody = Code.seq ix0 (.seq (.seq ix1 (.block 0 (.loop (.seq ix2 (.seq (.cond (.tmp 9) .skip (.exit 0)) (.seq (.block 1 (.seq ix3 (.seq ix4 (.cond (.tmp 16) (.seq ix5 .ret) .skip)))) ix6)))))) (.seq ix7 .ret)) := by kernel_rfl
abbrev xV : List Nat := [0, 1, 5, 6, 7, 8]
set_option maxRecDepth 100000 in
theorem ix_p0 (w : World) (l : List (Nat × Value)) (f : Nat → Value) : ix0.wp Tryz.prog (NPost fun a w' => a = Fr 19 ((4, .int .i64 0) :: l) f ∧ w' = w) (Fr 19 l f) w := by
  dsimp only [ix0, ixBody, part, part.sub2', sub1, sub2, Tryz.f63, Option.getD]
  go_wp
  exact NPost.mk ⟨rfl, rfl⟩
set_option maxRecDepth 100000 in
theorem ix_p1 (w : World) (l : List (Nat × Value)) (f : Nat → Value) (A : Option Addr) (n c : Nat) (h0 : lk l f 0 = .slice A n c) : ix1.wp Tryz.prog (NPost fun a w' => ∃ l', a = Fr 19 l' f ∧ VKeeps xV [6, 7, 8] l f l' ∧ lk l' f 7 = .int .i64 (n : Int) ∧ lk l' f 8 = .int .i64 ((0 : Nat) : Int) ∧ w' = w) (Fr 19 l f) w := by
  dsimp only [ix1, ixBody, part, part.sub2', sub1, sub2, Tryz.f63, Option.getD]
  go_wp
  exact NPost.mk ⟨_, rfl, (by repeat first | exact VKeeps.refl _ _ _ _ | refine VKeeps.far (by decide) ?_ | refine VKeeps.set (by decide) ?_), by simp [lk], by simp [lk], rfl⟩
set_option maxRecDepth 100000 in
theorem ix_p2 (w : World) (l : List (Nat × Value)) (f : Nat → Value) (i n : Nat) (h8 : lk l f 8 = .int .i64 (i : Int)) (h7 : lk l f 7 = .int .i64 (n : Int)) : ix2.wp Tryz.prog (NPost fun a w' => ∃ l', a = Fr 19 ((9, .bool (decide (i < n))) :: l') f ∧ VKeeps xV [] l f l' ∧ w' = w) (Fr 19 l f) w := by
  dsimp only [ix2, ixBody, part, part.sub2', sub1, sub2, Tryz.f63, Option.getD]
  go_wp
  exact NPost.mk ⟨_, rfl, (by repeat first | exact VKeeps.refl _ _ _ _ | refine VKeeps.far (by decide) ?_ | refine VKeeps.set (by decide) ?_), rfl⟩
set_option maxRecDepth 100000 in
theorem ix_p3 (w : World) (l : List (Nat × Value)) (f : Nat → Value) (i : Nat) (h8 : lk l f 8 = .int .i64 (i : Int)) : ix3.wp Tryz.prog (NPost fun a w' => ∃ l', a = Fr 19 ((5, .int .i64 (i : Int)) :: l') f ∧ VKeeps xV [] l f l' ∧ w' = w) (Fr 19 l f) w := by
  dsimp only [ix3, ixBody, part, part.sub2', sub1, sub2, Tryz.f63, Option.getD]
  go_wp
  exact NPost.mk ⟨_, rfl, (by repeat first | exact VKeeps.refl _ _ _ _ | refine VKeeps.far (by decide) ?_ | refine VKeeps.set (by decide) ?_), rfl⟩
set_option maxRecDepth 100000 in
theorem filled1_any (w : World) (A : Option Addr) (n c : Nat) : Calls Tryz.prog 40 [.slice A n c].toArray w fun e w' => e = .returned (.bool (decide (n = 0))) ∧ w' = w := by
  refine enter 6 Tryz.func40 rfl rfl (by simp) ?_
  go_wp
  refine ret1 rfl rfl ⟨?_, rfl⟩
  simp [lk]
  cases n <;> rfl
set_option maxRecDepth 100000 in
theorem ix_p4 (w : World) (l : List (Nat × Value)) (f : Nat → Value) (b o i n c : Nat) (A : Option Addr) (un uc : Nat) (h0 : lk l f 0 = .slice (some ⟨b, o, none⟩) n c) (h1 : lk l f 1 = .func (.func 40) #[] #[]) (h5 : lk l f 5 = .int .i64 (i : Int)) (hi : i < n) (hc : w.cell? ⟨b, o + i, none⟩ = some (.slice A un uc)) (b' : Bool) (hb' : decide (un = 0) = b') : ix4.wp Tryz.prog (NPost fun a w' => ∃ l', a = Fr 19 ((16, .bool b') :: l') f ∧ VKeeps xV [] l f l' ∧ w' = w) (Fr 19 l f) w := by
  dsimp only [ix4, ixBody, part, part.sub2', sub1, sub2, Tryz.f63, Option.getD]
  have HF := filled1_any w A un uc
  rw [hb'] at HF
  have HF := Lib.hid HF
  clear hb'
  go_wp
  refine HF.out.mono ?_
  rintro e w1 ⟨rfl, rfl⟩
  clear HF
  dsimp only
  go_wp
  exact NPost.mk ⟨_, rfl, (by repeat first | exact VKeeps.refl _ _ _ _ | refine VKeeps.far (by decide) ?_ | refine VKeeps.set (by decide) ?_), rfl⟩
set_option maxRecDepth 100000 in
theorem ix_p5 (w : World) (l : List (Nat × Value)) (f : Nat → Value) (i : Nat) (h5 : lk l f 5 = .int .i64 (i : Int)) : ix5.wp Tryz.prog (NPost fun a w' => ∃ l', a = Fr 19 ((4, .int .i64 (i : Int)) :: l') f ∧ w' = w) (Fr 19 l f) w := by
  dsimp only [ix5, ixBody, part, part.sub2', sub1, sub2, Tryz.f63, Option.getD]
  go_wp
  exact NPost.mk ⟨_, rfl, rfl⟩
set_option maxRecDepth 100000 in
theorem ix_p6 (w : World) (l : List (Nat × Value)) (f : Nat → Value) (i : Nat) (h8 : lk l f 8 = .int .i64 (i : Int)) (hi : i < 9223372036854775807) : ix6.wp Tryz.prog (NPost fun a w' => ∃ l', a = Fr 19 ((8, .int .i64 ((i + 1 : Nat) : Int)) :: l') f ∧ VKeeps xV [] l f l' ∧ w' = w) (Fr 19 l f) w := by
  dsimp only [ix6, ixBody, part, part.sub2', sub1, sub2, Tryz.f63, Option.getD]
  go_wp
  exact NPost.mk ⟨_, rfl, (by repeat first | exact VKeeps.refl _ _ _ _ | refine VKeeps.far (by decide) ?_ | refine VKeeps.set (by decide) ?_), rfl⟩
set_option maxRecDepth 100000 in
theorem ix_p7 (w : World) (l : List (Nat × Value)) (f : Nat → Value) : ix7.wp Tryz.prog (NPost fun a w' => a = Fr 19 ((4, .int .i64 (-1)) :: l) f ∧ w' = w) (Fr 19 l f) w := by
  dsimp only [ix7, ixBody, part, part.sub2', sub1, sub2, Tryz.f63, Option.getD]
  go_wp
  exact NPost.mk ⟨rfl, rfl⟩
/-- IndexFunc at filled's function: below 0 if no row is empty. -/
theorem IndexRows_any (w : World) (v : Value) (rows : List (List (List UInt8))) (h : RowsIn w v rows) : Calls Tryz.prog 63 [v, .func (.func 40) #[] #[]].toArray w fun e w' => ∃ z, e = .returned (.int .i64 z) ∧ (z < 0 → ∀ r ∈ rows, r ≠ []) ∧ w' = w := by
  obtain ⟨A, c, hv, hl, _⟩ := id h
  rw [hv]
  refine enter 19 Tryz.func63 rfl rfl (by simp) ?_
  show ixBody.wp _ _ _ _
  rw [ix_eq]
  refine seq_part (ix_p0 w _ _) ?_
  rintro x w1 ⟨rfl, rfl⟩
  refine wp_seq_mid (fun a w' => ∃ l', a = Fr 19 l' (fun _ => undef) ∧ (∀ r ∈ rows, r ≠ []) ∧ w' = w1) ?_ ?_
  · refine seq_part (ix_p1 w1 _ _ A rows.length c (by simp [lk])) ?_
    rintro x w2 ⟨l2, rfl, K2, k7, k8, rfl⟩
    refine wp_block ?_
    refine wp_loop_n (fun k a w' => ∃ l', a = Fr 19 l' (fun _ => undef) ∧ lk l' (fun _ => undef) 0 = .slice A rows.length c ∧ lk l' (fun _ => undef) 1 = .func (.func 40) #[] #[] ∧ lk l' (fun _ => undef) 7 = .int .i64 (rows.length : Int) ∧ lk l' (fun _ => undef) 8 = .int .i64 ((rows.length - k : Nat) : Int) ∧ k ≤ rows.length ∧ (∀ r ∈ rows.take (rows.length - k), r ≠ []) ∧ w' = w2) rows.length ⟨l2, rfl, (K2 0 rfl rfl).trans (by simp [lk]), (K2 1 rfl rfl).trans (by simp [lk]), k7, by rw [Nat.sub_self]; exact k8, Nat.le_refl _, by simp, rfl⟩ ?_
    rintro k a w3 ⟨l3, rfl, q0, q1, q7, q8, hk, hne, rfl⟩
    refine seq_part (ix_p2 w3 l3 _ (rows.length - k) rows.length q8 q7) ?_
    rintro x w4 ⟨l4, rfl, K4, rfl⟩
    have r0 : lk ((9, .bool (decide (rows.length - k < rows.length))) :: l4) (fun _ => undef) 0 = .slice A rows.length c := by rw [lk_ne _ _ _ _ _ rfl, K4 0 rfl rfl, q0]
    have r1 : lk ((9, .bool (decide (rows.length - k < rows.length))) :: l4) (fun _ => undef) 1 = .func (.func 40) #[] #[] := by rw [lk_ne _ _ _ _ _ rfl, K4 1 rfl rfl, q1]
    have r7 : lk ((9, .bool (decide (rows.length - k < rows.length))) :: l4) (fun _ => undef) 7 = .int .i64 (rows.length : Int) := by rw [lk_ne _ _ _ _ _ rfl, K4 7 rfl rfl, q7]
    have r8 : lk ((9, .bool (decide (rows.length - k < rows.length))) :: l4) (fun _ => undef) 8 = .int .i64 ((rows.length - k : Nat) : Int) := by rw [lk_ne _ _ _ _ _ rfl, K4 8 rfl rfl, q8]
    have r9 : lk ((9, .bool (decide (rows.length - k < rows.length))) :: l4) (fun _ => undef) 9 = .bool (decide (rows.length - k < rows.length)) := by simp [lk]
    revert r0 r1 r7 r8 r9
    generalize (9, Value.bool (decide (rows.length - k < rows.length))) :: l4 = l5
    intro r0 r1 r7 r8 r9
    by_cases hlt : rows.length - k < rows.length
    · rw [decide_eq_true hlt] at r9
      obtain ⟨b, o, c', u, A', uc, hv', hcell, _, hu, _⟩ := h.at hlt
      rw [hv] at hv'
      injection hv' with e1 _ e2
      subst e1 e2 hu
      refine seq_part (R := fun a w => a = Fr 19 l5 (fun _ => undef) ∧ w = w4) (wp_if_true rfl r9 (wp_skip (NPost.mk ⟨rfl, rfl⟩))) ?_
      rintro a w5 ⟨rfl, rfl⟩
      refine wp_seq_mid (fun a w' => ∃ l', a = Fr 19 l' (fun _ => undef) ∧ lk l' (fun _ => undef) 0 = .slice (some ⟨b, o, none⟩) rows.length c ∧ lk l' (fun _ => undef) 1 = .func (.func 40) #[] #[] ∧ lk l' (fun _ => undef) 7 = .int .i64 (rows.length : Int) ∧ lk l' (fun _ => undef) 8 = .int .i64 ((rows.length - k : Nat) : Int) ∧ rows[rows.length - k] ≠ [] ∧ w' = w5) (wp_block (seq_part (ix_p3 w5 l5 _ (rows.length - k) r8) ?_)) ?_
      · rintro x w6 ⟨l6, rfl, K6, rfl⟩
        refine seq_part (ix_p4 w6 _ _ b o (rows.length - k) rows.length c A' _ uc (by rw [lk_ne _ _ _ _ _ rfl, K6 0 rfl rfl, r0]) (by rw [lk_ne _ _ _ _ _ rfl, K6 1 rfl rfl, r1]) (by simp [lk]) hlt hcell _ rfl) ?_
        rintro x w7 ⟨l7, rfl, K7, rfl⟩
        by_cases hz : rows[rows.length - k].length = 0
        · refine wp_if_true rfl (by simp [lk, hz]) (seq_part (ix_p5 w7 _ _ (rows.length - k) (by rw [lk_ne _ _ _ _ _ rfl, K7 5 rfl rfl]; simp [lk])) ?_)
          rintro x w8 ⟨l8, rfl, rfl⟩
          refine wp_ret ?_
          simp only [Exit.then, Exit.inBlock]
          exact ret1 rfl rfl ⟨_, by simp [lk]; rfl, (fun hneg => by omega), rfl⟩
        · refine wp_if_false rfl (by simp [lk, hz]) (wp_skip ?_)
          simp only [Exit.then, Exit.inBlock]
          refine ⟨_, rfl, ?_, ?_, ?_, ?_, (fun e => hz (by rw [e]; rfl)), trivial⟩
          · rw [lk_ne _ _ _ _ _ rfl, K7 0 rfl rfl, lk_ne _ _ _ _ _ rfl, K6 0 rfl rfl, r0]
          · rw [lk_ne _ _ _ _ _ rfl, K7 1 rfl rfl, lk_ne _ _ _ _ _ rfl, K6 1 rfl rfl, r1]
          · rw [lk_ne _ _ _ _ _ rfl, K7 7 rfl rfl, lk_ne _ _ _ _ _ rfl, K6 7 rfl rfl, r7]
          · rw [lk_ne _ _ _ _ _ rfl, K7 8 rfl rfl, lk_ne _ _ _ _ _ rfl, K6 8 rfl rfl, r8]
      · rintro x w6 ⟨l6, rfl, t0, t1, t7, t8, hrow, rfl⟩
        refine last_part (ix_p6 w6 l6 _ (rows.length - k) t8 (by omega)) ?_
        rintro x w7 ⟨l7, rfl, K7, rfl⟩
        have e := sub_pred hlt hk
        refine ⟨k - 1, pred_lt hlt, _, rfl, ?_, ?_, ?_, ?_, pred_le hk, ?_, rfl⟩
        · rw [lk_ne _ _ _ _ _ rfl, K7 0 rfl rfl, t0]
        · rw [lk_ne _ _ _ _ _ rfl, K7 1 rfl rfl, t1]
        · rw [lk_ne _ _ _ _ _ rfl, K7 7 rfl rfl, t7]
        · rw [e]; simp only [lk, if_true]
        · rw [e, List.take_add_one, List.getElem?_eq_getElem hlt]
          intro r hr
          rcases List.mem_append.1 hr with hr | hr
          · exact hne r hr
          · simp at hr; subst hr; exact hrow
    · rw [decide_eq_false hlt] at r9
      refine wp_seq (wp_if_false rfl r9 (wp_exit ?_))
      simp only [Exit.then, Exit.inBlock, if_true]
      have e := sub_same hlt
      rw [e, List.take_length] at hne
      exact ⟨l5, rfl, hne, trivial⟩
  rintro x w2 ⟨l2, rfl, hne, rfl⟩
  refine seq_part (ix_p7 w2 l2 _) ?_
  rintro x w3 ⟨rfl, rfl⟩
  exact wp_ret (ret1 rfl rfl ⟨-1, by simp [lk], fun _ => hne, rfl⟩)
set_option maxRecDepth 100000 in
theorem ContainsFunc_any (w : World) (v : Value) (rows : List (List (List UInt8))) (h : RowsIn w v rows) : Calls Tryz.prog 39 [v, .func (.func 40) #[] #[]].toArray w fun e w' => ∃ b, e = .returned (.bool b) ∧ (b = false → ∀ r ∈ rows, r ≠ []) ∧ w' = w := by
  obtain ⟨A, c, hv, hl, _⟩ := id h
  have HI := Lib.hid (IndexRows_any w v rows h)
  rw [hv] at HI ⊢
  refine enter 9 Tryz.func39 rfl rfl (by simp) ?_
  go_wp
  refine HI.out.mono ?_
  rintro e w1 ⟨z, rfl, hz, rfl⟩
  clear HI
  dsimp only
  go_wp
  refine ret1 rfl rfl ⟨_, by simp [lk]; rfl, fun hb => hz ?_, rfl⟩
  simpa using hb
set_option maxRecDepth 100000 in
/-- filled: no row is empty. -/
theorem filled_any (w : World) (v : Value) (rows : List (List (List UInt8))) (h : RowsIn w v rows) : Calls Tryz.prog 10 [v].toArray w fun e w' => ∃ b, e = .returned (.bool b) ∧ (b = true → ∀ r ∈ rows, r ≠ []) ∧ w' = w := by
  obtain ⟨A, c, hv, hl, _⟩ := id h
  have HI := Lib.hid (ContainsFunc_any w v rows h)
  rw [hv] at HI ⊢
  refine enter 6 Tryz.func10 rfl rfl (by simp) ?_
  go_wp
  refine HI.out.mono ?_
  rintro e w1 ⟨b, rfl, hb, rfl⟩
  clear HI
  dsimp only
  go_wp
  refine ret1 rfl rfl ⟨!b, by simp [lk], fun h => hb ?_, rfl⟩
  simpa using h
end Go.Proofs.YtfadgnopfjajbaaGreatDoor
namespace Go.Proofs.YtfadgnopfjajbaaGreatDoor
open Go.RowKit
theorem size_mk (l : List UInt8) : (⟨l.toArray⟩ : ByteArray).size = l.length := by
  show l.toArray.size = _
  simp
theorem dbl_len (s : Csv.Bytes) : (dbl s).length ≤ 2 * s.length := by
  induction s with
  | nil => exact Nat.le_refl _
  | cons b t ih =>
    show (if b = Csv.QU then Csv.QU :: Csv.QU :: dbl t else b :: dbl t).length ≤ _
    split <;> simp <;> omega
theorem rep_any (w : World) (l : List UInt8) (old new : ByteArray) (r : List UInt8) (hr : Lib.replaceAll l old.data.toList new.data.toList = r) (hm : MaxAt w) (hs : l.length < 4294967281) (h1 : 1 ≤ old.size) (h2 : new.size ≤ 2) :
    Calls Tryz.prog 42 #[.string ⟨l.toArray⟩, .string old, .string new] w fun e w' => e = .returned (.string ⟨r.toArray⟩) ∧ Below w.heap.size w w' := by
  refine (ReplaceAll_any w ⟨l.toArray⟩ old new hm (by rw [size_mk]; exact hs) h1 h2).mono ?_
  rintro e w' ⟨rfl, hb⟩
  refine ⟨?_, hb⟩
  have e1 : (⟨l.toArray⟩ : ByteArray).data.toList = l := by simp
  rw [e1, hr]
set_option maxRecDepth 100000 in
theorem unix_walk (w : World) (s s' : ByteArray) (R : World → Prop) (HR : Calls Tryz.prog 42 #[.string s, .string ⟨#[13, 10]⟩, .string ⟨#[10]⟩] w fun e w' => e = .returned (.string s') ∧ R w') : Calls Tryz.prog 12 [.string s].toArray w fun e w' => e = .returned (.string s') ∧ R w' := by
  have HR := Lib.hid HR
  refine enter 5 Tryz.func12 rfl rfl (by simp) ?_
  go_wp
  refine HR.out.mono ?_
  rintro e w1 ⟨rfl, hb⟩
  have HB := Lib.hid hb
  clear hb HR
  dsimp only
  go_wp
  exact ret1 rfl rfl ⟨by simp [lk], HB.out⟩
/-- unix: a carriage return ahead of a newline is left out. -/
theorem unix_any (w : World) (l : List UInt8) (hm : MaxAt w) (hs : l.length < 4294967281) : Calls Tryz.prog 12 [strV l].toArray w fun e w' => e = .returned (strV (unixL l)) ∧ Below w.heap.size w w' :=
  unix_walk w ⟨l.toArray⟩ ⟨(unixL l).toArray⟩ _ (rep_any w l ⟨#[13, 10]⟩ ⟨#[10]⟩ _ (replace_unix l) hm hs (by decide) (by decide))
set_option maxRecDepth 100000 in
theorem Quoted_walk (w : World) (s s' : ByteArray) (R : World → Prop) (hsz : s'.size < 9000000000000000000) (HR : Calls Tryz.prog 42 #[.string s, .string ⟨#[34]⟩, .string ⟨#[34, 34]⟩] w fun e w' => e = .returned (.string s') ∧ R w') : Calls Tryz.prog 21 [.string s].toArray w fun e w' => e = .returned (.string (⟨#[34]⟩ ++ s' ++ ⟨#[34]⟩)) ∧ R w' := by
  have hz1 : ¬ 9223372036854775807 < 1 + s'.size := by omega
  have hz2 : ¬ 9223372036854775807 < 1 + s'.size + 1 := by omega
  have HR := Lib.hid HR
  refine enter 7 Tryz.func21 rfl rfl (by simp) ?_
  go_wp
  refine HR.out.mono ?_
  rintro e w1 ⟨rfl, hb⟩
  have HB := Lib.hid hb
  clear hb HR
  dsimp only
  go_wp
  exact ret1 rfl rfl ⟨by simp [lk], HB.out⟩
/-- Quoted: in quotes, each quote doubled. -/
theorem Quoted_any (w : World) (l : List UInt8) (hm : MaxAt w) (hs : l.length < 4294967281) : Calls Tryz.prog 21 [strV l].toArray w fun e w' => e = .returned (strV (quoteL l)) ∧ Below w.heap.size w w' := by
  refine (Quoted_walk w ⟨l.toArray⟩ ⟨(dbl l).toArray⟩ _ (by rw [size_mk]; have := dbl_len l; omega) (rep_any w l ⟨#[34]⟩ ⟨#[34, 34]⟩ _ (rep_dbl l) hm hs (by decide) (by decide))).mono ?_
  rintro e w' ⟨rfl, hb⟩
  refine ⟨?_, hb⟩
  have hq : (⟨(quoteL l).toArray⟩ : ByteArray) = ⟨#[34]⟩ ++ ⟨(dbl l).toArray⟩ ++ ⟨#[34]⟩ := by
    apply ByteArray.ext
    simp [quoteL, ByteArray.data_append]
  show _ = Ending.returned (.string ⟨(quoteL l).toArray⟩)
  rw [hq]
end Go.Proofs.YtfadgnopfjajbaaGreatDoor
namespace Go.Proofs
open Go.Shelf
theorem Tryz.laysString : Lays.n169 Tryz.prog Tryz.laysReplaceAll_ren := { Tryz.laysReplaceAll with }
end Go.Proofs
namespace Go.Proofs.YtfadgnopfjajbaaGreatDoor
open Go.RowKit
/-- A Builder in block b that holds a text; if none, as it was made. -/
structure BldAt (B b : Nat) (l : List UInt8) (w : World) : Prop where
  is : Lib.IsBuilder 90 5 B b (Lib.byteCells l) w
  nil : l = [] → w.heap[b]? = some (.cells #[.pointer none, .slice none 0 0] 90 (0, 0))
theorem BldAt.lt {B b : Nat} {l : List UInt8} {w : World} (h : BldAt B b l w) : b < w.heap.size ∧ B ≤ b := by
  rcases h.is with ⟨h1, v, h2, _⟩ | ⟨h1, v, h2, _⟩
  · exact ⟨(Array.getElem?_eq_some_iff.1 h2).1, h1⟩
  · exact ⟨(Array.getElem?_eq_some_iff.1 h2).1, h1⟩
theorem BldAt.next {B b : Nat} {l : List UInt8} {w w' : World} (h : BldAt B b l w) (hb : Below w.heap.size w w') : BldAt B b l w' := by
  have hlt := h.lt.1
  refine ⟨?_, fun e => (hb.block b hlt).trans (h.nil e)⟩
  rcases h.is with ⟨h1, v, h2, h3, h4⟩ | ⟨h1, v, h2, h3, h4⟩
  · exact .inl ⟨h1, v, (hb.block b hlt).trans h2, ownsRow_only h3 (Only.of_below hb) (fun k hk e => by have := (own_lt h3 hk).2; omega), h4⟩
  · exact .inr ⟨h1, v, (hb.block b hlt).trans h2, ownsRow_only h3 (Only.of_below hb) (fun k hk e => by have := (own_lt h3 hk).2; omega), h4⟩
theorem BldAt.new (w : World) : BldAt w.heap.size w.heap.size [] (w.alloc (.cells #[.pointer none, .slice none 0 0] 90)) := by
  have hh := heap_alloc_new w (.cells #[.pointer none, .slice none 0 0] 90)
  exact ⟨.inl ⟨Nat.le_refl _, _, hh, ⟨rfl, .inl ⟨rfl, rfl⟩⟩, by simp [Value.ownBlock]⟩, fun _ => hh⟩
theorem WriteString_any (B b : Nat) (l : List UInt8) (s : List UInt8) (w : World) (h : BldAt B b l w) (hlen : l.length + s.length ≤ 140737488355328) (hB : B ≤ w.heap.size) (hs : s ≠ []) :
    Calls Tryz.prog 43 #[.pointer (some ⟨b, 0, none⟩), .string ⟨s.toArray⟩] w fun e w' => e = .returned (.tuple #[.int .i64 (s.length : Int), .nilIface]) ∧ BldAt B b (l ++ s) w' ∧ Below B w w' := by
  refine (Any.Builder_WriteString Tryz.laysWriteString Tryz.extraReplace B b (Lib.byteCells l) ⟨s.toArray⟩ w h.is (by rw [Lib.byteCells_length, size_mk]; exact hlen) hB).mono ?_
  rintro e w' ⟨rfl, h1, h2⟩
  refine ⟨by rw [size_mk], ⟨.inr ?_, fun e => ?_⟩, h2⟩
  · rw [Lib.byteCells_append]; exact h1
  · exact absurd (List.append_eq_nil_iff.1 e).2 hs
theorem BuilderString_any (B b : Nat) (l : List UInt8) (w : World) (h : BldAt B b l w) : Calls Tryz.prog 44 #[.pointer (some ⟨b, 0, none⟩)] w fun e w' => e = .returned (.string ⟨l.toArray⟩) ∧ Below B w w' := by
  by_cases h0 : l = []
  · subst h0
    exact Any.Builder_String_nil Tryz.laysString Tryz.extraReplace B b (.pointer none) w (h.nil rfl)
  · exact Any.Builder_String Tryz.laysString Tryz.extraReplace B b l w h.is h0
noncomputable def tbBody : Code := (Tryz.f14.body).getD .skip
noncomputable def tb0 : Code := part [false] tbBody
noncomputable def tb1 : Code := part [true, false] tbBody
noncomputable def tb2 : Code := part [true, true, false, false] tbBody
noncomputable def tb3 : Code := part [true, true, false, true, false, false, false] tbBody
noncomputable def tb4 : Code := part [true, true, false, true, false, false, true, true, false, false, false] tbBody
noncomputable def tb5 : Code := part [true, true, false, true, false, false, true, true, false, false, true, false, false] tbBody
noncomputable def tb6 : Code := part [true, true, false, true, false, false, true, true, false, false, true, false, true, false, false, false] tbBody
noncomputable def tb7 : Code := part [true, true, false, true, false, false, true, true, false, false, true, false, true, false, false, true, true, false, false, false] tbBody
noncomputable def tb8 : Code := part [true, true, false, true, false, false, true, true, false, false, true, false, true, false, false, true, true, false, false, true, false, false] tbBody
noncomputable def tb9 : Code := part [true, true, false, true, false, false, true, true, false, false, true, false, true, false, false, true, true, false, false, true, false, true, false] tbBody
noncomputable def tb10 : Code := part [true, true, false, true, false, false, true, true, false, false, true, false, true, false, false, true, true, false, false, true, true, false, false] tbBody
noncomputable def tb11 : Code := part [true, true, false, true, false, false, true, true, false, false, true, false, true, false, false, true, true, false, false, true, true, false, true, false] tbBody
noncomputable def tb12 : Code := part [true, true, false, true, false, false, true, true, false, false, true, false, true, false, false, true, true, false, false, true, true, true] tbBody
noncomputable def tb13 : Code := part [true, true, false, true, false, false, true, true, false, false, true, false, true, false, false, true, true, true] tbBody
noncomputable def tb14 : Code := part [true, true, false, true, false, false, true, true, false, false, true, true] tbBody
noncomputable def tb15 : Code := part [true, true, false, true, false, false, true, true, true] tbBody
noncomputable def tb16 : Code := part [true, true, true, false] tbBody
noncomputable def tbRow : Code := Code.block 3 (.seq tb7 (.seq (.seq tb8 (.cond (.tmp 28) tb9 .skip)) (.seq (.seq tb10 (.cond (.tmp 32) tb11 .skip)) tb12)))
noncomputable def tbIn : Code := Code.block 2 (.loop (.seq tb6 (.seq (.cond (.tmp 23) .skip (.exit 2)) (.seq tbRow tb13))))
noncomputable def tbOut : Code := Code.block 0 (.loop (.seq tb3 (.seq (.cond (.tmp 17) .skip (.exit 0)) (.seq (.block 1 (.seq tb4 (.seq (.seq tb5 tbIn) tb14))) tb15))))
set_option maxRecDepth 100000 in
theorem tb_eq : tbBody = Code.seq tb0 (.seq tb1 (.seq (.seq tb2 tbOut) (.seq tb16 .ret))) := by kernel_rfl
abbrev tV : List Nat := [0, 1, 2, 3, 9, 11, 12, 13, 14, 15, 16, 20, 21, 22]
set_option maxRecDepth 100000 in
theorem tb_p0 (w : World) (l : List (Nat × Value)) (f : Nat → Value) : tb0.wp Tryz.prog (NPost fun a w' => a = Fr 42 ((8, .string ⟨#[]⟩) :: l) f ∧ w' = w) (Fr 42 l f) w := by
  dsimp only [tb0, tbBody, part, part.sub2', sub1, sub2, Tryz.f14, Option.getD]
  go_wp
  exact NPost.mk ⟨rfl, rfl⟩
set_option maxRecDepth 100000 in
theorem tb_p1 (w : World) (l : List (Nat × Value)) (f : Nat → Value) : tb1.wp Tryz.prog (NPost fun a w' => a = Fr 42 ((9, .pointer (some ⟨w.heap.size, 0, none⟩)) :: l) f ∧ w' = w.alloc (.cells #[.pointer none, .slice none 0 0] 90)) (Fr 42 l f) w := by
  dsimp only [tb1, tbBody, part, part.sub2', sub1, sub2, Tryz.f14, Option.getD]
  go_wp
  exact NPost.mk ⟨rfl, rfl⟩
set_option maxRecDepth 100000 in
theorem tb_p2 (w : World) (l : List (Nat × Value)) (f : Nat → Value) (A : Option Addr) (n c : Nat) (h0 : lk l f 0 = .slice A n c) : tb2.wp Tryz.prog (NPost fun a w' => ∃ l', a = Fr 42 l' f ∧ VKeeps tV [14, 15, 16] l f l' ∧ lk l' f 14 = .slice A n c ∧ lk l' f 15 = .int .i64 (n : Int) ∧ lk l' f 16 = .int .i64 ((0 : Nat) : Int) ∧ w' = w) (Fr 42 l f) w := by
  dsimp only [tb2, tbBody, part, part.sub2', sub1, sub2, Tryz.f14, Option.getD]
  go_wp
  exact NPost.mk ⟨_, rfl, (by repeat first | exact VKeeps.refl _ _ _ _ | refine VKeeps.far (by decide) ?_ | refine VKeeps.set (by decide) ?_), by simp [lk], by simp [lk], by simp [lk], rfl⟩
set_option maxRecDepth 100000 in
theorem tb_p3 (w : World) (l : List (Nat × Value)) (f : Nat → Value) (i n : Nat) (hx : lk l f 16 = .int .i64 (i : Int)) (hy : lk l f 15 = .int .i64 (n : Int)) : tb3.wp Tryz.prog (NPost fun a w' => ∃ l', a = Fr 42 ((17, .bool (decide (i < n))) :: l') f ∧ VKeeps tV [] l f l' ∧ w' = w) (Fr 42 l f) w := by
  dsimp only [tb3, tbBody, part, part.sub2', sub1, sub2, Tryz.f14, Option.getD]
  go_wp
  exact NPost.mk ⟨_, rfl, (by repeat first | exact VKeeps.refl _ _ _ _ | refine VKeeps.far (by decide) ?_ | refine VKeeps.set (by decide) ?_), rfl⟩
set_option maxRecDepth 100000 in
theorem tb_p6 (w : World) (l : List (Nat × Value)) (f : Nat → Value) (i n : Nat) (hx : lk l f 22 = .int .i64 (i : Int)) (hy : lk l f 21 = .int .i64 (n : Int)) : tb6.wp Tryz.prog (NPost fun a w' => ∃ l', a = Fr 42 ((23, .bool (decide (i < n))) :: l') f ∧ VKeeps tV [] l f l' ∧ w' = w) (Fr 42 l f) w := by
  dsimp only [tb6, tbBody, part, part.sub2', sub1, sub2, Tryz.f14, Option.getD]
  go_wp
  exact NPost.mk ⟨_, rfl, (by repeat first | exact VKeeps.refl _ _ _ _ | refine VKeeps.far (by decide) ?_ | refine VKeeps.set (by decide) ?_), rfl⟩
set_option maxRecDepth 100000 in
theorem tb_p13 (w : World) (l : List (Nat × Value)) (f : Nat → Value) (i : Nat) (hx : lk l f 22 = .int .i64 (i : Int)) (hi : i < 9223372036854775807) : tb13.wp Tryz.prog (NPost fun a w' => ∃ l', a = Fr 42 ((22, .int .i64 ((i + 1 : Nat) : Int)) :: l') f ∧ VKeeps tV [] l f l' ∧ w' = w) (Fr 42 l f) w := by
  dsimp only [tb13, tbBody, part, part.sub2', sub1, sub2, Tryz.f14, Option.getD]
  go_wp
  exact NPost.mk ⟨_, rfl, (by repeat first | exact VKeeps.refl _ _ _ _ | refine VKeeps.far (by decide) ?_ | refine VKeeps.set (by decide) ?_), rfl⟩
set_option maxRecDepth 100000 in
theorem tb_p15 (w : World) (l : List (Nat × Value)) (f : Nat → Value) (i : Nat) (hx : lk l f 16 = .int .i64 (i : Int)) (hi : i < 9223372036854775807) : tb15.wp Tryz.prog (NPost fun a w' => ∃ l', a = Fr 42 ((16, .int .i64 ((i + 1 : Nat) : Int)) :: l') f ∧ VKeeps tV [] l f l' ∧ w' = w) (Fr 42 l f) w := by
  dsimp only [tb15, tbBody, part, part.sub2', sub1, sub2, Tryz.f14, Option.getD]
  go_wp
  exact NPost.mk ⟨_, rfl, (by repeat first | exact VKeeps.refl _ _ _ _ | refine VKeeps.far (by decide) ?_ | refine VKeeps.set (by decide) ?_), rfl⟩
set_option maxRecDepth 100000 in
theorem tb_p4 (w : World) (l : List (Nat × Value)) (f : Nat → Value) (b o i n c : Nat) (A : Option Addr) (un uc : Nat) (h16 : lk l f 16 = .int .i64 (i : Int)) (h14 : lk l f 14 = .slice (some ⟨b, o, none⟩) n c) (hi : i < n) (hc : w.cell? ⟨b, o + i, none⟩ = some (.slice A un uc)) : tb4.wp Tryz.prog (NPost fun a w' => ∃ l', a = Fr 42 ((11, .slice A un uc) :: l') f ∧ VKeeps tV [] l f l' ∧ w' = w) (Fr 42 l f) w := by
  dsimp only [tb4, tbBody, part, part.sub2', sub1, sub2, Tryz.f14, Option.getD]
  go_wp
  exact NPost.mk ⟨_, rfl, (by repeat first | exact VKeeps.refl _ _ _ _ | refine VKeeps.far (by decide) ?_ | refine VKeeps.set (by decide) ?_), rfl⟩
set_option maxRecDepth 100000 in
theorem tb_p5 (w : World) (l : List (Nat × Value)) (f : Nat → Value) (A : Option Addr) (n c : Nat) (h11 : lk l f 11 = .slice A n c) : tb5.wp Tryz.prog (NPost fun a w' => ∃ l', a = Fr 42 l' f ∧ VKeeps tV [20, 21, 22] l f l' ∧ lk l' f 20 = .slice A n c ∧ lk l' f 21 = .int .i64 (n : Int) ∧ lk l' f 22 = .int .i64 ((0 : Nat) : Int) ∧ w' = w) (Fr 42 l f) w := by
  dsimp only [tb5, tbBody, part, part.sub2', sub1, sub2, Tryz.f14, Option.getD]
  go_wp
  exact NPost.mk ⟨_, rfl, (by repeat first | exact VKeeps.refl _ _ _ _ | refine VKeeps.far (by decide) ?_ | refine VKeeps.set (by decide) ?_), by simp [lk], by simp [lk], by simp [lk], rfl⟩
set_option maxRecDepth 100000 in
theorem tb_p7 (w : World) (l : List (Nat × Value)) (f : Nat → Value) (b o i n c : Nat) (s : ByteArray) (h22 : lk l f 22 = .int .i64 (i : Int)) (h20 : lk l f 20 = .slice (some ⟨b, o, none⟩) n c) (hi : i < n) (hc : w.cell? ⟨b, o + i, none⟩ = some (.string s)) : tb7.wp Tryz.prog (NPost fun a w' => ∃ l', a = Fr 42 l' f ∧ VKeeps tV [12, 13] l f l' ∧ lk l' f 12 = .int .i64 (i : Int) ∧ lk l' f 13 = .string s ∧ w' = w) (Fr 42 l f) w := by
  dsimp only [tb7, tbBody, part, part.sub2', sub1, sub2, Tryz.f14, Option.getD]
  go_wp
  exact NPost.mk ⟨_, rfl, (by repeat first | exact VKeeps.refl _ _ _ _ | refine VKeeps.far (by decide) ?_ | refine VKeeps.set (by decide) ?_), by simp [lk], by simp [lk], rfl⟩
set_option maxRecDepth 100000 in
theorem tb_p8 (w : World) (l : List (Nat × Value)) (f : Nat → Value) (i : Nat) (h12 : lk l f 12 = .int .i64 (i : Int)) : tb8.wp Tryz.prog (NPost fun a w' => ∃ l', a = Fr 42 ((28, .bool (decide (0 < i))) :: l') f ∧ VKeeps tV [] l f l' ∧ w' = w) (Fr 42 l f) w := by
  dsimp only [tb8, tbBody, part, part.sub2', sub1, sub2, Tryz.f14, Option.getD]
  go_wp
  have e : decide ((0 : Int) < (i : Int)) = decide (0 < i) := decide_eq_decide.2 (by omega)
  first
    | exact NPost.mk ⟨_, rfl, (by repeat first | exact VKeeps.refl _ _ _ _ | refine VKeeps.far (by decide) ?_ | refine VKeeps.set (by decide) ?_), rfl⟩
    | (simp only [e]; exact NPost.mk ⟨_, rfl, (by repeat first | exact VKeeps.refl _ _ _ _ | refine VKeeps.far (by decide) ?_ | refine VKeeps.set (by decide) ?_), rfl⟩)
set_option maxRecDepth 100000 in
theorem tb_p9 (B b : Nat) (w : World) (l : List (Nat × Value)) (f : Nat → Value) (r : Int) (t : List UInt8) (h1 : lk l f 1 = .int .i32 r) (h9 : lk l f 9 = .pointer (some ⟨b, 0, none⟩)) (hv : Utf8.valid r = true) (hb : BldAt B b t w) (hlen : t.length + 4 ≤ 140737488355328) (hB : B ≤ w.heap.size) : tb9.wp Tryz.prog (NPost fun a w' => ∃ l', a = Fr 42 l' f ∧ VKeeps tV [] l f l' ∧ BldAt B b (t ++ Csv.enc r) w' ∧ Below B w w') (Fr 42 l f) w := by
  dsimp only [tb9, tbBody, part, part.sub2', sub1, sub2, Tryz.f14, Option.getD]
  have HE := Lib.hid (Encoded_any w r hv)
  have H0 := Lib.hid (And.intro hv (And.intro hb (And.intro hlen hB)))
  clear hv hb hlen hB
  go_wp
  refine HE.out.mono ?_
  rintro e w1 ⟨rfl, hb1⟩
  obtain ⟨hv, hbd, hlen, hB⟩ := H0.out
  have HW := Lib.hid (WriteString_any B b t (Csv.enc r) w1 (hbd.next hb1) (by have := enc_le hv; omega) (Nat.le_trans hB hb1.size) (enc_ne r))
  have HB := Lib.hid (hb1.mono hB)
  clear hb1 HE H0 hv hbd hlen hB
  dsimp only
  generalize (⟨(Csv.enc r).toArray⟩ : ByteArray) = s' at HW ⊢
  go_wp
  refine HW.out.mono ?_
  rintro e w2 ⟨rfl, g1, g2⟩
  have HG := Lib.hid (And.intro g1 (HB.out.trans g2))
  clear g1 g2 HW
  dsimp only
  go_wp
  exact NPost.mk ⟨_, rfl, (by repeat first | exact VKeeps.refl _ _ _ _ | refine VKeeps.far (by decide) ?_ | refine VKeeps.set (by decide) ?_), HG.out.1, HG.out.2⟩
set_option maxRecDepth 100000 in
theorem tb_p10 (w : World) (l : List (Nat × Value)) (f : Nat → Value) (h3 : lk l f 3 = .bool true) : tb10.wp Tryz.prog (NPost fun a w' => ∃ l', a = Fr 42 ((32, .bool true) :: l') f ∧ VKeeps tV [] l f l' ∧ w' = w) (Fr 42 l f) w := by
  dsimp only [tb10, tbBody, part, part.sub2', sub1, sub2, Tryz.f14, Option.getD]
  go_wp
  exact NPost.mk ⟨_, rfl, (by repeat first | exact VKeeps.refl _ _ _ _ | refine VKeeps.far (by decide) ?_ | refine VKeeps.set (by decide) ?_), rfl⟩
set_option maxRecDepth 100000 in
theorem tb_p11 (w : World) (l : List (Nat × Value)) (f : Nat → Value) (s s' : ByteArray) (R : World → Prop) (h13 : lk l f 13 = .string s) (HR : Calls Tryz.prog 21 #[.string s] w fun e w' => e = .returned (.string s') ∧ R w') : tb11.wp Tryz.prog (NPost fun a w' => ∃ l', a = Fr 42 ((13, .string s') :: l') f ∧ VKeeps tV [] l f l' ∧ R w') (Fr 42 l f) w := by
  dsimp only [tb11, tbBody, part, part.sub2', sub1, sub2, Tryz.f14, Option.getD]
  have HR := Lib.hid HR
  go_wp
  refine HR.out.mono ?_
  rintro e w1 ⟨rfl, hb1⟩
  have HB := Lib.hid hb1
  clear hb1 HR
  dsimp only
  go_wp
  exact NPost.mk ⟨_, rfl, (by repeat first | exact VKeeps.refl _ _ _ _ | refine VKeeps.far (by decide) ?_ | refine VKeeps.set (by decide) ?_), HB.out⟩
set_option maxRecDepth 100000 in
theorem tb_p12 (b : Nat) (w : World) (l : List (Nat × Value)) (f : Nat → Value) (s : ByteArray) (n : Int) (R : World → Prop) (hx : lk l f 13 = .string s) (h9 : lk l f 9 = .pointer (some ⟨b, 0, none⟩)) (HR : Calls Tryz.prog 43 #[.pointer (some ⟨b, 0, none⟩), .string s] w fun e w' => e = .returned (.tuple #[.int .i64 n, .nilIface]) ∧ R w') : tb12.wp Tryz.prog (NPost fun a w' => ∃ l', a = Fr 42 l' f ∧ VKeeps tV [] l f l' ∧ R w') (Fr 42 l f) w := by
  dsimp only [tb12, tbBody, part, part.sub2', sub1, sub2, Tryz.f14, Option.getD]
  have HR := Lib.hid HR
  go_wp
  refine HR.out.mono ?_
  rintro e w1 ⟨rfl, hb1⟩
  have HB := Lib.hid hb1
  clear hb1 HR
  dsimp only
  go_wp
  exact NPost.mk ⟨_, rfl, (by repeat first | exact VKeeps.refl _ _ _ _ | refine VKeeps.far (by decide) ?_ | refine VKeeps.set (by decide) ?_), HB.out⟩
set_option maxRecDepth 100000 in
theorem tb_p14 (b : Nat) (w : World) (l : List (Nat × Value)) (f : Nat → Value) (s : ByteArray) (n : Int) (R : World → Prop) (hx : lk l f 2 = .string s) (h9 : lk l f 9 = .pointer (some ⟨b, 0, none⟩)) (HR : Calls Tryz.prog 43 #[.pointer (some ⟨b, 0, none⟩), .string s] w fun e w' => e = .returned (.tuple #[.int .i64 n, .nilIface]) ∧ R w') : tb14.wp Tryz.prog (NPost fun a w' => ∃ l', a = Fr 42 l' f ∧ VKeeps tV [] l f l' ∧ R w') (Fr 42 l f) w := by
  dsimp only [tb14, tbBody, part, part.sub2', sub1, sub2, Tryz.f14, Option.getD]
  have HR := Lib.hid HR
  go_wp
  refine HR.out.mono ?_
  rintro e w1 ⟨rfl, hb1⟩
  have HB := Lib.hid hb1
  clear hb1 HR
  dsimp only
  go_wp
  exact NPost.mk ⟨_, rfl, (by repeat first | exact VKeeps.refl _ _ _ _ | refine VKeeps.far (by decide) ?_ | refine VKeeps.set (by decide) ?_), HB.out⟩
set_option maxRecDepth 100000 in
theorem tb_p16 (b : Nat) (w : World) (l : List (Nat × Value)) (f : Nat → Value) (s : ByteArray) (R : World → Prop) (h9 : lk l f 9 = .pointer (some ⟨b, 0, none⟩)) (HR : Calls Tryz.prog 44 #[.pointer (some ⟨b, 0, none⟩)] w fun e w' => e = .returned (.string s) ∧ R w') : tb16.wp Tryz.prog (NPost fun a w' => ∃ l', a = Fr 42 ((8, .string s) :: l') f ∧ R w') (Fr 42 l f) w := by
  dsimp only [tb16, tbBody, part, part.sub2', sub1, sub2, Tryz.f14, Option.getD]
  have HR := Lib.hid HR
  go_wp
  refine HR.out.mono ?_
  rintro e w1 ⟨rfl, hb1⟩
  have HB := Lib.hid hb1
  clear hb1 HR
  dsimp only
  go_wp
  exact NPost.mk ⟨_, rfl, HB.out⟩
end Go.Proofs.YtfadgnopfjajbaaGreatDoor
namespace Go.Proofs.YtfadgnopfjajbaaGreatDoor
open Go.RowKit
/-- Quoted fields, a delimiter ahead of each but the very first. -/
def partQ (c : List UInt8) : Nat → List (List UInt8) → List UInt8
  | _, [] => []
  | k, s :: t => ((if k = 0 then [] else c) ++ quoteL s) ++ partQ c (k + 1) t
theorem partQ_app (c : List UInt8) : ∀ (xs ys : List (List UInt8)) (k : Nat), partQ c k (xs ++ ys) = partQ c k xs ++ partQ c (k + xs.length) ys
  | [], ys, k => by simp [partQ]
  | x :: xs, ys, k => by
    show ((if k = 0 then [] else c) ++ quoteL x) ++ partQ c (k + 1) (xs ++ ys) = _
    rw [partQ_app c xs ys (k + 1)]
    simp [partQ, Nat.add_assoc, Nat.add_comm 1]
theorem partQ_tail (c e : List UInt8) : ∀ (t : List (List UInt8)) (k : Nat), 0 < k → partQ c k t ++ e = (match t with | [] => [] | _ => c) ++ rowL c e t
  | [], _, _ => rfl
  | s :: t, k, hk => by
    show ((if k = 0 then [] else c) ++ quoteL s) ++ partQ c (k + 1) t ++ e = c ++ (quoteL s ++ ((match t with | [] => [] | _ => c) ++ rowL c e t))
    rw [List.append_assoc, partQ_tail c e t (k + 1) (by omega), if_neg (by omega), List.append_assoc]
theorem rowL_part (c e : List UInt8) (r : List (List UInt8)) : rowL c e r = partQ c 0 r ++ e := by
  cases r with
  | nil => rfl
  | cons s t =>
    show quoteL s ++ ((match t with | [] => [] | _ => c) ++ rowL c e t) = (([] ++ quoteL s) ++ partQ c 1 t) ++ e
    rw [List.append_assoc ([] ++ quoteL s), partQ_tail c e t 1 (by omega), List.nil_append]
theorem tableL_app (c e : List UInt8) (xs ys : List (List (List UInt8))) : tableL c e (xs ++ ys) = tableL c e xs ++ tableL c e ys := by simp [tableL]
theorem tableL_one (c e : List UInt8) (r : List (List UInt8)) : tableL c e [r] = rowL c e r := by simp [tableL]
theorem take_one {α : Type} {l : List α} {i : Nat} (h : i < l.length) : l.take (i + 1) = l.take i ++ [l[i]] := by
  rw [List.take_add_one, List.getElem?_eq_getElem h]; rfl
theorem table_step (c e : List UInt8) {rows : List (List (List UInt8))} {i : Nat} (h : i < rows.length) : tableL c e (rows.take (i + 1)) = tableL c e (rows.take i) ++ partQ c 0 rows[i] ++ e := by
  rw [take_one h, tableL_app, tableL_one, rowL_part, List.append_assoc]
theorem table_split (c e : List UInt8) (rows : List (List (List UInt8))) (i : Nat) : tableL c e rows = tableL c e (rows.take i) ++ tableL c e (rows.drop i) := by
  rw [← tableL_app, List.take_append_drop]
theorem part_le (c e : List UInt8) {rows : List (List (List UInt8))} {i : Nat} (h : i < rows.length) (j : Nat) : (tableL c e (rows.take i)).length + (partQ c 0 (rows[i].take j)).length ≤ (tableL c e rows).length := by
  rw [table_split c e rows (i + 1), table_step c e h]
  have h1 : partQ c 0 rows[i] = partQ c 0 (rows[i].take j) ++ partQ c (0 + (rows[i].take j).length) (rows[i].drop j) := by
    rw [← partQ_app, List.take_append_drop]
  rw [h1]
  simp only [List.length_append]
  omega
theorem step_le (c e : List UInt8) {rows : List (List (List UInt8))} {i : Nat} (h : i < rows.length) : (tableL c e (rows.take (i + 1))).length ≤ (tableL c e rows).length := by
  rw [table_split c e rows (i + 1)]
  simp only [List.length_append]; omega
theorem part_step (c : List UInt8) {r : List (List UInt8)} {j : Nat} (h : j < r.length) : partQ c 0 (r.take (j + 1)) = partQ c 0 (r.take j) ++ ((if j = 0 then [] else c) ++ quoteL r[j]) := by
  rw [take_one h, partQ_app]
  have : (r.take j).length = j := by rw [List.length_take]; omega
  rw [this, Nat.zero_add]
  simp [partQ]
/-- The slots that stay. -/
structure TF (l : List (Nat × Value)) (f : Nat → Value) (v : Value) (comma : Int) (e : List UInt8) (b n : Nat) : Prop where
  h1 : lk l f 1 = .int .i32 comma
  h2 : lk l f 2 = .string ⟨e.toArray⟩
  h3 : lk l f 3 = .bool true
  h9 : lk l f 9 = .pointer (some ⟨b, 0, none⟩)
  h14 : lk l f 14 = v
  h15 : lk l f 15 = .int .i64 (n : Int)
abbrev tS : List Nat := [11, 12, 13, 16, 20, 21, 22]
section
variable {l l' : List (Nat × Value)} {f : Nat → Value} {v : Value} {comma : Int} {e : List UInt8} {b n : Nat}
theorem TF.keep (h : TF l f v comma e b n) (K : VKeeps tV tS l f l') : TF l' f v comma e b n :=
  ⟨(K 1 rfl rfl).trans h.h1, (K 2 rfl rfl).trans h.h2, (K 3 rfl rfl).trans h.h3, (K 9 rfl rfl).trans h.h9, (K 14 rfl rfl).trans h.h14, (K 15 rfl rfl).trans h.h15⟩
theorem TF.put (h : TF l f v comma e b n) {k : Nat} {u : Value} (hk : [1, 2, 3, 9, 14, 15].contains k = false) : TF ((k, u) :: l) f v comma e b n := by
  simp at hk
  obtain ⟨g1, g2, g3, g4, g5, g6⟩ := hk
  exact ⟨by rw [lk_ne _ _ _ _ _ (by simp; omega)]; exact h.h1, by rw [lk_ne _ _ _ _ _ (by simp; omega)]; exact h.h2, by rw [lk_ne _ _ _ _ _ (by simp; omega)]; exact h.h3, by rw [lk_ne _ _ _ _ _ (by simp; omega)]; exact h.h9, by rw [lk_ne _ _ _ _ _ (by simp; omega)]; exact h.h14, by rw [lk_ne _ _ _ _ _ (by simp; omega)]; exact h.h15⟩
end
/-- One field. -/
theorem tb_field {w0 w : World} {B b : Nat} {l : List (Nat × Value)} {f : Nat → Value} {v : Value} {comma : Int} {e : List UInt8} {n i j m ub uo uc : Nat} {t s : List UInt8} (hF : TF l f v comma e b n) (h16 : lk l f 16 = .int .i64 (i : Int)) (h20 : lk l f 20 = .slice (some ⟨ub, uo, none⟩) m uc) (h21 : lk l f 21 = .int .i64 (m : Int)) (h22 : lk l f 22 = .int .i64 (j : Int)) (hj : j < m)
    (hc : w.cell? ⟨ub, uo + j, none⟩ = some (strV s)) (hv : Utf8.valid comma = true) (hm : MaxAt w0) (hB : B = w0.heap.size) (hb : Below B w0 w) (hbd : BldAt B b t w) (hs : s.length < 4294967281) (hlen : t.length + (quoteL s).length + 4 ≤ 140737488355328) :
    tbRow.wp Tryz.prog (NPost fun a w' => ∃ l', a = Fr 42 l' f ∧ TF l' f v comma e b n ∧ lk l' f 16 = .int .i64 (i : Int) ∧ lk l' f 20 = .slice (some ⟨ub, uo, none⟩) m uc ∧ lk l' f 21 = .int .i64 (m : Int) ∧ lk l' f 22 = .int .i64 (j : Int) ∧ Below B w w' ∧ BldAt B b (t ++ ((if j = 0 then [] else Csv.enc comma) ++ quoteL s)) w') (Fr 42 l f) w := by
  subst hB
  unfold tbRow
  refine block_part ?_
  refine seq_part (tb_p7 w l f ub uo j m uc ⟨s.toArray⟩ h22 h20 hj hc) ?_
  rintro x w1 ⟨l1, rfl, K1, k12, k13, rfl⟩
  have hF1 := hF.keep (K1.mono (S' := tS) (by intro k; simp <;> omega))
  refine seq_part (R := fun a w' => ∃ l', a = Fr 42 l' f ∧ TF l' f v comma e b n ∧ lk l' f 13 = .string ⟨s.toArray⟩ ∧ lk l' f 16 = .int .i64 (i : Int) ∧ lk l' f 20 = .slice (some ⟨ub, uo, none⟩) m uc ∧ lk l' f 21 = .int .i64 (m : Int) ∧ lk l' f 22 = .int .i64 (j : Int) ∧ Below w0.heap.size w1 w' ∧ BldAt w0.heap.size b (t ++ (if j = 0 then [] else Csv.enc comma)) w') ?_ ?_
  · refine seq_part (tb_p8 w1 l1 f j k12) ?_
    rintro x w2 ⟨l2, rfl, K2, rfl⟩
    have hF2 : TF ((28, .bool (decide (0 < j))) :: l2) f v comma e b n := (hF1.keep (K2.mono (S' := tS) (fun _ _ => rfl))).put (by decide)
    have q : ∀ k, tV.contains k = true → [12, 13].contains k = false → lk ((28, .bool (decide (0 < j))) :: l2) f k = lk l f k := fun k hk hs => by
      rw [lk_ne _ _ _ _ _ (by simp only [beq_eq_false_iff_ne, ne_eq]; intro e; subst e; cases hk), K2 k hk rfl, K1 k hk hs]
    have q13 : lk ((28, .bool (decide (0 < j))) :: l2) f 13 = .string ⟨s.toArray⟩ := by rw [lk_ne _ _ _ _ _ rfl, K2 13 rfl rfl, k13]
    by_cases h0 : j = 0
    · refine wp_if_false rfl (by simp [lk, h0]) (wp_skip (NPost.mk ⟨_, rfl, hF2, q13, (q 16 rfl rfl).trans h16, (q 20 rfl rfl).trans h20, (q 21 rfl rfl).trans h21, (q 22 rfl rfl).trans h22, Below.refl _ _, ?_⟩))
      rw [if_pos h0, List.append_nil]; exact hbd
    · refine wp_if_true rfl (by simp [lk]; omega) (last_part (tb_p9 w0.heap.size b w2 _ f comma t hF2.h1 hF2.h9 hv hbd (by omega) hb.size) ?_)
      rintro x w3 ⟨l3, rfl, K3, hb3, hl3⟩
      refine NPost.mk ⟨l3, rfl, hF2.keep (K3.mono (S' := tS) (fun _ _ => rfl)), (K3 13 rfl rfl).trans q13, ?_, ?_, ?_, ?_, hl3, by rw [if_neg h0]; exact hb3⟩
      · rw [K3 16 rfl rfl, q 16 rfl rfl, h16]
      · rw [K3 20 rfl rfl, q 20 rfl rfl, h20]
      · rw [K3 21 rfl rfl, q 21 rfl rfl, h21]
      · rw [K3 22 rfl rfl, q 22 rfl rfl, h22]
  rintro x w2 ⟨l2, rfl, hF2, g13, g16, g20, g21, g22, hb2, hbd2⟩
  have hb02 := hb.trans hb2
  refine seq_part (R := fun a w' => ∃ l', a = Fr 42 l' f ∧ TF l' f v comma e b n ∧ lk l' f 13 = .string ⟨(quoteL s).toArray⟩ ∧ lk l' f 16 = .int .i64 (i : Int) ∧ lk l' f 20 = .slice (some ⟨ub, uo, none⟩) m uc ∧ lk l' f 21 = .int .i64 (m : Int) ∧ lk l' f 22 = .int .i64 (j : Int) ∧ Below w2.heap.size w2 w') ?_ ?_
  · refine seq_part (tb_p10 w2 l2 f hF2.h3) ?_
    rintro x w3 ⟨l3, rfl, K3, rfl⟩
    refine wp_if_true rfl (by simp [lk]) (last_part (tb_p11 w3 _ f ⟨s.toArray⟩ ⟨(quoteL s).toArray⟩ _ (by rw [lk_ne _ _ _ _ _ rfl, K3 13 rfl rfl, g13]) (Quoted_any w3 s (hm.next hb02) hs)) ?_)
    rintro x w4 ⟨l4, rfl, K4, hb4⟩
    refine NPost.mk ⟨_, rfl, (((hF2.keep (K3.mono (S' := tS) (fun _ _ => rfl))).put (by decide)).keep (K4.mono (S' := tS) (fun _ _ => rfl))).put (by decide), by simp [lk], ?_, ?_, ?_, ?_, hb4⟩
    · rw [lk_ne _ _ _ _ _ rfl, K4 16 rfl rfl, lk_ne _ _ _ _ _ rfl, K3 16 rfl rfl, g16]
    · rw [lk_ne _ _ _ _ _ rfl, K4 20 rfl rfl, lk_ne _ _ _ _ _ rfl, K3 20 rfl rfl, g20]
    · rw [lk_ne _ _ _ _ _ rfl, K4 21 rfl rfl, lk_ne _ _ _ _ _ rfl, K3 21 rfl rfl, g21]
    · rw [lk_ne _ _ _ _ _ rfl, K4 22 rfl rfl, lk_ne _ _ _ _ _ rfl, K3 22 rfl rfl, g22]
  rintro x w3 ⟨l3, rfl, hF3, g13, g16, g20, g21, g22, hb3⟩
  have hq : quoteL s ≠ [] := by simp [quoteL]
  refine last_part (tb_p12 b w3 l3 f ⟨(quoteL s).toArray⟩ _ _ g13 hF3.h9 (WriteString_any w0.heap.size b _ (quoteL s) w3 (hbd2.next hb3) ?_ (Nat.le_trans hb02.size hb3.size) hq)) ?_
  · have : (t ++ if j = 0 then [] else Csv.enc comma).length ≤ t.length + 4 := by
      rw [List.length_append]
      have := enc_le hv
      split
      · simp
      · omega
    omega
  rintro x w4 ⟨l4, rfl, K4, hbd4, hb4⟩
  refine NPost.mk ⟨l4, rfl, hF3.keep (K4.mono (S' := tS) (fun _ _ => rfl)), (K4 16 rfl rfl).trans g16, (K4 20 rfl rfl).trans g20, (K4 21 rfl rfl).trans g21, (K4 22 rfl rfl).trans g22, (hb2.trans (hb3.mono hb02.size)).trans hb4, ?_⟩
  rw [← List.append_assoc]; exact hbd4
end Go.Proofs.YtfadgnopfjajbaaGreatDoor
