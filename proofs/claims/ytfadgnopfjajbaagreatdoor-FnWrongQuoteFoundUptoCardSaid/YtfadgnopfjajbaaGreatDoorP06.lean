/- A part of the proof: readRecord, part by part: what a part leaves; the appends to the reader's rows. -/
import Derived.Test.YtfadgnopfjajbaaGreatDoorP05
namespace Go.Proofs.YtfadgnopfjajbaaGreatDoor
open Go.RowKit

/-- A part of a program text: false: the first half, true: the second. -/
def part : List Bool → Code → Code
  | [], c => c
  | false :: p, c => part p (sub1 c)
  | true :: p, c => part p (sub2' c)
where sub2' : Code → Code
  | .seq _ b => b
  | .cond _ _ b => b
  | .scope c => c
  | c => c
/-- A part that ends in its place. -/
def NPost (K : Act → World → Prop) : Exit → Act → World → Prop
  | .normal, a, w => K a w
  | _, _, _ => False
theorem NPost.mk {K : Act → World → Prop} {a : Act} {w : World} (h : K a w) : NPost K .normal a w := h
theorem NPost.panic {K : Act → World → Prop} (c : List PanicEntry) (a : Act) (d : Option Tmp) (v : Value) (w : World) (h : NPost K (.panic c) (a.put d v) w) : NPost K (.panic c) a w := h.elim
theorem seq_part {P : Program} {x y : Code} {Q : Exit → Act → World → Prop} {a : Act} {w : World} {R : Act → World → Prop} (h1 : x.wp P (NPost R) a w) (h2 : ∀ a w, R a w → y.wp P Q a w) : (Code.seq x y).wp P Q a w :=
  wp_seq (wp_mono h1 fun e a w q => by cases e <;> first | exact h2 _ _ q | exact q.elim)
theorem last_part {P : Program} {x : Code} {Q : Exit → Act → World → Prop} {a : Act} {w : World} {R : Act → World → Prop} (h1 : x.wp P (NPost R) a w) (h2 : ∀ a w, R a w → Q .normal a w) : x.wp P Q a w :=
  wp_mono h1 fun e a w q => by cases e <;> first | exact h2 _ _ q | exact q.elim

/-- The variables (slots below 24) but those of S hold what they held. -/
def Keeps (S : List Nat) (l : List (Nat × Value)) (f : Nat → Value) (l' : List (Nat × Value)) : Prop := ∀ k, k < 24 → S.contains k = false → lk l' f k = lk l f k
theorem Keeps.refl (S : List Nat) (l : List (Nat × Value)) (f : Nat → Value) : Keeps S l f l := fun _ _ _ => rfl
theorem Keeps.far {S : List Nat} {l l' : List (Nat × Value)} {f : Nat → Value} {j : Nat} {v : Value} (hj : decide (24 ≤ j) = true) (h : Keeps S l f l') : Keeps S l f ((j, v) :: l') := fun k hk hs => by
  simp at hj
  rw [lk_ne _ _ _ _ _ (by simp; omega)]
  exact h k hk hs
theorem Keeps.set {S : List Nat} {l l' : List (Nat × Value)} {f : Nat → Value} {j : Nat} {v : Value} (hj : S.contains j = true) (h : Keeps S l f l') : Keeps S l f ((j, v) :: l') := fun k hk hs => by
  rw [lk_ne _ _ _ _ _ (by simp; intro e; subst e; rw [hj] at hs; cases hs)]
  exact h k hk hs

theorem own_new {v : Value} {w w' : World} (hs : w.heap.size ≤ w'.heap.size) {o : Option Nat} (h : v.ownBlock = o ∨ v.ownBlock = some w'.heap.size) : v.ownBlock = o ∨ ∃ g, v.ownBlock = some g ∧ w.heap.size ≤ g :=
  h.elim .inl (fun e => .inr ⟨_, e, hs⟩)

/- The end of a field is appended. -/
noncomputable def rec39 : Code := part [true, false, true, true, true, true, true, true, true, true, true, true, true, true, true, false, false, false, false, true, true, false, true, true, true, true, true, false] recBody
set_option maxRecDepth 100000 in
set_option maxHeartbeats 1000000 in
theorem rec_idx39 (B : Nat) (G : Glob) (w : World) (c : CSt) (r : RSt) (l : List (Nat × Value)) (f : Nat → Value) (hc : RInv B G w c r) (h0 : lk l f 0 = .pointer (some ⟨c.cr, 0, none⟩)) (hlen : r.idx.length + 1 < 70368744177664 / 8) :
    rec39.wp Tryz.prog (NPost fun a w' => ∃ l' v', a = Fr 560 l' f ∧ Keeps [] l f l' ∧ RInv B G w' { c with idx := v' } { r with idx := r.idx ++ [r.buf.length] } ∧ Only (fun k => k = c.cr ∨ c.idx.ownBlock = some k) w w' ∧
      (v'.ownBlock = c.idx.ownBlock ∨ ∃ g, v'.ownBlock = some g ∧ w.heap.size ≤ g)) (Fr 560 l f) w := by
  dsimp only [rec39, part, part.sub2', sub1, sub2, recBody, Tryz.f51, Option.getD]
  have hcr := hc.l.cr
  obtain ⟨A1, c1, hA1, hn1, _⟩ := ownsRow_form hc.rbuf
  have HC := Lib.hid hc
  clear hc
  refine held_start (fun w' => Blk w' c.cr 66 (crCells c)) [14] mixed ?_
  have hcr1 := hcr.drew
  refine take 0 _ _ ?tv1 rfl rfl (by kernel_rfl) hcr1 (by intro c a d v w h; cases d <;> exact h) ?th1 ?tn1
  case th1 => intro w' hS K hK; have hc := Blk.cell hS; unfold crCells at hc; rw [hA1] at hc; go_simp; exact hK
  refine take 1 _ _ ?tv2 rfl rfl (by kernel_rfl) hcr1 (by intro c a d v w h; cases d <;> exact h) ?th2 ?tn2
  case th2 => intro w' hS K hK; have hc := Blk.cell hS; unfold crCells at hc; rw [hA1] at hc; go_simp; exact hK
  refine take 2 _ _ ?tv3 rfl rfl (by kernel_rfl) hcr1 (by intro c a d v w h; cases d <;> exact h) ?th3 ?tn3
  case th3 => intro w' hS K hK; have hc := Blk.cell hS; unfold crCells at hc; rw [hA1] at hc; go_simp; exact hK
  refine take 3 _ _ ?tv4 rfl rfl (by kernel_rfl) hcr1 (by intro c a d v w h; cases d <;> exact h) ?th4 ?tn4
  case th4 => intro w' hS K hK; have hc := Blk.cell hS; unfold crCells at hc; rw [hA1] at hc; go_simp; exact hK
  refine take 4 _ _ ?tv5 rfl rfl (by kernel_rfl) hcr1 (by intro c a d v w h; cases d <;> exact h) ?th5 ?tn5
  case th5 => intro w' hS K hK; have hc := Blk.cell hS; unfold crCells at hc; rw [hA1] at hc; go_simp; exact hK
  refine take 5 _ _ ?tv6 rfl rfl (by kernel_rfl) hcr1 (by intro c a d v w h; cases d <;> exact h) ?th6 ?tn6
  case th6 => intro w' hS K hK; have hc := Blk.cell hS; unfold crCells at hc; rw [hA1] at hc; go_simp; exact hK
  refine take 6 _ _ ?tv7 rfl rfl (by kernel_rfl) hcr1 (by intro c a d v w h; cases d <;> exact h) ?th7 ?tn7
  case th7 => intro w' hS K hK; have hc := Blk.cell hS; unfold crCells at hc; rw [hA1] at hc; go_simp; exact hK
  refine take 7 _ _ ?tv8 rfl rfl (by kernel_rfl) hcr1 (by intro c a d v w h; cases d <;> exact h) ?th8 ?tn8
  case th8 => intro w' hS K hK; have hc := Blk.cell hS; unfold crCells at hc; rw [hA1] at hc; go_simp; exact hK
  refine take 8 _ _ ?tv9 rfl rfl (by kernel_rfl) hcr1 (by intro c a d v w h; cases d <;> exact h) ?th9 ?tn9
  case th9 => intro w' hS K hK; have hc := Blk.cell hS; unfold crCells at hc; rw [hA1] at hc; go_simp; exact hK
  refine take 9 _ _ ?tv10 rfl rfl (by kernel_rfl) hcr1 (by intro c a d v w h; cases d <;> exact h) ?th10 ?tn10
  case th10 => intro w' hS K hK; have hc := Blk.cell hS; unfold crCells at hc; rw [hA1] at hc; go_simp; exact hK
  refine held_alone 10 _ rfl (by kernel_rfl) ?_
  go_wp
  have hb1 : Below w.heap.size w (w.drew.alloc (.cells #[i64v r.buf.length] 3)) := ((Below.refl _ w).drew).alloc (Nat.le_refl _) _
  have hR1 := HC.out.below hb1
  obtain ⟨v2, w2, hrun, hown2, hgr2, hat2⟩ := append_int _ B 22 c.idx r.idx hR1.idx w.heap.size 0 1 r.buf.length ((Blk.new_arr w.drew 3 _).cell 0) hlen hR1.l.size
  obtain ⟨A2, c2, hA2, _⟩ := ownsRow_form hown2
  obtain ⟨n2, hn2⟩ : ∃ n2, n2 = (r.idx ++ [r.buf.length]).length := ⟨_, rfl⟩
  rw [← hn2] at hA2
  subst hA2
  obtain ⟨hR2, hO2⟩ := hR1.appIdx hown2 hgr2 hat2
  have hcr2 : Blk w2 c.cr 66 (crCells c) := hR1.l.cr.grown hgr2 (fun e => (hR1.idx_far c.cr e.symm).2 (.inl rfl))
  refine ⟨fun _ => hR1.l.cr, ?_⟩
  have HF := Lib.hid (And.intro hR2 (And.intro hO2 hat2))
  clear hR2 hO2 hat2 hR1 hown2 hgr2 HC hn2
  refine held_alone 11 _ rfl (by kernel_rfl) ?_
  refine wl_append _ _ _ rfl rfl (by rw [Fr_eval _ _ _ _ rfl]; simp only [lk]; rfl) (by rw [Fr_eval _ _ _ _ rfl]; simp only [lk]; rfl) hrun ?_
  rw [Fr_put]
  refine wpList_nil ?_
  refine ⟨fun _ => hcr2, ?_⟩
  refine held_alone 12 _ rfl (by kernel_rfl) ?_
  go_wp
  refine ⟨fun _ => hcr2, ?_⟩
  refine held_alone 13 _ rfl (by kernel_rfl) ?_
  go_wp
  refine ⟨fun _ => hcr2, ?_⟩
  refine held_alone 14 _ rfl (by kernel_rfl) ?_
  have hfz := hcr2.frozen
  have hcc := hcr2.cell
  unfold crCells at hcc
  clear hrun hcr2 hcr1 hcr
  go_wp
  refine ⟨fun h => absurd h (by decide), ?_⟩
  refine held_done (by kernel_rfl) ?_
  obtain ⟨hR2, hO2, hat2⟩ := HF.out
  refine NPost.mk ⟨_, _, rfl, (by repeat first | exact Keeps.refl _ _ _ | refine Keeps.far (by decide) ?_ | refine Keeps.set (by decide) ?_), hR2, ?_, own_new hb1.size hat2⟩
  exact ((Only.refl _ w).drew.alloc _).then hO2
noncomputable def rec61 : Code := part [true, false, true, true, true, true, true, true, true, true, true, true, true, true, true, false, false, false, false, true, true, true, true, true, true, false, false, false, true, true, false, true, true, true, true, false, true, true, true, false, true, true, false] recBody
set_option maxRecDepth 100000 in
set_option maxHeartbeats 1000000 in
theorem rec_idx61 (B : Nat) (G : Glob) (w : World) (c : CSt) (r : RSt) (l : List (Nat × Value)) (f : Nat → Value) (hc : RInv B G w c r) (h0 : lk l f 0 = .pointer (some ⟨c.cr, 0, none⟩)) (hlen : r.idx.length + 1 < 70368744177664 / 8) :
    rec61.wp Tryz.prog (NPost fun a w' => ∃ l' v', a = Fr 560 l' f ∧ Keeps [] l f l' ∧ RInv B G w' { c with idx := v' } { r with idx := r.idx ++ [r.buf.length] } ∧ Only (fun k => k = c.cr ∨ c.idx.ownBlock = some k) w w' ∧
      (v'.ownBlock = c.idx.ownBlock ∨ ∃ g, v'.ownBlock = some g ∧ w.heap.size ≤ g)) (Fr 560 l f) w := by
  dsimp only [rec61, part, part.sub2', sub1, sub2, recBody, Tryz.f51, Option.getD]
  have hcr := hc.l.cr
  obtain ⟨A1, c1, hA1, hn1, _⟩ := ownsRow_form hc.rbuf
  have HC := Lib.hid hc
  clear hc
  refine held_start (fun w' => Blk w' c.cr 66 (crCells c)) [14] mixed ?_
  have hcr1 := hcr.drew
  refine take 0 _ _ ?tv11 rfl rfl (by kernel_rfl) hcr1 (by intro c a d v w h; cases d <;> exact h) ?th11 ?tn11
  case th11 => intro w' hS K hK; have hc := Blk.cell hS; unfold crCells at hc; rw [hA1] at hc; go_simp; exact hK
  refine take 1 _ _ ?tv12 rfl rfl (by kernel_rfl) hcr1 (by intro c a d v w h; cases d <;> exact h) ?th12 ?tn12
  case th12 => intro w' hS K hK; have hc := Blk.cell hS; unfold crCells at hc; rw [hA1] at hc; go_simp; exact hK
  refine take 2 _ _ ?tv13 rfl rfl (by kernel_rfl) hcr1 (by intro c a d v w h; cases d <;> exact h) ?th13 ?tn13
  case th13 => intro w' hS K hK; have hc := Blk.cell hS; unfold crCells at hc; rw [hA1] at hc; go_simp; exact hK
  refine take 3 _ _ ?tv14 rfl rfl (by kernel_rfl) hcr1 (by intro c a d v w h; cases d <;> exact h) ?th14 ?tn14
  case th14 => intro w' hS K hK; have hc := Blk.cell hS; unfold crCells at hc; rw [hA1] at hc; go_simp; exact hK
  refine take 4 _ _ ?tv15 rfl rfl (by kernel_rfl) hcr1 (by intro c a d v w h; cases d <;> exact h) ?th15 ?tn15
  case th15 => intro w' hS K hK; have hc := Blk.cell hS; unfold crCells at hc; rw [hA1] at hc; go_simp; exact hK
  refine take 5 _ _ ?tv16 rfl rfl (by kernel_rfl) hcr1 (by intro c a d v w h; cases d <;> exact h) ?th16 ?tn16
  case th16 => intro w' hS K hK; have hc := Blk.cell hS; unfold crCells at hc; rw [hA1] at hc; go_simp; exact hK
  refine take 6 _ _ ?tv17 rfl rfl (by kernel_rfl) hcr1 (by intro c a d v w h; cases d <;> exact h) ?th17 ?tn17
  case th17 => intro w' hS K hK; have hc := Blk.cell hS; unfold crCells at hc; rw [hA1] at hc; go_simp; exact hK
  refine take 7 _ _ ?tv18 rfl rfl (by kernel_rfl) hcr1 (by intro c a d v w h; cases d <;> exact h) ?th18 ?tn18
  case th18 => intro w' hS K hK; have hc := Blk.cell hS; unfold crCells at hc; rw [hA1] at hc; go_simp; exact hK
  refine take 8 _ _ ?tv19 rfl rfl (by kernel_rfl) hcr1 (by intro c a d v w h; cases d <;> exact h) ?th19 ?tn19
  case th19 => intro w' hS K hK; have hc := Blk.cell hS; unfold crCells at hc; rw [hA1] at hc; go_simp; exact hK
  refine take 9 _ _ ?tv20 rfl rfl (by kernel_rfl) hcr1 (by intro c a d v w h; cases d <;> exact h) ?th20 ?tn20
  case th20 => intro w' hS K hK; have hc := Blk.cell hS; unfold crCells at hc; rw [hA1] at hc; go_simp; exact hK
  refine held_alone 10 _ rfl (by kernel_rfl) ?_
  go_wp
  have hb1 : Below w.heap.size w (w.drew.alloc (.cells #[i64v r.buf.length] 3)) := ((Below.refl _ w).drew).alloc (Nat.le_refl _) _
  have hR1 := HC.out.below hb1
  obtain ⟨v2, w2, hrun, hown2, hgr2, hat2⟩ := append_int _ B 22 c.idx r.idx hR1.idx w.heap.size 0 1 r.buf.length ((Blk.new_arr w.drew 3 _).cell 0) hlen hR1.l.size
  obtain ⟨A2, c2, hA2, _⟩ := ownsRow_form hown2
  obtain ⟨n2, hn2⟩ : ∃ n2, n2 = (r.idx ++ [r.buf.length]).length := ⟨_, rfl⟩
  rw [← hn2] at hA2
  subst hA2
  obtain ⟨hR2, hO2⟩ := hR1.appIdx hown2 hgr2 hat2
  have hcr2 : Blk w2 c.cr 66 (crCells c) := hR1.l.cr.grown hgr2 (fun e => (hR1.idx_far c.cr e.symm).2 (.inl rfl))
  refine ⟨fun _ => hR1.l.cr, ?_⟩
  have HF := Lib.hid (And.intro hR2 (And.intro hO2 hat2))
  clear hR2 hO2 hat2 hR1 hown2 hgr2 HC hn2
  refine held_alone 11 _ rfl (by kernel_rfl) ?_
  refine wl_append _ _ _ rfl rfl (by rw [Fr_eval _ _ _ _ rfl]; simp only [lk]; rfl) (by rw [Fr_eval _ _ _ _ rfl]; simp only [lk]; rfl) hrun ?_
  rw [Fr_put]
  refine wpList_nil ?_
  refine ⟨fun _ => hcr2, ?_⟩
  refine held_alone 12 _ rfl (by kernel_rfl) ?_
  go_wp
  refine ⟨fun _ => hcr2, ?_⟩
  refine held_alone 13 _ rfl (by kernel_rfl) ?_
  go_wp
  refine ⟨fun _ => hcr2, ?_⟩
  refine held_alone 14 _ rfl (by kernel_rfl) ?_
  have hfz := hcr2.frozen
  have hcc := hcr2.cell
  unfold crCells at hcc
  clear hrun hcr2 hcr1 hcr
  go_wp
  refine ⟨fun h => absurd h (by decide), ?_⟩
  refine held_done (by kernel_rfl) ?_
  obtain ⟨hR2, hO2, hat2⟩ := HF.out
  refine NPost.mk ⟨_, _, rfl, (by repeat first | exact Keeps.refl _ _ _ | refine Keeps.far (by decide) ?_ | refine Keeps.set (by decide) ?_), hR2, ?_, own_new hb1.size hat2⟩
  exact ((Only.refl _ w).drew.alloc _).then hO2
noncomputable def rec64 : Code := part [true, false, true, true, true, true, true, true, true, true, true, true, true, true, true, false, false, false, false, true, true, true, true, true, true, false, false, false, true, true, false, true, true, true, true, false, true, true, true, true, true, false, false] recBody
set_option maxRecDepth 100000 in
set_option maxHeartbeats 1000000 in
theorem rec_idx64 (B : Nat) (G : Glob) (w : World) (c : CSt) (r : RSt) (l : List (Nat × Value)) (f : Nat → Value) (hc : RInv B G w c r) (h0 : lk l f 0 = .pointer (some ⟨c.cr, 0, none⟩)) (hlen : r.idx.length + 1 < 70368744177664 / 8) :
    rec64.wp Tryz.prog (NPost fun a w' => ∃ l' v', a = Fr 560 l' f ∧ Keeps [] l f l' ∧ RInv B G w' { c with idx := v' } { r with idx := r.idx ++ [r.buf.length] } ∧ Only (fun k => k = c.cr ∨ c.idx.ownBlock = some k) w w' ∧
      (v'.ownBlock = c.idx.ownBlock ∨ ∃ g, v'.ownBlock = some g ∧ w.heap.size ≤ g)) (Fr 560 l f) w := by
  dsimp only [rec64, part, part.sub2', sub1, sub2, recBody, Tryz.f51, Option.getD]
  have hcr := hc.l.cr
  obtain ⟨A1, c1, hA1, hn1, _⟩ := ownsRow_form hc.rbuf
  have HC := Lib.hid hc
  clear hc
  refine held_start (fun w' => Blk w' c.cr 66 (crCells c)) [14] mixed ?_
  have hcr1 := hcr.drew
  refine take 0 _ _ ?tv21 rfl rfl (by kernel_rfl) hcr1 (by intro c a d v w h; cases d <;> exact h) ?th21 ?tn21
  case th21 => intro w' hS K hK; have hc := Blk.cell hS; unfold crCells at hc; rw [hA1] at hc; go_simp; exact hK
  refine take 1 _ _ ?tv22 rfl rfl (by kernel_rfl) hcr1 (by intro c a d v w h; cases d <;> exact h) ?th22 ?tn22
  case th22 => intro w' hS K hK; have hc := Blk.cell hS; unfold crCells at hc; rw [hA1] at hc; go_simp; exact hK
  refine take 2 _ _ ?tv23 rfl rfl (by kernel_rfl) hcr1 (by intro c a d v w h; cases d <;> exact h) ?th23 ?tn23
  case th23 => intro w' hS K hK; have hc := Blk.cell hS; unfold crCells at hc; rw [hA1] at hc; go_simp; exact hK
  refine take 3 _ _ ?tv24 rfl rfl (by kernel_rfl) hcr1 (by intro c a d v w h; cases d <;> exact h) ?th24 ?tn24
  case th24 => intro w' hS K hK; have hc := Blk.cell hS; unfold crCells at hc; rw [hA1] at hc; go_simp; exact hK
  refine take 4 _ _ ?tv25 rfl rfl (by kernel_rfl) hcr1 (by intro c a d v w h; cases d <;> exact h) ?th25 ?tn25
  case th25 => intro w' hS K hK; have hc := Blk.cell hS; unfold crCells at hc; rw [hA1] at hc; go_simp; exact hK
  refine take 5 _ _ ?tv26 rfl rfl (by kernel_rfl) hcr1 (by intro c a d v w h; cases d <;> exact h) ?th26 ?tn26
  case th26 => intro w' hS K hK; have hc := Blk.cell hS; unfold crCells at hc; rw [hA1] at hc; go_simp; exact hK
  refine take 6 _ _ ?tv27 rfl rfl (by kernel_rfl) hcr1 (by intro c a d v w h; cases d <;> exact h) ?th27 ?tn27
  case th27 => intro w' hS K hK; have hc := Blk.cell hS; unfold crCells at hc; rw [hA1] at hc; go_simp; exact hK
  refine take 7 _ _ ?tv28 rfl rfl (by kernel_rfl) hcr1 (by intro c a d v w h; cases d <;> exact h) ?th28 ?tn28
  case th28 => intro w' hS K hK; have hc := Blk.cell hS; unfold crCells at hc; rw [hA1] at hc; go_simp; exact hK
  refine take 8 _ _ ?tv29 rfl rfl (by kernel_rfl) hcr1 (by intro c a d v w h; cases d <;> exact h) ?th29 ?tn29
  case th29 => intro w' hS K hK; have hc := Blk.cell hS; unfold crCells at hc; rw [hA1] at hc; go_simp; exact hK
  refine take 9 _ _ ?tv30 rfl rfl (by kernel_rfl) hcr1 (by intro c a d v w h; cases d <;> exact h) ?th30 ?tn30
  case th30 => intro w' hS K hK; have hc := Blk.cell hS; unfold crCells at hc; rw [hA1] at hc; go_simp; exact hK
  refine held_alone 10 _ rfl (by kernel_rfl) ?_
  go_wp
  have hb1 : Below w.heap.size w (w.drew.alloc (.cells #[i64v r.buf.length] 3)) := ((Below.refl _ w).drew).alloc (Nat.le_refl _) _
  have hR1 := HC.out.below hb1
  obtain ⟨v2, w2, hrun, hown2, hgr2, hat2⟩ := append_int _ B 22 c.idx r.idx hR1.idx w.heap.size 0 1 r.buf.length ((Blk.new_arr w.drew 3 _).cell 0) hlen hR1.l.size
  obtain ⟨A2, c2, hA2, _⟩ := ownsRow_form hown2
  obtain ⟨n2, hn2⟩ : ∃ n2, n2 = (r.idx ++ [r.buf.length]).length := ⟨_, rfl⟩
  rw [← hn2] at hA2
  subst hA2
  obtain ⟨hR2, hO2⟩ := hR1.appIdx hown2 hgr2 hat2
  have hcr2 : Blk w2 c.cr 66 (crCells c) := hR1.l.cr.grown hgr2 (fun e => (hR1.idx_far c.cr e.symm).2 (.inl rfl))
  refine ⟨fun _ => hR1.l.cr, ?_⟩
  have HF := Lib.hid (And.intro hR2 (And.intro hO2 hat2))
  clear hR2 hO2 hat2 hR1 hown2 hgr2 HC hn2
  refine held_alone 11 _ rfl (by kernel_rfl) ?_
  refine wl_append _ _ _ rfl rfl (by rw [Fr_eval _ _ _ _ rfl]; simp only [lk]; rfl) (by rw [Fr_eval _ _ _ _ rfl]; simp only [lk]; rfl) hrun ?_
  rw [Fr_put]
  refine wpList_nil ?_
  refine ⟨fun _ => hcr2, ?_⟩
  refine held_alone 12 _ rfl (by kernel_rfl) ?_
  go_wp
  refine ⟨fun _ => hcr2, ?_⟩
  refine held_alone 13 _ rfl (by kernel_rfl) ?_
  go_wp
  refine ⟨fun _ => hcr2, ?_⟩
  refine held_alone 14 _ rfl (by kernel_rfl) ?_
  have hfz := hcr2.frozen
  have hcc := hcr2.cell
  unfold crCells at hcc
  clear hrun hcr2 hcr1 hcr
  go_wp
  refine ⟨fun h => absurd h (by decide), ?_⟩
  refine held_done (by kernel_rfl) ?_
  obtain ⟨hR2, hO2, hat2⟩ := HF.out
  refine NPost.mk ⟨_, _, rfl, (by repeat first | exact Keeps.refl _ _ _ | refine Keeps.far (by decide) ?_ | refine Keeps.set (by decide) ?_), hR2, ?_, own_new hb1.size hat2⟩
  exact ((Only.refl _ w).drew.alloc _).then hO2
noncomputable def rec80 : Code := part [true, false, true, true, true, true, true, true, true, true, true, true, true, true, true, false, false, false, false, true, true, true, true, true, true, false, false, false, true, true, true, true, true, true, false] recBody
set_option maxRecDepth 100000 in
set_option maxHeartbeats 1000000 in
theorem rec_idx80 (B : Nat) (G : Glob) (w : World) (c : CSt) (r : RSt) (l : List (Nat × Value)) (f : Nat → Value) (hc : RInv B G w c r) (h0 : lk l f 0 = .pointer (some ⟨c.cr, 0, none⟩)) (hlen : r.idx.length + 1 < 70368744177664 / 8) :
    rec80.wp Tryz.prog (NPost fun a w' => ∃ l' v', a = Fr 560 l' f ∧ Keeps [] l f l' ∧ RInv B G w' { c with idx := v' } { r with idx := r.idx ++ [r.buf.length] } ∧ Only (fun k => k = c.cr ∨ c.idx.ownBlock = some k) w w' ∧
      (v'.ownBlock = c.idx.ownBlock ∨ ∃ g, v'.ownBlock = some g ∧ w.heap.size ≤ g)) (Fr 560 l f) w := by
  dsimp only [rec80, part, part.sub2', sub1, sub2, recBody, Tryz.f51, Option.getD]
  have hcr := hc.l.cr
  obtain ⟨A1, c1, hA1, hn1, _⟩ := ownsRow_form hc.rbuf
  have HC := Lib.hid hc
  clear hc
  refine held_start (fun w' => Blk w' c.cr 66 (crCells c)) [14] mixed ?_
  have hcr1 := hcr.drew
  refine take 0 _ _ ?tv31 rfl rfl (by kernel_rfl) hcr1 (by intro c a d v w h; cases d <;> exact h) ?th31 ?tn31
  case th31 => intro w' hS K hK; have hc := Blk.cell hS; unfold crCells at hc; rw [hA1] at hc; go_simp; exact hK
  refine take 1 _ _ ?tv32 rfl rfl (by kernel_rfl) hcr1 (by intro c a d v w h; cases d <;> exact h) ?th32 ?tn32
  case th32 => intro w' hS K hK; have hc := Blk.cell hS; unfold crCells at hc; rw [hA1] at hc; go_simp; exact hK
  refine take 2 _ _ ?tv33 rfl rfl (by kernel_rfl) hcr1 (by intro c a d v w h; cases d <;> exact h) ?th33 ?tn33
  case th33 => intro w' hS K hK; have hc := Blk.cell hS; unfold crCells at hc; rw [hA1] at hc; go_simp; exact hK
  refine take 3 _ _ ?tv34 rfl rfl (by kernel_rfl) hcr1 (by intro c a d v w h; cases d <;> exact h) ?th34 ?tn34
  case th34 => intro w' hS K hK; have hc := Blk.cell hS; unfold crCells at hc; rw [hA1] at hc; go_simp; exact hK
  refine take 4 _ _ ?tv35 rfl rfl (by kernel_rfl) hcr1 (by intro c a d v w h; cases d <;> exact h) ?th35 ?tn35
  case th35 => intro w' hS K hK; have hc := Blk.cell hS; unfold crCells at hc; rw [hA1] at hc; go_simp; exact hK
  refine take 5 _ _ ?tv36 rfl rfl (by kernel_rfl) hcr1 (by intro c a d v w h; cases d <;> exact h) ?th36 ?tn36
  case th36 => intro w' hS K hK; have hc := Blk.cell hS; unfold crCells at hc; rw [hA1] at hc; go_simp; exact hK
  refine take 6 _ _ ?tv37 rfl rfl (by kernel_rfl) hcr1 (by intro c a d v w h; cases d <;> exact h) ?th37 ?tn37
  case th37 => intro w' hS K hK; have hc := Blk.cell hS; unfold crCells at hc; rw [hA1] at hc; go_simp; exact hK
  refine take 7 _ _ ?tv38 rfl rfl (by kernel_rfl) hcr1 (by intro c a d v w h; cases d <;> exact h) ?th38 ?tn38
  case th38 => intro w' hS K hK; have hc := Blk.cell hS; unfold crCells at hc; rw [hA1] at hc; go_simp; exact hK
  refine take 8 _ _ ?tv39 rfl rfl (by kernel_rfl) hcr1 (by intro c a d v w h; cases d <;> exact h) ?th39 ?tn39
  case th39 => intro w' hS K hK; have hc := Blk.cell hS; unfold crCells at hc; rw [hA1] at hc; go_simp; exact hK
  refine take 9 _ _ ?tv40 rfl rfl (by kernel_rfl) hcr1 (by intro c a d v w h; cases d <;> exact h) ?th40 ?tn40
  case th40 => intro w' hS K hK; have hc := Blk.cell hS; unfold crCells at hc; rw [hA1] at hc; go_simp; exact hK
  refine held_alone 10 _ rfl (by kernel_rfl) ?_
  go_wp
  have hb1 : Below w.heap.size w (w.drew.alloc (.cells #[i64v r.buf.length] 3)) := ((Below.refl _ w).drew).alloc (Nat.le_refl _) _
  have hR1 := HC.out.below hb1
  obtain ⟨v2, w2, hrun, hown2, hgr2, hat2⟩ := append_int _ B 22 c.idx r.idx hR1.idx w.heap.size 0 1 r.buf.length ((Blk.new_arr w.drew 3 _).cell 0) hlen hR1.l.size
  obtain ⟨A2, c2, hA2, _⟩ := ownsRow_form hown2
  obtain ⟨n2, hn2⟩ : ∃ n2, n2 = (r.idx ++ [r.buf.length]).length := ⟨_, rfl⟩
  rw [← hn2] at hA2
  subst hA2
  obtain ⟨hR2, hO2⟩ := hR1.appIdx hown2 hgr2 hat2
  have hcr2 : Blk w2 c.cr 66 (crCells c) := hR1.l.cr.grown hgr2 (fun e => (hR1.idx_far c.cr e.symm).2 (.inl rfl))
  refine ⟨fun _ => hR1.l.cr, ?_⟩
  have HF := Lib.hid (And.intro hR2 (And.intro hO2 hat2))
  clear hR2 hO2 hat2 hR1 hown2 hgr2 HC hn2
  refine held_alone 11 _ rfl (by kernel_rfl) ?_
  refine wl_append _ _ _ rfl rfl (by rw [Fr_eval _ _ _ _ rfl]; simp only [lk]; rfl) (by rw [Fr_eval _ _ _ _ rfl]; simp only [lk]; rfl) hrun ?_
  rw [Fr_put]
  refine wpList_nil ?_
  refine ⟨fun _ => hcr2, ?_⟩
  refine held_alone 12 _ rfl (by kernel_rfl) ?_
  go_wp
  refine ⟨fun _ => hcr2, ?_⟩
  refine held_alone 13 _ rfl (by kernel_rfl) ?_
  go_wp
  refine ⟨fun _ => hcr2, ?_⟩
  refine held_alone 14 _ rfl (by kernel_rfl) ?_
  have hfz := hcr2.frozen
  have hcc := hcr2.cell
  unfold crCells at hcc
  clear hrun hcr2 hcr1 hcr
  go_wp
  refine ⟨fun h => absurd h (by decide), ?_⟩
  refine held_done (by kernel_rfl) ?_
  obtain ⟨hR2, hO2, hat2⟩ := HF.out
  refine NPost.mk ⟨_, _, rfl, (by repeat first | exact Keeps.refl _ _ _ | refine Keeps.far (by decide) ?_ | refine Keeps.set (by decide) ?_), hR2, ?_, own_new hb1.size hat2⟩
  exact ((Only.refl _ w).drew.alloc _).then hO2
/- The place of a field is appended. -/
noncomputable def rec40 : Code := part [true, false, true, true, true, true, true, true, true, true, true, true, true, true, true, false, false, false, false, true, true, false, true, true, true, true, true, true, false] recBody
set_option maxRecDepth 100000 in
set_option maxHeartbeats 1000000 in
theorem rec_pos40 (B : Nat) (G : Glob) (w : World) (c : CSt) (r : RSt) (l : List (Nat × Value)) (f : Nat → Value) (hc : RInv B G w c r) (h0 : lk l f 0 = .pointer (some ⟨c.cr, 0, none⟩)) (pb : Nat) (q : Nat × Nat) (hp : lk l f 11 = .pointer (some ⟨pb, 0, none⟩)) (hpb : Blk w pb 128 (posCells q))
    (hpn : c.pos.ownBlock ≠ some pb) (hlen : r.pos.length + 1 < 70368744177664 / 8) :
    rec40.wp Tryz.prog (NPost fun a w' => ∃ l' v', a = Fr 560 l' f ∧ Keeps [] l f l' ∧ RInv B G w' { c with pos := v' } { r with pos := r.pos ++ [q] } ∧ Only (fun k => k = c.cr ∨ c.pos.ownBlock = some k) w w' ∧
      (v'.ownBlock = c.pos.ownBlock ∨ ∃ g, v'.ownBlock = some g ∧ w.heap.size ≤ g)) (Fr 560 l f) w := by
  dsimp only [rec40, part, part.sub2', sub1, sub2, recBody, Tryz.f51, Option.getD]
  have hcr := hc.l.cr
  have HC := Lib.hid hc
  clear hc
  refine held_start (fun w' => Blk w' c.cr 66 (crCells c) ∧ Blk w' pb 128 (posCells q)) [10] mixed ?_
  have hcr1 : Blk w.drew c.cr 66 (crCells c) ∧ Blk w.drew pb 128 (posCells q) := ⟨hcr, hpb⟩
  refine take 0 _ _ ?tv41 rfl rfl (by kernel_rfl) hcr1 (by intro c a d v w h; cases d <;> exact h) ?th41 ?tn41
  case th41 => intro w' hS K hK; have hc := Blk.cell hS.1; unfold crCells at hc; have hq := Blk.cell hS.2; unfold posCells at hq; go_simp; exact hK
  refine take 1 _ _ ?tv42 rfl rfl (by kernel_rfl) hcr1 (by intro c a d v w h; cases d <;> exact h) ?th42 ?tn42
  case th42 => intro w' hS K hK; have hc := Blk.cell hS.1; unfold crCells at hc; have hq := Blk.cell hS.2; unfold posCells at hq; go_simp; exact hK
  refine take 2 _ _ ?tv43 rfl rfl (by kernel_rfl) hcr1 (by intro c a d v w h; cases d <;> exact h) ?th43 ?tn43
  case th43 => intro w' hS K hK; have hc := Blk.cell hS.1; unfold crCells at hc; have hq := Blk.cell hS.2; unfold posCells at hq; go_simp; exact hK
  refine take 3 _ _ ?tv44 rfl rfl (by kernel_rfl) hcr1 (by intro c a d v w h; cases d <;> exact h) ?th44 ?tn44
  case th44 => intro w' hS K hK; have hc := Blk.cell hS.1; unfold crCells at hc; have hq := Blk.cell hS.2; unfold posCells at hq; go_simp; exact hK
  refine take 4 _ _ ?tv45 rfl rfl (by kernel_rfl) hcr1 (by intro c a d v w h; cases d <;> exact h) ?th45 ?tn45
  case th45 => intro w' hS K hK; have hc := Blk.cell hS.1; unfold crCells at hc; have hq := Blk.cell hS.2; unfold posCells at hq; go_simp; exact hK
  refine take 5 _ _ ?tv46 rfl rfl (by kernel_rfl) hcr1 (by intro c a d v w h; cases d <;> exact h) ?th46 ?tn46
  case th46 => intro w' hS K hK; have hc := Blk.cell hS.1; unfold crCells at hc; have hq := Blk.cell hS.2; unfold posCells at hq; go_simp; exact hK
  refine held_alone 6 _ rfl (by kernel_rfl) ?_
  go_wp
  have hb1 : Below w.heap.size w (w.drew.alloc (.cells #[i64v q.1, i64v q.2] 128)) := ((Below.refl _ w).drew).alloc (Nat.le_refl _) _
  have hR1 := HC.out.below hb1
  obtain ⟨v2, w2, hrun, hown2, hgr2, hat2⟩ := append_pos _ B 64 c.pos r.pos hR1.pos w.heap.size 0 1 q ((Blk.new_arr w.drew 128 _).cell 0) ((Blk.new_arr w.drew 128 _).cell 1) hlen hR1.l.size
  obtain ⟨A2, c2, hA2, _⟩ := ownsRow_form hown2
  obtain ⟨n2, hn2⟩ : ∃ n2, n2 = (r.pos ++ [q]).length := ⟨_, rfl⟩
  rw [← hn2] at hA2
  subst hA2
  obtain ⟨hR2, hO2⟩ := hR1.appPos hown2 hgr2 hat2
  have hcr2 : Blk w2 c.cr 66 (crCells c) := hR1.l.cr.grown hgr2 (fun e => (hR1.pos_far c.cr e.symm).2 (.inl rfl))
  have hpb1 : Blk (w.drew.alloc (.cells #[i64v q.1, i64v q.2] 128)) pb 128 (posCells q) := hpb.below hb1 hpb.lt
  have hpb2 : Blk w2 pb 128 (posCells q) := hpb1.grown hgr2 (fun e => hpn e.symm)
  refine ⟨fun _ => ⟨hR1.l.cr, hpb1⟩, ?_⟩
  have HF := Lib.hid (And.intro hR2 (And.intro hO2 hat2))
  clear hR2 hO2 hat2 hR1 hown2 hgr2 HC hn2
  refine held_alone 7 _ rfl (by kernel_rfl) ?_
  refine wl_append _ _ _ rfl rfl (by rw [Fr_eval _ _ _ _ rfl]; simp only [lk]; rfl) (by rw [Fr_eval _ _ _ _ rfl]; simp only [lk]; rfl) hrun ?_
  rw [Fr_put]
  refine wpList_nil ?_
  refine ⟨fun _ => ⟨hcr2, hpb2⟩, ?_⟩
  refine held_alone 8 _ rfl (by kernel_rfl) ?_
  go_wp
  refine ⟨fun _ => ⟨hcr2, hpb2⟩, ?_⟩
  refine held_alone 9 _ rfl (by kernel_rfl) ?_
  go_wp
  refine ⟨fun _ => ⟨hcr2, hpb2⟩, ?_⟩
  refine held_alone 10 _ rfl (by kernel_rfl) ?_
  have hfz := hcr2.frozen
  have hcc := hcr2.cell
  unfold crCells at hcc
  clear hrun hcr2 hcr1 hcr hpb hpb1 hpb2
  go_wp
  refine ⟨fun h => absurd h (by decide), ?_⟩
  refine held_done (by kernel_rfl) ?_
  obtain ⟨hR2, hO2, hat2⟩ := HF.out
  refine NPost.mk ⟨_, _, rfl, (by repeat first | exact Keeps.refl _ _ _ | refine Keeps.far (by decide) ?_ | refine Keeps.set (by decide) ?_), hR2, ?_, own_new hb1.size hat2⟩
  exact ((Only.refl _ w).drew.alloc _).then hO2
noncomputable def rec62 : Code := part [true, false, true, true, true, true, true, true, true, true, true, true, true, true, true, false, false, false, false, true, true, true, true, true, true, false, false, false, true, true, false, true, true, true, true, false, true, true, true, false, true, true, true, false] recBody
set_option maxRecDepth 100000 in
set_option maxHeartbeats 1000000 in
theorem rec_pos62 (B : Nat) (G : Glob) (w : World) (c : CSt) (r : RSt) (l : List (Nat × Value)) (f : Nat → Value) (hc : RInv B G w c r) (h0 : lk l f 0 = .pointer (some ⟨c.cr, 0, none⟩)) (pb : Nat) (q : Nat × Nat) (hp : lk l f 17 = .pointer (some ⟨pb, 0, none⟩)) (hpb : Blk w pb 128 (posCells q))
    (hpn : c.pos.ownBlock ≠ some pb) (hlen : r.pos.length + 1 < 70368744177664 / 8) :
    rec62.wp Tryz.prog (NPost fun a w' => ∃ l' v', a = Fr 560 l' f ∧ Keeps [] l f l' ∧ RInv B G w' { c with pos := v' } { r with pos := r.pos ++ [q] } ∧ Only (fun k => k = c.cr ∨ c.pos.ownBlock = some k) w w' ∧
      (v'.ownBlock = c.pos.ownBlock ∨ ∃ g, v'.ownBlock = some g ∧ w.heap.size ≤ g)) (Fr 560 l f) w := by
  dsimp only [rec62, part, part.sub2', sub1, sub2, recBody, Tryz.f51, Option.getD]
  have hcr := hc.l.cr
  have HC := Lib.hid hc
  clear hc
  refine held_start (fun w' => Blk w' c.cr 66 (crCells c) ∧ Blk w' pb 128 (posCells q)) [10] mixed ?_
  have hcr1 : Blk w.drew c.cr 66 (crCells c) ∧ Blk w.drew pb 128 (posCells q) := ⟨hcr, hpb⟩
  refine take 0 _ _ ?tv47 rfl rfl (by kernel_rfl) hcr1 (by intro c a d v w h; cases d <;> exact h) ?th47 ?tn47
  case th47 => intro w' hS K hK; have hc := Blk.cell hS.1; unfold crCells at hc; have hq := Blk.cell hS.2; unfold posCells at hq; go_simp; exact hK
  refine take 1 _ _ ?tv48 rfl rfl (by kernel_rfl) hcr1 (by intro c a d v w h; cases d <;> exact h) ?th48 ?tn48
  case th48 => intro w' hS K hK; have hc := Blk.cell hS.1; unfold crCells at hc; have hq := Blk.cell hS.2; unfold posCells at hq; go_simp; exact hK
  refine take 2 _ _ ?tv49 rfl rfl (by kernel_rfl) hcr1 (by intro c a d v w h; cases d <;> exact h) ?th49 ?tn49
  case th49 => intro w' hS K hK; have hc := Blk.cell hS.1; unfold crCells at hc; have hq := Blk.cell hS.2; unfold posCells at hq; go_simp; exact hK
  refine take 3 _ _ ?tv50 rfl rfl (by kernel_rfl) hcr1 (by intro c a d v w h; cases d <;> exact h) ?th50 ?tn50
  case th50 => intro w' hS K hK; have hc := Blk.cell hS.1; unfold crCells at hc; have hq := Blk.cell hS.2; unfold posCells at hq; go_simp; exact hK
  refine take 4 _ _ ?tv51 rfl rfl (by kernel_rfl) hcr1 (by intro c a d v w h; cases d <;> exact h) ?th51 ?tn51
  case th51 => intro w' hS K hK; have hc := Blk.cell hS.1; unfold crCells at hc; have hq := Blk.cell hS.2; unfold posCells at hq; go_simp; exact hK
  refine take 5 _ _ ?tv52 rfl rfl (by kernel_rfl) hcr1 (by intro c a d v w h; cases d <;> exact h) ?th52 ?tn52
  case th52 => intro w' hS K hK; have hc := Blk.cell hS.1; unfold crCells at hc; have hq := Blk.cell hS.2; unfold posCells at hq; go_simp; exact hK
  refine held_alone 6 _ rfl (by kernel_rfl) ?_
  go_wp
  have hb1 : Below w.heap.size w (w.drew.alloc (.cells #[i64v q.1, i64v q.2] 128)) := ((Below.refl _ w).drew).alloc (Nat.le_refl _) _
  have hR1 := HC.out.below hb1
  obtain ⟨v2, w2, hrun, hown2, hgr2, hat2⟩ := append_pos _ B 64 c.pos r.pos hR1.pos w.heap.size 0 1 q ((Blk.new_arr w.drew 128 _).cell 0) ((Blk.new_arr w.drew 128 _).cell 1) hlen hR1.l.size
  obtain ⟨A2, c2, hA2, _⟩ := ownsRow_form hown2
  obtain ⟨n2, hn2⟩ : ∃ n2, n2 = (r.pos ++ [q]).length := ⟨_, rfl⟩
  rw [← hn2] at hA2
  subst hA2
  obtain ⟨hR2, hO2⟩ := hR1.appPos hown2 hgr2 hat2
  have hcr2 : Blk w2 c.cr 66 (crCells c) := hR1.l.cr.grown hgr2 (fun e => (hR1.pos_far c.cr e.symm).2 (.inl rfl))
  have hpb1 : Blk (w.drew.alloc (.cells #[i64v q.1, i64v q.2] 128)) pb 128 (posCells q) := hpb.below hb1 hpb.lt
  have hpb2 : Blk w2 pb 128 (posCells q) := hpb1.grown hgr2 (fun e => hpn e.symm)
  refine ⟨fun _ => ⟨hR1.l.cr, hpb1⟩, ?_⟩
  have HF := Lib.hid (And.intro hR2 (And.intro hO2 hat2))
  clear hR2 hO2 hat2 hR1 hown2 hgr2 HC hn2
  refine held_alone 7 _ rfl (by kernel_rfl) ?_
  refine wl_append _ _ _ rfl rfl (by rw [Fr_eval _ _ _ _ rfl]; simp only [lk]; rfl) (by rw [Fr_eval _ _ _ _ rfl]; simp only [lk]; rfl) hrun ?_
  rw [Fr_put]
  refine wpList_nil ?_
  refine ⟨fun _ => ⟨hcr2, hpb2⟩, ?_⟩
  refine held_alone 8 _ rfl (by kernel_rfl) ?_
  go_wp
  refine ⟨fun _ => ⟨hcr2, hpb2⟩, ?_⟩
  refine held_alone 9 _ rfl (by kernel_rfl) ?_
  go_wp
  refine ⟨fun _ => ⟨hcr2, hpb2⟩, ?_⟩
  refine held_alone 10 _ rfl (by kernel_rfl) ?_
  have hfz := hcr2.frozen
  have hcc := hcr2.cell
  unfold crCells at hcc
  clear hrun hcr2 hcr1 hcr hpb hpb1 hpb2
  go_wp
  refine ⟨fun h => absurd h (by decide), ?_⟩
  refine held_done (by kernel_rfl) ?_
  obtain ⟨hR2, hO2, hat2⟩ := HF.out
  refine NPost.mk ⟨_, _, rfl, (by repeat first | exact Keeps.refl _ _ _ | refine Keeps.far (by decide) ?_ | refine Keeps.set (by decide) ?_), hR2, ?_, own_new hb1.size hat2⟩
  exact ((Only.refl _ w).drew.alloc _).then hO2
noncomputable def rec65 : Code := part [true, false, true, true, true, true, true, true, true, true, true, true, true, true, true, false, false, false, false, true, true, true, true, true, true, false, false, false, true, true, false, true, true, true, true, false, true, true, true, true, true, false, true, false] recBody
set_option maxRecDepth 100000 in
set_option maxHeartbeats 1000000 in
theorem rec_pos65 (B : Nat) (G : Glob) (w : World) (c : CSt) (r : RSt) (l : List (Nat × Value)) (f : Nat → Value) (hc : RInv B G w c r) (h0 : lk l f 0 = .pointer (some ⟨c.cr, 0, none⟩)) (pb : Nat) (q : Nat × Nat) (hp : lk l f 17 = .pointer (some ⟨pb, 0, none⟩)) (hpb : Blk w pb 128 (posCells q))
    (hpn : c.pos.ownBlock ≠ some pb) (hlen : r.pos.length + 1 < 70368744177664 / 8) :
    rec65.wp Tryz.prog (NPost fun a w' => ∃ l' v', a = Fr 560 l' f ∧ Keeps [] l f l' ∧ RInv B G w' { c with pos := v' } { r with pos := r.pos ++ [q] } ∧ Only (fun k => k = c.cr ∨ c.pos.ownBlock = some k) w w' ∧
      (v'.ownBlock = c.pos.ownBlock ∨ ∃ g, v'.ownBlock = some g ∧ w.heap.size ≤ g)) (Fr 560 l f) w := by
  dsimp only [rec65, part, part.sub2', sub1, sub2, recBody, Tryz.f51, Option.getD]
  have hcr := hc.l.cr
  have HC := Lib.hid hc
  clear hc
  refine held_start (fun w' => Blk w' c.cr 66 (crCells c) ∧ Blk w' pb 128 (posCells q)) [10] mixed ?_
  have hcr1 : Blk w.drew c.cr 66 (crCells c) ∧ Blk w.drew pb 128 (posCells q) := ⟨hcr, hpb⟩
  refine take 0 _ _ ?tv53 rfl rfl (by kernel_rfl) hcr1 (by intro c a d v w h; cases d <;> exact h) ?th53 ?tn53
  case th53 => intro w' hS K hK; have hc := Blk.cell hS.1; unfold crCells at hc; have hq := Blk.cell hS.2; unfold posCells at hq; go_simp; exact hK
  refine take 1 _ _ ?tv54 rfl rfl (by kernel_rfl) hcr1 (by intro c a d v w h; cases d <;> exact h) ?th54 ?tn54
  case th54 => intro w' hS K hK; have hc := Blk.cell hS.1; unfold crCells at hc; have hq := Blk.cell hS.2; unfold posCells at hq; go_simp; exact hK
  refine take 2 _ _ ?tv55 rfl rfl (by kernel_rfl) hcr1 (by intro c a d v w h; cases d <;> exact h) ?th55 ?tn55
  case th55 => intro w' hS K hK; have hc := Blk.cell hS.1; unfold crCells at hc; have hq := Blk.cell hS.2; unfold posCells at hq; go_simp; exact hK
  refine take 3 _ _ ?tv56 rfl rfl (by kernel_rfl) hcr1 (by intro c a d v w h; cases d <;> exact h) ?th56 ?tn56
  case th56 => intro w' hS K hK; have hc := Blk.cell hS.1; unfold crCells at hc; have hq := Blk.cell hS.2; unfold posCells at hq; go_simp; exact hK
  refine take 4 _ _ ?tv57 rfl rfl (by kernel_rfl) hcr1 (by intro c a d v w h; cases d <;> exact h) ?th57 ?tn57
  case th57 => intro w' hS K hK; have hc := Blk.cell hS.1; unfold crCells at hc; have hq := Blk.cell hS.2; unfold posCells at hq; go_simp; exact hK
  refine take 5 _ _ ?tv58 rfl rfl (by kernel_rfl) hcr1 (by intro c a d v w h; cases d <;> exact h) ?th58 ?tn58
  case th58 => intro w' hS K hK; have hc := Blk.cell hS.1; unfold crCells at hc; have hq := Blk.cell hS.2; unfold posCells at hq; go_simp; exact hK
  refine held_alone 6 _ rfl (by kernel_rfl) ?_
  go_wp
  have hb1 : Below w.heap.size w (w.drew.alloc (.cells #[i64v q.1, i64v q.2] 128)) := ((Below.refl _ w).drew).alloc (Nat.le_refl _) _
  have hR1 := HC.out.below hb1
  obtain ⟨v2, w2, hrun, hown2, hgr2, hat2⟩ := append_pos _ B 64 c.pos r.pos hR1.pos w.heap.size 0 1 q ((Blk.new_arr w.drew 128 _).cell 0) ((Blk.new_arr w.drew 128 _).cell 1) hlen hR1.l.size
  obtain ⟨A2, c2, hA2, _⟩ := ownsRow_form hown2
  obtain ⟨n2, hn2⟩ : ∃ n2, n2 = (r.pos ++ [q]).length := ⟨_, rfl⟩
  rw [← hn2] at hA2
  subst hA2
  obtain ⟨hR2, hO2⟩ := hR1.appPos hown2 hgr2 hat2
  have hcr2 : Blk w2 c.cr 66 (crCells c) := hR1.l.cr.grown hgr2 (fun e => (hR1.pos_far c.cr e.symm).2 (.inl rfl))
  have hpb1 : Blk (w.drew.alloc (.cells #[i64v q.1, i64v q.2] 128)) pb 128 (posCells q) := hpb.below hb1 hpb.lt
  have hpb2 : Blk w2 pb 128 (posCells q) := hpb1.grown hgr2 (fun e => hpn e.symm)
  refine ⟨fun _ => ⟨hR1.l.cr, hpb1⟩, ?_⟩
  have HF := Lib.hid (And.intro hR2 (And.intro hO2 hat2))
  clear hR2 hO2 hat2 hR1 hown2 hgr2 HC hn2
  refine held_alone 7 _ rfl (by kernel_rfl) ?_
  refine wl_append _ _ _ rfl rfl (by rw [Fr_eval _ _ _ _ rfl]; simp only [lk]; rfl) (by rw [Fr_eval _ _ _ _ rfl]; simp only [lk]; rfl) hrun ?_
  rw [Fr_put]
  refine wpList_nil ?_
  refine ⟨fun _ => ⟨hcr2, hpb2⟩, ?_⟩
  refine held_alone 8 _ rfl (by kernel_rfl) ?_
  go_wp
  refine ⟨fun _ => ⟨hcr2, hpb2⟩, ?_⟩
  refine held_alone 9 _ rfl (by kernel_rfl) ?_
  go_wp
  refine ⟨fun _ => ⟨hcr2, hpb2⟩, ?_⟩
  refine held_alone 10 _ rfl (by kernel_rfl) ?_
  have hfz := hcr2.frozen
  have hcc := hcr2.cell
  unfold crCells at hcc
  clear hrun hcr2 hcr1 hcr hpb hpb1 hpb2
  go_wp
  refine ⟨fun h => absurd h (by decide), ?_⟩
  refine held_done (by kernel_rfl) ?_
  obtain ⟨hR2, hO2, hat2⟩ := HF.out
  refine NPost.mk ⟨_, _, rfl, (by repeat first | exact Keeps.refl _ _ _ | refine Keeps.far (by decide) ?_ | refine Keeps.set (by decide) ?_), hR2, ?_, own_new hb1.size hat2⟩
  exact ((Only.refl _ w).drew.alloc _).then hO2
noncomputable def rec81 : Code := part [true, false, true, true, true, true, true, true, true, true, true, true, true, true, true, false, false, false, false, true, true, true, true, true, true, false, false, false, true, true, true, true, true, true, true, false] recBody
set_option maxRecDepth 100000 in
set_option maxHeartbeats 1000000 in
theorem rec_pos81 (B : Nat) (G : Glob) (w : World) (c : CSt) (r : RSt) (l : List (Nat × Value)) (f : Nat → Value) (hc : RInv B G w c r) (h0 : lk l f 0 = .pointer (some ⟨c.cr, 0, none⟩)) (pb : Nat) (q : Nat × Nat) (hp : lk l f 17 = .pointer (some ⟨pb, 0, none⟩)) (hpb : Blk w pb 128 (posCells q))
    (hpn : c.pos.ownBlock ≠ some pb) (hlen : r.pos.length + 1 < 70368744177664 / 8) :
    rec81.wp Tryz.prog (NPost fun a w' => ∃ l' v', a = Fr 560 l' f ∧ Keeps [] l f l' ∧ RInv B G w' { c with pos := v' } { r with pos := r.pos ++ [q] } ∧ Only (fun k => k = c.cr ∨ c.pos.ownBlock = some k) w w' ∧
      (v'.ownBlock = c.pos.ownBlock ∨ ∃ g, v'.ownBlock = some g ∧ w.heap.size ≤ g)) (Fr 560 l f) w := by
  dsimp only [rec81, part, part.sub2', sub1, sub2, recBody, Tryz.f51, Option.getD]
  have hcr := hc.l.cr
  have HC := Lib.hid hc
  clear hc
  refine held_start (fun w' => Blk w' c.cr 66 (crCells c) ∧ Blk w' pb 128 (posCells q)) [10] mixed ?_
  have hcr1 : Blk w.drew c.cr 66 (crCells c) ∧ Blk w.drew pb 128 (posCells q) := ⟨hcr, hpb⟩
  refine take 0 _ _ ?tv59 rfl rfl (by kernel_rfl) hcr1 (by intro c a d v w h; cases d <;> exact h) ?th59 ?tn59
  case th59 => intro w' hS K hK; have hc := Blk.cell hS.1; unfold crCells at hc; have hq := Blk.cell hS.2; unfold posCells at hq; go_simp; exact hK
  refine take 1 _ _ ?tv60 rfl rfl (by kernel_rfl) hcr1 (by intro c a d v w h; cases d <;> exact h) ?th60 ?tn60
  case th60 => intro w' hS K hK; have hc := Blk.cell hS.1; unfold crCells at hc; have hq := Blk.cell hS.2; unfold posCells at hq; go_simp; exact hK
  refine take 2 _ _ ?tv61 rfl rfl (by kernel_rfl) hcr1 (by intro c a d v w h; cases d <;> exact h) ?th61 ?tn61
  case th61 => intro w' hS K hK; have hc := Blk.cell hS.1; unfold crCells at hc; have hq := Blk.cell hS.2; unfold posCells at hq; go_simp; exact hK
  refine take 3 _ _ ?tv62 rfl rfl (by kernel_rfl) hcr1 (by intro c a d v w h; cases d <;> exact h) ?th62 ?tn62
  case th62 => intro w' hS K hK; have hc := Blk.cell hS.1; unfold crCells at hc; have hq := Blk.cell hS.2; unfold posCells at hq; go_simp; exact hK
  refine take 4 _ _ ?tv63 rfl rfl (by kernel_rfl) hcr1 (by intro c a d v w h; cases d <;> exact h) ?th63 ?tn63
  case th63 => intro w' hS K hK; have hc := Blk.cell hS.1; unfold crCells at hc; have hq := Blk.cell hS.2; unfold posCells at hq; go_simp; exact hK
  refine take 5 _ _ ?tv64 rfl rfl (by kernel_rfl) hcr1 (by intro c a d v w h; cases d <;> exact h) ?th64 ?tn64
  case th64 => intro w' hS K hK; have hc := Blk.cell hS.1; unfold crCells at hc; have hq := Blk.cell hS.2; unfold posCells at hq; go_simp; exact hK
  refine held_alone 6 _ rfl (by kernel_rfl) ?_
  go_wp
  have hb1 : Below w.heap.size w (w.drew.alloc (.cells #[i64v q.1, i64v q.2] 128)) := ((Below.refl _ w).drew).alloc (Nat.le_refl _) _
  have hR1 := HC.out.below hb1
  obtain ⟨v2, w2, hrun, hown2, hgr2, hat2⟩ := append_pos _ B 64 c.pos r.pos hR1.pos w.heap.size 0 1 q ((Blk.new_arr w.drew 128 _).cell 0) ((Blk.new_arr w.drew 128 _).cell 1) hlen hR1.l.size
  obtain ⟨A2, c2, hA2, _⟩ := ownsRow_form hown2
  obtain ⟨n2, hn2⟩ : ∃ n2, n2 = (r.pos ++ [q]).length := ⟨_, rfl⟩
  rw [← hn2] at hA2
  subst hA2
  obtain ⟨hR2, hO2⟩ := hR1.appPos hown2 hgr2 hat2
  have hcr2 : Blk w2 c.cr 66 (crCells c) := hR1.l.cr.grown hgr2 (fun e => (hR1.pos_far c.cr e.symm).2 (.inl rfl))
  have hpb1 : Blk (w.drew.alloc (.cells #[i64v q.1, i64v q.2] 128)) pb 128 (posCells q) := hpb.below hb1 hpb.lt
  have hpb2 : Blk w2 pb 128 (posCells q) := hpb1.grown hgr2 (fun e => hpn e.symm)
  refine ⟨fun _ => ⟨hR1.l.cr, hpb1⟩, ?_⟩
  have HF := Lib.hid (And.intro hR2 (And.intro hO2 hat2))
  clear hR2 hO2 hat2 hR1 hown2 hgr2 HC hn2
  refine held_alone 7 _ rfl (by kernel_rfl) ?_
  refine wl_append _ _ _ rfl rfl (by rw [Fr_eval _ _ _ _ rfl]; simp only [lk]; rfl) (by rw [Fr_eval _ _ _ _ rfl]; simp only [lk]; rfl) hrun ?_
  rw [Fr_put]
  refine wpList_nil ?_
  refine ⟨fun _ => ⟨hcr2, hpb2⟩, ?_⟩
  refine held_alone 8 _ rfl (by kernel_rfl) ?_
  go_wp
  refine ⟨fun _ => ⟨hcr2, hpb2⟩, ?_⟩
  refine held_alone 9 _ rfl (by kernel_rfl) ?_
  go_wp
  refine ⟨fun _ => ⟨hcr2, hpb2⟩, ?_⟩
  refine held_alone 10 _ rfl (by kernel_rfl) ?_
  have hfz := hcr2.frozen
  have hcc := hcr2.cell
  unfold crCells at hcc
  clear hrun hcr2 hcr1 hcr hpb hpb1 hpb2
  go_wp
  refine ⟨fun h => absurd h (by decide), ?_⟩
  refine held_done (by kernel_rfl) ?_
  obtain ⟨hR2, hO2, hat2⟩ := HF.out
  refine NPost.mk ⟨_, _, rfl, (by repeat first | exact Keeps.refl _ _ _ | refine Keeps.far (by decide) ?_ | refine Keeps.set (by decide) ?_), hR2, ?_, own_new hb1.size hat2⟩
  exact ((Only.refl _ w).drew.alloc _).then hO2
/- Bytes are appended to the record's. -/
noncomputable def rec38 : Code := part [true, false, true, true, true, true, true, true, true, true, true, true, true, true, true, false, false, false, false, true, true, false, true, true, true, true, false] recBody
set_option maxRecDepth 100000 in
set_option maxHeartbeats 1000000 in
theorem rec_buf38 (B : Nat) (G : Glob) (w : World) (c : CSt) (r : RSt) (l : List (Nat × Value)) (f : Nat → Value) (hc : RInv B G w c r) (h0 : lk l f 0 = .pointer (some ⟨c.cr, 0, none⟩)) (lb lo cp : Nat) (m : List UInt8) (hp : lk l f 14 = .slice (some ⟨lb, lo, none⟩) m.length cp) (hm : BytesAt w lb lo m)
    (hlen : r.buf.length + m.length < 140737488355328) :
    rec38.wp Tryz.prog (NPost fun a w' => ∃ l' v', a = Fr 560 l' f ∧ Keeps [] l f l' ∧ RInv B G w' { c with rbuf := v' } { r with buf := r.buf ++ m } ∧ Only (fun k => k = c.cr ∨ c.rbuf.ownBlock = some k) w w' ∧
      (v'.ownBlock = c.rbuf.ownBlock ∨ ∃ g, v'.ownBlock = some g ∧ w.heap.size ≤ g)) (Fr 560 l f) w := by
  dsimp only [rec38, part, part.sub2', sub1, sub2, recBody, Tryz.f51, Option.getD]
  have hcr := hc.l.cr
  obtain ⟨v2, w2, hrun, hown2, hgr2, _, hat2⟩ := append_bytes _ B 63 c.rbuf r.buf hc.rbuf lb lo cp m hm hlen hc.l.size
  obtain ⟨A2, c2, hA2, _⟩ := ownsRow_form hown2
  obtain ⟨n2, hn2⟩ : ∃ n2, n2 = (r.buf ++ m).length := ⟨_, rfl⟩
  rw [← hn2] at hA2
  subst hA2
  obtain ⟨hR2, hO2⟩ := hc.appBuf hown2 hgr2 hat2
  have hcr2 : Blk w2 c.cr 66 (crCells c) := hc.l.cr.grown hgr2 (fun e => (hc.rbuf_far c.cr e.symm).2 (.inl rfl))
  have HF := Lib.hid (And.intro hR2 (And.intro hO2 hat2))
  clear hR2 hO2 hat2 hown2 hgr2 hc hn2 hm
  have hcc := hcr.cell
  have hfz := hcr2.frozen
  have hcc2 := hcr2.cell
  unfold crCells at hcc hcc2
  refine region_split 6 ?_
  simp only [List.take_succ_cons, List.take_zero, List.drop_succ_cons, List.drop_zero]
  go_wp
  refine Stop.mk (wl_append _ _ _ rfl rfl (by rw [Fr_eval _ _ _ _ rfl]; simp only [lk]; rfl) (by rw [Fr_eval _ _ _ _ rfl]; simp only [lk]; rfl) hrun ?_)
  rw [Fr_put]
  clear hrun hcr2 hcr hcc
  go_wp
  obtain ⟨hR2, hO2, hat2⟩ := HF.out
  exact NPost.mk ⟨_, _, rfl, (by repeat first | exact Keeps.refl _ _ _ | refine Keeps.far (by decide) ?_ | refine Keeps.set (by decide) ?_), hR2, hO2, own_new (Nat.le_refl _) hat2⟩
noncomputable def rec69 : Code := part [true, false, true, true, true, true, true, true, true, true, true, true, true, true, true, false, false, false, false, true, true, true, true, true, true, false, false, false, true, true, true, true, false, false] recBody
set_option maxRecDepth 100000 in
set_option maxHeartbeats 1000000 in
theorem rec_buf69 (B : Nat) (G : Glob) (w : World) (c : CSt) (r : RSt) (l : List (Nat × Value)) (f : Nat → Value) (hc : RInv B G w c r) (h0 : lk l f 0 = .pointer (some ⟨c.cr, 0, none⟩)) (lb lo cp : Nat) (m : List UInt8) (hp : lk l f 6 = .slice (some ⟨lb, lo, none⟩) m.length cp) (hm : BytesAt w lb lo m)
    (hlen : r.buf.length + m.length < 140737488355328) :
    rec69.wp Tryz.prog (NPost fun a w' => ∃ l' v', a = Fr 560 l' f ∧ Keeps [] l f l' ∧ RInv B G w' { c with rbuf := v' } { r with buf := r.buf ++ m } ∧ Only (fun k => k = c.cr ∨ c.rbuf.ownBlock = some k) w w' ∧
      (v'.ownBlock = c.rbuf.ownBlock ∨ ∃ g, v'.ownBlock = some g ∧ w.heap.size ≤ g)) (Fr 560 l f) w := by
  dsimp only [rec69, part, part.sub2', sub1, sub2, recBody, Tryz.f51, Option.getD]
  have hcr := hc.l.cr
  obtain ⟨v2, w2, hrun, hown2, hgr2, _, hat2⟩ := append_bytes _ B 63 c.rbuf r.buf hc.rbuf lb lo cp m hm hlen hc.l.size
  obtain ⟨A2, c2, hA2, _⟩ := ownsRow_form hown2
  obtain ⟨n2, hn2⟩ : ∃ n2, n2 = (r.buf ++ m).length := ⟨_, rfl⟩
  rw [← hn2] at hA2
  subst hA2
  obtain ⟨hR2, hO2⟩ := hc.appBuf hown2 hgr2 hat2
  have hcr2 : Blk w2 c.cr 66 (crCells c) := hc.l.cr.grown hgr2 (fun e => (hc.rbuf_far c.cr e.symm).2 (.inl rfl))
  have HF := Lib.hid (And.intro hR2 (And.intro hO2 hat2))
  clear hR2 hO2 hat2 hown2 hgr2 hc hn2 hm
  have hcc := hcr.cell
  have hfz := hcr2.frozen
  have hcc2 := hcr2.cell
  unfold crCells at hcc hcc2
  refine region_split 6 ?_
  simp only [List.take_succ_cons, List.take_zero, List.drop_succ_cons, List.drop_zero]
  go_wp
  refine Stop.mk (wl_append _ _ _ rfl rfl (by rw [Fr_eval _ _ _ _ rfl]; simp only [lk]; rfl) (by rw [Fr_eval _ _ _ _ rfl]; simp only [lk]; rfl) hrun ?_)
  rw [Fr_put]
  clear hrun hcr2 hcr hcc
  go_wp
  obtain ⟨hR2, hO2, hat2⟩ := HF.out
  exact NPost.mk ⟨_, _, rfl, (by repeat first | exact Keeps.refl _ _ _ | refine Keeps.far (by decide) ?_ | refine Keeps.set (by decide) ?_), hR2, hO2, own_new (Nat.le_refl _) hat2⟩
/- A quote is appended. -/
noncomputable def rec55 : Code := part [true, false, true, true, true, true, true, true, true, true, true, true, true, true, true, false, false, false, false, true, true, true, true, true, true, false, false, false, true, true, false, true, true, true, true, false, true, false, false] recBody
set_option maxRecDepth 100000 in
set_option maxHeartbeats 1000000 in
theorem rec_quote55 (B : Nat) (G : Glob) (w : World) (c : CSt) (r : RSt) (l : List (Nat × Value)) (f : Nat → Value) (hc : RInv B G w c r) (h0 : lk l f 0 = .pointer (some ⟨c.cr, 0, none⟩))
    (hlen : r.buf.length + 1 < 140737488355328) :
    rec55.wp Tryz.prog (NPost fun a w' => ∃ l' v', a = Fr 560 l' f ∧ Keeps [] l f l' ∧ RInv B G w' { c with rbuf := v' } { r with buf := r.buf ++ [34] } ∧ Only (fun k => k = c.cr ∨ c.rbuf.ownBlock = some k) w w' ∧
      (v'.ownBlock = c.rbuf.ownBlock ∨ ∃ g, v'.ownBlock = some g ∧ w.heap.size ≤ g)) (Fr 560 l f) w := by
  dsimp only [rec55, part, part.sub2', sub1, sub2, recBody, Tryz.f51, Option.getD]
  have hb1 : Below w.heap.size w (w.alloc (.cells #[b8 34] 5)) := (Below.refl _ w).alloc (Nat.le_refl _) _
  have hR1 := hc.below hb1
  have hcc := hc.l.cr.cell
  have hm : BytesAt (w.alloc (.cells #[b8 34] 5)) w.heap.size 0 [34] := by
    have := BytesAt.of_blk (bs := [34]) (Blk.new_arr w 5 #[b8 34]) 0 1
    exact this
  obtain ⟨v2, w2, hrun, hown2, hgr2, _, hat2⟩ := append_bytes _ B 63 c.rbuf r.buf hR1.rbuf w.heap.size 0 1 [34] hm hlen hR1.l.size
  obtain ⟨A2, c2, hA2, _⟩ := ownsRow_form hown2
  obtain ⟨n2, hn2⟩ : ∃ n2, n2 = (r.buf ++ [34]).length := ⟨_, rfl⟩
  rw [← hn2] at hA2
  subst hA2
  obtain ⟨hR2, hO2⟩ := hR1.appBuf hown2 hgr2 hat2
  have hcr2 : Blk w2 c.cr 66 (crCells c) := hR1.l.cr.grown hgr2 (fun e => (hR1.rbuf_far c.cr e.symm).2 (.inl rfl))
  have HF := Lib.hid (And.intro hR2 (And.intro hO2 (And.intro hat2 hb1)))
  clear hR2 hO2 hat2 hown2 hgr2 hc hn2 hm hb1 hR1
  have hfz := hcr2.frozen
  have hcc2 := hcr2.cell
  unfold crCells at hcc hcc2
  refine region_split 6 ?_
  simp only [List.take_succ_cons, List.take_zero, List.drop_succ_cons, List.drop_zero]
  go_wp
  refine Stop.mk (wl_append _ _ _ rfl rfl (by rw [Fr_eval _ _ _ _ rfl]; simp only [lk]; rfl) (by rw [Fr_eval _ _ _ _ rfl]; simp only [lk]; rfl) hrun ?_)
  rw [Fr_put]
  clear hrun hcr2 hcc
  go_wp
  obtain ⟨hR2, hO2, hat2, hb1⟩ := HF.out
  exact NPost.mk ⟨_, _, rfl, (by repeat first | exact Keeps.refl _ _ _ | refine Keeps.far (by decide) ?_ | refine Keeps.set (by decide) ?_), hR2, ((Only.refl _ w).alloc _).then hO2, own_new hb1.size hat2⟩
noncomputable def rec67 : Code := part [true, false, true, true, true, true, true, true, true, true, true, true, true, true, true, false, false, false, false, true, true, true, true, true, true, false, false, false, true, true, false, true, true, true, true, false, true, true, true, true, true, true, true, false] recBody
set_option maxRecDepth 100000 in
set_option maxHeartbeats 1000000 in
theorem rec_quote67 (B : Nat) (G : Glob) (w : World) (c : CSt) (r : RSt) (l : List (Nat × Value)) (f : Nat → Value) (hc : RInv B G w c r) (h0 : lk l f 0 = .pointer (some ⟨c.cr, 0, none⟩))
    (hlen : r.buf.length + 1 < 140737488355328) :
    rec67.wp Tryz.prog (NPost fun a w' => ∃ l' v', a = Fr 560 l' f ∧ Keeps [] l f l' ∧ RInv B G w' { c with rbuf := v' } { r with buf := r.buf ++ [34] } ∧ Only (fun k => k = c.cr ∨ c.rbuf.ownBlock = some k) w w' ∧
      (v'.ownBlock = c.rbuf.ownBlock ∨ ∃ g, v'.ownBlock = some g ∧ w.heap.size ≤ g)) (Fr 560 l f) w := by
  dsimp only [rec67, part, part.sub2', sub1, sub2, recBody, Tryz.f51, Option.getD]
  have hb1 : Below w.heap.size w (w.alloc (.cells #[b8 34] 5)) := (Below.refl _ w).alloc (Nat.le_refl _) _
  have hR1 := hc.below hb1
  have hcc := hc.l.cr.cell
  have hm : BytesAt (w.alloc (.cells #[b8 34] 5)) w.heap.size 0 [34] := by
    have := BytesAt.of_blk (bs := [34]) (Blk.new_arr w 5 #[b8 34]) 0 1
    exact this
  obtain ⟨v2, w2, hrun, hown2, hgr2, _, hat2⟩ := append_bytes _ B 63 c.rbuf r.buf hR1.rbuf w.heap.size 0 1 [34] hm hlen hR1.l.size
  obtain ⟨A2, c2, hA2, _⟩ := ownsRow_form hown2
  obtain ⟨n2, hn2⟩ : ∃ n2, n2 = (r.buf ++ [34]).length := ⟨_, rfl⟩
  rw [← hn2] at hA2
  subst hA2
  obtain ⟨hR2, hO2⟩ := hR1.appBuf hown2 hgr2 hat2
  have hcr2 : Blk w2 c.cr 66 (crCells c) := hR1.l.cr.grown hgr2 (fun e => (hR1.rbuf_far c.cr e.symm).2 (.inl rfl))
  have HF := Lib.hid (And.intro hR2 (And.intro hO2 (And.intro hat2 hb1)))
  clear hR2 hO2 hat2 hown2 hgr2 hc hn2 hm hb1 hR1
  have hfz := hcr2.frozen
  have hcc2 := hcr2.cell
  unfold crCells at hcc hcc2
  refine region_split 6 ?_
  simp only [List.take_succ_cons, List.take_zero, List.drop_succ_cons, List.drop_zero]
  go_wp
  refine Stop.mk (wl_append _ _ _ rfl rfl (by rw [Fr_eval _ _ _ _ rfl]; simp only [lk]; rfl) (by rw [Fr_eval _ _ _ _ rfl]; simp only [lk]; rfl) hrun ?_)
  rw [Fr_put]
  clear hrun hcr2 hcc
  go_wp
  obtain ⟨hR2, hO2, hat2, hb1⟩ := HF.out
  exact NPost.mk ⟨_, _, rfl, (by repeat first | exact Keeps.refl _ _ _ | refine Keeps.far (by decide) ?_ | refine Keeps.set (by decide) ?_), hR2, ((Only.refl _ w).alloc _).then hO2, own_new hb1.size hat2⟩
/- What came before a quote is appended. -/
noncomputable def rec49 : Code := part [true, false, true, true, true, true, true, true, true, true, true, true, true, true, true, false, false, false, false, true, true, true, true, true, true, false, false, false, true, true, false, false] recBody
set_option maxRecDepth 100000 in
set_option maxHeartbeats 1000000 in
theorem rec_buf49 (B : Nat) (G : Glob) (w : World) (c : CSt) (r : RSt) (l : List (Nat × Value)) (f : Nat → Value) (hc : RInv B G w c r) (h0 : lk l f 0 = .pointer (some ⟨c.cr, 0, none⟩)) (lb lo cp i : Nat) (line : List UInt8) (hp : lk l f 6 = .slice (some ⟨lb, lo, none⟩) line.length cp) (hm : BytesAt w lb lo line)
    (hi : lk l f 18 = .int .i64 (i : Int)) (hil : i < line.length) (hcp : line.length ≤ cp) (hlen : r.buf.length + i < 140737488355328) :
    rec49.wp Tryz.prog (NPost fun a w' => ∃ l' v', a = Fr 560 l' f ∧ Keeps [] l f l' ∧ RInv B G w' { c with rbuf := v' } { r with buf := r.buf ++ line.take i } ∧ Only (fun k => k = c.cr ∨ c.rbuf.ownBlock = some k) w w' ∧
      (v'.ownBlock = c.rbuf.ownBlock ∨ ∃ g, v'.ownBlock = some g ∧ w.heap.size ≤ g)) (Fr 560 l f) w := by
  dsimp only [rec49, part, part.sub2', sub1, sub2, recBody, Tryz.f51, Option.getD]
  have hcr := hc.l.cr
  have hc1 : RInv B G w.drew c r := hc.below (Below.refl _ w).drew
  have hlt : (line.take i).length = i := by rw [List.length_take]; omega
  obtain ⟨v2, w2, hrun, hown2, hgr2, _, hat2⟩ := append_bytes w.drew B 63 c.rbuf r.buf hc1.rbuf lb lo cp (line.take i) (hm.take i) (by omega) hc1.l.size
  rw [hlt] at hrun
  obtain ⟨A2, c2, hA2, _⟩ := ownsRow_form hown2
  obtain ⟨n2, hn2⟩ : ∃ n2, n2 = (r.buf ++ line.take i).length := ⟨_, rfl⟩
  rw [← hn2] at hA2
  subst hA2
  obtain ⟨hR2, hO2⟩ := hc1.appBuf hown2 hgr2 hat2
  have hcr2 : Blk w2 c.cr 66 (crCells c) := hc1.l.cr.grown hgr2 (fun e => (hc1.rbuf_far c.cr e.symm).2 (.inl rfl))
  have HF := Lib.hid (And.intro hR2 (And.intro hO2 hat2))
  clear hR2 hO2 hat2 hown2 hgr2 hc hn2 hm hc1 hlt
  refine held_start (fun w' => Blk w' c.cr 66 (crCells c)) [11] mixed ?_
  have hcr1 := hcr.drew
  have i1 : i ≤ cp := by omega
  refine take 0 _ _ ?tv65 rfl rfl (by kernel_rfl) hcr1 (by intro c a d v w h; cases d <;> exact h) ?th65 ?tn65
  case th65 => intro w' hS K hK; have hc := Blk.cell hS; unfold crCells at hc; go_simp; exact hK
  refine take 1 _ _ ?tv66 rfl rfl (by kernel_rfl) hcr1 (by intro c a d v w h; cases d <;> exact h) ?th66 ?tn66
  case th66 => intro w' hS K hK; have hc := Blk.cell hS; unfold crCells at hc; go_simp; exact hK
  refine take 2 _ _ ?tv67 rfl rfl (by kernel_rfl) hcr1 (by intro c a d v w h; cases d <;> exact h) ?th67 ?tn67
  case th67 => intro w' hS K hK; have hc := Blk.cell hS; unfold crCells at hc; go_simp; exact hK
  refine take 3 _ _ ?tv68 rfl rfl (by kernel_rfl) hcr1 (by intro c a d v w h; cases d <;> exact h) ?th68 ?tn68
  case th68 => intro w' hS K hK; have hc := Blk.cell hS; unfold crCells at hc; go_simp; exact hK
  refine take 4 _ _ ?tv69 rfl rfl (by kernel_rfl) hcr1 (by intro c a d v w h; cases d <;> exact h) ?th69 ?tn69
  case th69 => intro w' hS K hK; have hc := Blk.cell hS; unfold crCells at hc; go_simp; exact hK
  refine take 5 _ _ ?tv70 rfl rfl (by kernel_rfl) hcr1 (by intro c a d v w h; cases d <;> exact h) ?th70 ?tn70
  case th70 => intro w' hS K hK; have hc := Blk.cell hS; unfold crCells at hc; go_simp; exact hK
  refine take 6 _ _ ?tv71 rfl rfl (by kernel_rfl) hcr1 (by intro c a d v w h; cases d <;> exact h) ?th71 ?tn71
  case th71 => intro w' hS K hK; have hc := Blk.cell hS; unfold crCells at hc; go_simp; exact hK
  refine take 7 _ _ ?tv72 rfl rfl (by kernel_rfl) hcr1 (by intro c a d v w h; cases d <;> exact h) ?th72 ?tn72
  case th72 => intro w' hS K hK; have hc := Blk.cell hS; unfold crCells at hc; go_simp; exact hK
  refine held_alone 8 _ rfl (by kernel_rfl) ?_
  refine wl_append _ _ _ rfl rfl (by rw [Fr_eval _ _ _ _ rfl]; simp only [lk]; rfl) (by rw [Fr_eval _ _ _ _ rfl]; simp only [lk]; rfl) hrun ?_
  rw [Fr_put]
  refine wpList_nil ?_
  refine ⟨fun _ => hcr2, ?_⟩
  refine held_alone 9 _ rfl (by kernel_rfl) ?_
  go_wp
  refine ⟨fun _ => hcr2, ?_⟩
  refine held_alone 10 _ rfl (by kernel_rfl) ?_
  go_wp
  refine ⟨fun _ => hcr2, ?_⟩
  refine held_alone 11 _ rfl (by kernel_rfl) ?_
  have hfz := hcr2.frozen
  have hcc := hcr2.cell
  unfold crCells at hcc
  clear hrun hcr2 hcr1 hcr
  go_wp
  refine ⟨fun h => absurd h (by decide), ?_⟩
  refine held_done (by kernel_rfl) ?_
  obtain ⟨hR2, hO2, hat2⟩ := HF.out
  exact NPost.mk ⟨_, _, rfl, (by repeat first | exact Keeps.refl _ _ _ | refine Keeps.far (by decide) ?_ | refine Keeps.set (by decide) ?_), hR2, (Only.refl _ w).drew.then hO2, own_new (Nat.le_refl _) hat2⟩
/-- A ParseError as a value. -/
abbrev peVal (g : Nat) : Value := .iface 104 (.pointer (some ⟨g, 0, none⟩))
/- The errors are made. -/
noncomputable def rec37 : Code := part [true, false, true, true, true, true, true, true, true, true, true, true, true, true, true, false, false, false, false, true, true, false, true, true, true, false, true, false, true, true, false, true, false] recBody
set_option maxRecDepth 100000 in
set_option maxHeartbeats 1000000 in
theorem rec_err37 (B : Nat) (G : Glob) (w : World) (c : CSt) (r : RSt) (l : List (Nat × Value)) (f : Nat → Value) (hc : RInv B G w c r) (h0 : lk l f 0 = .pointer (some ⟨c.cr, 0, none⟩)) (rl col : Nat) (h10 : lk l f 10 = .int .i64 (rl : Int)) (h16 : lk l f 16 = .int .i64 (col : Int)) :
    rec37.wp Tryz.prog (NPost fun a w' => ∃ l', a = Fr 560 ((8, peVal w.heap.size) :: l') f ∧ Keeps [] l f l' ∧ w' = w.drew.alloc (.cells #[i64v rl, i64v c.numLine, i64v col, errVal G.bare] 108)) (Fr 560 l f) w := by
  dsimp only [rec37, part, part.sub2', sub1, sub2, recBody, Tryz.f51, Option.getD]
  have hcr := hc.l.cr
  have hg := hc.l.glob.bare.var
  have hgl : (1 : Nat) < w.heap.size := Nat.lt_of_lt_of_le hc.l.glob.bare.gB hc.l.size
  clear hc
  refine held_start (fun w' => Blk w' c.cr 66 (crCells c) ∧ w'.cell? ⟨1, 0, none⟩ = some (errVal G.bare)) [] mixed ?_
  have hcr1 : Blk w.drew c.cr 66 (crCells c) ∧ w.drew.cell? ⟨1, 0, none⟩ = some (errVal G.bare) := ⟨hcr, hg⟩
  refine take 0 _ _ ?tv73 rfl rfl (by kernel_rfl) hcr1 (by intro c a d v w h; cases d <;> exact h) ?th73 ?tn73
  case th73 => intro w' hS K hK; have hc := Blk.cell hS.1; unfold crCells at hc; have hq := hS.2; go_simp; exact hK
  refine take 1 _ _ ?tv74 rfl rfl (by kernel_rfl) hcr1 (by intro c a d v w h; cases d <;> exact h) ?th74 ?tn74
  case th74 => intro w' hS K hK; have hc := Blk.cell hS.1; unfold crCells at hc; have hq := hS.2; go_simp; exact hK
  refine take 2 _ _ ?tv75 rfl rfl (by kernel_rfl) hcr1 (by intro c a d v w h; cases d <;> exact h) ?th75 ?tn75
  case th75 => intro w' hS K hK; have hc := Blk.cell hS.1; unfold crCells at hc; have hq := hS.2; go_simp; exact hK
  refine take 3 _ _ ?tv76 rfl rfl (by kernel_rfl) hcr1 (by intro c a d v w h; cases d <;> exact h) ?th76 ?tn76
  case th76 => intro w' hS K hK; have hc := Blk.cell hS.1; unfold crCells at hc; have hq := hS.2; go_simp; exact hK
  refine take 4 _ _ ?tv77 rfl rfl (by kernel_rfl) hcr1 (by intro c a d v w h; cases d <;> exact h) ?th77 ?tn77
  case th77 => intro w' hS K hK; have hc := Blk.cell hS.1; unfold crCells at hc; have hq := hS.2; go_simp; exact hK
  refine take 5 _ _ ?tv78 rfl rfl (by kernel_rfl) hcr1 (by intro c a d v w h; cases d <;> exact h) ?th78 ?tn78
  case th78 => intro w' hS K hK; have hc := Blk.cell hS.1; unfold crCells at hc; have hq := hS.2; go_simp; exact hK
  refine take 6 _ _ ?tv79 rfl rfl (by kernel_rfl) hcr1 (by intro c a d v w h; cases d <;> exact h) ?th79 ?tn79
  case th79 => intro w' hS K hK; have hc := Blk.cell hS.1; unfold crCells at hc; have hq := hS.2; go_simp; exact hK
  refine take 7 _ _ ?tv80 rfl rfl (by kernel_rfl) hcr1 (by intro c a d v w h; cases d <;> exact h) ?th80 ?tn80
  case th80 => intro w' hS K hK; have hc := Blk.cell hS.1; unfold crCells at hc; have hq := hS.2; go_simp; exact hK
  have hb : Below w.heap.size w (w.drew.alloc (.cells #[i64v rl, i64v c.numLine, i64v col, errVal G.bare] 108)) := ((Below.refl _ w).drew).alloc (Nat.le_refl _) _
  have HS := Lib.hid (And.intro (hcr.below hb hcr.lt) ((hb.cell (p := ⟨1, 0, none⟩) hgl).trans hg))
  clear hb hgl
  refine held_alone 8 _ rfl (by kernel_rfl) ?_
  go_wp
  refine ⟨fun _ => HS.out, ?_⟩
  refine held_alone 9 _ rfl (by kernel_rfl) ?_
  go_wp
  refine ⟨fun _ => HS.out, ?_⟩
  refine held_alone 10 _ rfl (by kernel_rfl) ?_
  go_wp
  refine ⟨fun _ => HS.out, ?_⟩
  refine held_done (by kernel_rfl) ?_
  exact NPost.mk ⟨_, rfl, (by repeat first | exact Keeps.refl _ _ _ | refine Keeps.far (by decide) ?_ | refine Keeps.set (by decide) ?_), rfl⟩
noncomputable def rec53 : Code := part [true, false, true, true, true, true, true, true, true, true, true, true, true, true, true, false, false, false, false, true, true, true, true, true, true, false, false, false, true, true, false, true, true, true, true, false, true, true, true, true, true, true, true, true, false] recBody
set_option maxRecDepth 100000 in
set_option maxHeartbeats 1000000 in
theorem rec_err53 (B : Nat) (G : Glob) (w : World) (c : CSt) (r : RSt) (l : List (Nat × Value)) (f : Nat → Value) (hc : RInv B G w c r) (h0 : lk l f 0 = .pointer (some ⟨c.cr, 0, none⟩)) (rl pb pl pc : Nat) (h10 : lk l f 10 = .int .i64 (rl : Int)) (hp : lk l f 11 = .pointer (some ⟨pb, 0, none⟩))
    (hpb : Blk w pb 128 (posCells (pl, pc + 1))) (hpc : pc < 70368744177664) :
    rec53.wp Tryz.prog (NPost fun a w' => ∃ l', a = Fr 560 ((8, peVal w.heap.size) :: l') f ∧ Keeps [] l f l' ∧ w' = w.drew.alloc (.cells #[i64v rl, i64v c.numLine, i64v pc, errVal G.quote] 108)) (Fr 560 l f) w := by
  dsimp only [rec53, part, part.sub2', sub1, sub2, recBody, Tryz.f51, Option.getD]
  have hcr := hc.l.cr
  have hg := hc.l.glob.quote.var
  have hgl : (2 : Nat) < w.heap.size := Nat.lt_of_lt_of_le hc.l.glob.quote.gB hc.l.size
  clear hc
  refine held_start (fun w' => Blk w' c.cr 66 (crCells c) ∧ w'.cell? ⟨2, 0, none⟩ = some (errVal G.quote) ∧ Blk w' pb 128 (posCells (pl, pc + 1))) [] mixed ?_
  have hcr1 : Blk w.drew c.cr 66 (crCells c) ∧ w.drew.cell? ⟨2, 0, none⟩ = some (errVal G.quote) ∧ Blk w.drew pb 128 (posCells (pl, pc + 1)) := ⟨hcr, hg, hpb⟩
  have hsub : ((pc + 1 : Nat) : Int) - 1 = (pc : Int) := by omega
  refine take 0 _ _ ?tv81 rfl rfl (by kernel_rfl) hcr1 (by intro c a d v w h; cases d <;> exact h) ?th81 ?tn81
  case th81 => intro w' hS K hK; have hc := Blk.cell hS.1; unfold crCells at hc; have hq := hS.2.1; have hx := Blk.cell hS.2.2; unfold posCells i64v at hx; go_simp; exact hK
  refine take 1 _ _ ?tv82 rfl rfl (by kernel_rfl) hcr1 (by intro c a d v w h; cases d <;> exact h) ?th82 ?tn82
  case th82 => intro w' hS K hK; have hc := Blk.cell hS.1; unfold crCells at hc; have hq := hS.2.1; have hx := Blk.cell hS.2.2; unfold posCells i64v at hx; go_simp; exact hK
  refine take 2 _ _ ?tv83 rfl rfl (by kernel_rfl) hcr1 (by intro c a d v w h; cases d <;> exact h) ?th83 ?tn83
  case th83 => intro w' hS K hK; have hc := Blk.cell hS.1; unfold crCells at hc; have hq := hS.2.1; have hx := Blk.cell hS.2.2; unfold posCells i64v at hx; go_simp; exact hK
  refine take 3 _ _ ?tv84 rfl rfl (by kernel_rfl) hcr1 (by intro c a d v w h; cases d <;> exact h) ?th84 ?tn84
  case th84 => intro w' hS K hK; have hc := Blk.cell hS.1; unfold crCells at hc; have hq := hS.2.1; have hx := Blk.cell hS.2.2; unfold posCells i64v at hx; go_simp; exact hK
  refine take 4 _ _ ?tv85 rfl rfl (by kernel_rfl) hcr1 (by intro c a d v w h; cases d <;> exact h) ?th85 ?tn85
  case th85 => intro w' hS K hK; have hc := Blk.cell hS.1; unfold crCells at hc; have hq := hS.2.1; have hx := Blk.cell hS.2.2; unfold posCells i64v at hx; go_simp; exact hK
  refine take 5 _ _ ?tv86 rfl rfl (by kernel_rfl) hcr1 (by intro c a d v w h; cases d <;> exact h) ?th86 ?tn86
  case th86 => intro w' hS K hK; have hc := Blk.cell hS.1; unfold crCells at hc; have hq := hS.2.1; have hx := Blk.cell hS.2.2; unfold posCells i64v at hx; go_simp; exact hK
  refine take 6 _ _ ?tv87 rfl rfl (by kernel_rfl) hcr1 (by intro c a d v w h; cases d <;> exact h) ?th87 ?tn87
  case th87 => intro w' hS K hK; have hc := Blk.cell hS.1; unfold crCells at hc; have hq := hS.2.1; have hx := Blk.cell hS.2.2; unfold posCells i64v at hx; go_simp; exact hK
  refine take 7 _ _ ?tv88 rfl rfl (by kernel_rfl) hcr1 (by intro c a d v w h; cases d <;> exact h) ?th88 ?tn88
  case th88 => intro w' hS K hK; have hc := Blk.cell hS.1; unfold crCells at hc; have hq := hS.2.1; have hx := Blk.cell hS.2.2; unfold posCells i64v at hx; go_simp; exact hK
  refine take 8 _ _ ?tv89 rfl rfl (by kernel_rfl) hcr1 (by intro c a d v w h; cases d <;> exact h) ?th89 ?tn89
  case th89 => intro w' hS K hK; have hc := Blk.cell hS.1; unfold crCells at hc; have hq := hS.2.1; have hx := Blk.cell hS.2.2; unfold posCells i64v at hx; go_simp; exact hK
  refine take 9 _ _ ?tv90 rfl rfl (by kernel_rfl) hcr1 (by intro c a d v w h; cases d <;> exact h) ?th90 ?tn90
  case th90 => intro w' hS K hK; have hc := Blk.cell hS.1; unfold crCells at hc; have hq := hS.2.1; have hx := Blk.cell hS.2.2; unfold posCells i64v at hx; go_simp; exact hK
  have hb : Below w.heap.size w (w.drew.alloc (.cells #[i64v rl, i64v c.numLine, i64v pc, errVal G.quote] 108)) := ((Below.refl _ w).drew).alloc (Nat.le_refl _) _
  have HS := Lib.hid (And.intro (hcr.below hb hcr.lt) (And.intro ((hb.cell (p := ⟨2, 0, none⟩) hgl).trans hg) (hpb.below hb hpb.lt)))
  clear hb hgl
  refine held_alone 10 _ rfl (by kernel_rfl) ?_
  go_wp
  refine ⟨fun _ => HS.out, ?_⟩
  refine held_alone 11 _ rfl (by kernel_rfl) ?_
  go_wp
  refine ⟨fun _ => HS.out, ?_⟩
  refine held_alone 12 _ rfl (by kernel_rfl) ?_
  go_wp
  refine ⟨fun _ => HS.out, ?_⟩
  refine held_done (by kernel_rfl) ?_
  exact NPost.mk ⟨_, rfl, (by repeat first | exact Keeps.refl _ _ _ | refine Keeps.far (by decide) ?_ | refine Keeps.set (by decide) ?_), rfl⟩
noncomputable def rec79 : Code := part [true, false, true, true, true, true, true, true, true, true, true, true, true, true, true, false, false, false, false, true, true, true, true, true, true, false, false, false, true, true, true, true, true, false, true, false, false] recBody
set_option maxRecDepth 100000 in
set_option maxHeartbeats 1000000 in
theorem rec_err79 (B : Nat) (G : Glob) (w : World) (c : CSt) (r : RSt) (l : List (Nat × Value)) (f : Nat → Value) (hc : RInv B G w c r) (rl pb pl pc : Nat) (h10 : lk l f 10 = .int .i64 (rl : Int)) (hp : lk l f 11 = .pointer (some ⟨pb, 0, none⟩))
    (hpb : Blk w pb 128 (posCells (pl, pc))) :
    rec79.wp Tryz.prog (NPost fun a w' => ∃ l', a = Fr 560 ((8, peVal w.heap.size) :: l') f ∧ Keeps [] l f l' ∧ w' = w.alloc (.cells #[i64v rl, i64v pl, i64v pc, errVal G.quote] 108)) (Fr 560 l f) w := by
  dsimp only [rec79, part, part.sub2', sub1, sub2, recBody, Tryz.f51, Option.getD]
  have hg := hc.l.glob.quote.var
  have hx := hpb.cell
  unfold posCells i64v at hx
  clear hc hpb
  go_wp
  exact NPost.mk ⟨_, rfl, (by repeat first | exact Keeps.refl _ _ _ | refine Keeps.far (by decide) ?_ | refine Keeps.set (by decide) ?_), rfl⟩
end Go.Proofs.YtfadgnopfjajbaaGreatDoor
