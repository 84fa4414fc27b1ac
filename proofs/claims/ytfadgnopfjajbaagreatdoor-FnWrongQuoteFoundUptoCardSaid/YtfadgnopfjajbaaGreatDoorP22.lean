/- A part of the proof: slices.Concat. The library's functions that FnWrongQuoteFound calls: strings.Join, strings.Count, slices.Clone. laws.FnWrongQuoteFound: its regions. laws.FnWrongQuoteFound: the regions behind the tests, up to the loop. laws.FnWrongQuoteFound: the Scan and the look at its last answer. -/
import Derived.Test.YtfadgnopfjajbaaGreatDoorP21
import Derived.Shelf.Strings.OnBuilder
import Derived.Shelf.Strings.Count
import Derived.Shelf.Slices.Clone
import Derived.Lib.IndexAny
namespace Go.Proofs.YtfadgnopfjajbaaGreatDoor
open Go.RowKit
noncomputable def ccBody : Code := (Tryz.f17.body).getD .skip
noncomputable def cc0 : Code := part [false] ccBody
noncomputable def cc1 : Code := part [true, false] ccBody
noncomputable def cc2 : Code := part [true, true, false, false] ccBody
noncomputable def cc3 : Code := part [true, true, false, true, false, false, false] ccBody
noncomputable def cc4 : Code := part [true, true, false, true, false, false, true, true, false, false, false] ccBody
noncomputable def cc5 : Code := part [true, true, false, true, false, false, true, true, false, false, true, false] ccBody
noncomputable def cc6 : Code := part [true, true, false, true, false, false, true, true, false, false, true, true, false] ccBody
noncomputable def cc7 : Code := part [true, true, false, true, false, false, true, true, false, false, true, true, true, false] ccBody
noncomputable def cc8 : Code := part [true, true, false, true, false, false, true, true, true] ccBody
noncomputable def cc9 : Code := part [true, true, true, false] ccBody
noncomputable def cc10 : Code := part [true, true, true, true, false, false] ccBody
noncomputable def cc11 : Code := part [true, true, true, true, false, true, false, false, false] ccBody
noncomputable def cc12 : Code := part [true, true, true, true, false, true, false, false, true, true, false, false, false] ccBody
noncomputable def cc13 : Code := part [true, true, true, true, false, true, false, false, true, true, false, false, true] ccBody
noncomputable def cc14 : Code := part [true, true, true, true, false, true, false, false, true, true, true] ccBody
noncomputable def cc15 : Code := part [true, true, true, true, true, false] ccBody
noncomputable def ccSum : Code := Code.block 0 (.loop (.seq cc3 (.seq (.cond (.tmp 12) .skip (.exit 0)) (.seq (.block 1 (.seq cc4 (.seq cc5 (.seq cc6 (.cond (.tmp 20) cc7 .skip))))) cc8))))
noncomputable def ccApp : Code := Code.block 2 (.loop (.seq cc11 (.seq (.cond (.tmp 28) .skip (.exit 2)) (.seq (.block 3 (.seq cc12 cc13)) cc14))))
set_option maxRecDepth 100000 in
theorem cc_eq : ccBody = Code.seq cc0 (.seq cc1 (.seq (.seq cc2 ccSum) (.seq cc9 (.seq (.seq cc10 ccApp) (.seq cc15 .ret))))) := by kernel_rfl
abbrev cV : List Nat := [0, 3, 5, 6, 8, 9, 10, 11, 25, 26, 27]
set_option maxRecDepth 100000 in
theorem cc_p0 (w : World) (l : List (Nat × Value)) (f : Nat → Value) : cc0.wp Tryz.prog (NPost fun a w' => ∃ l', a = Fr 36 l' f ∧ VKeeps cV [] l f l' ∧ w' = w) (Fr 36 l f) w := by
  dsimp only [cc0, ccBody, part, part.sub2', sub1, sub2, Tryz.f17, Option.getD]
  go_wp
  exact NPost.mk ⟨_, rfl, (by repeat first | exact VKeeps.refl _ _ _ _ | refine VKeeps.far (by decide) ?_ | refine VKeeps.set (by decide) ?_), rfl⟩
set_option maxRecDepth 100000 in
theorem cc_p1 (w : World) (l : List (Nat × Value)) (f : Nat → Value) : cc1.wp Tryz.prog (NPost fun a w' => ∃ l', a = Fr 36 ((3, .int .i64 ((0 : Nat) : Int)) :: l') f ∧ VKeeps cV [] l f l' ∧ w' = w) (Fr 36 l f) w := by
  dsimp only [cc1, ccBody, part, part.sub2', sub1, sub2, Tryz.f17, Option.getD]
  go_wp
  exact NPost.mk ⟨_, rfl, (by repeat first | exact VKeeps.refl _ _ _ _ | refine VKeeps.far (by decide) ?_ | refine VKeeps.set (by decide) ?_), rfl⟩
set_option maxRecDepth 100000 in
theorem cc_p2 (w : World) (l : List (Nat × Value)) (f : Nat → Value) (A : Option Addr) (n c : Nat) (hx : lk l f 0 = .slice A n c) : cc2.wp Tryz.prog (NPost fun a w' => ∃ l', a = Fr 36 l' f ∧ VKeeps cV [9, 10, 11] l f l' ∧ lk l' f 9 = .slice A n c ∧ lk l' f 10 = .int .i64 (n : Int) ∧ lk l' f 11 = .int .i64 ((0 : Nat) : Int) ∧ w' = w) (Fr 36 l f) w := by
  dsimp only [cc2, ccBody, part, part.sub2', sub1, sub2, Tryz.f17, Option.getD]
  go_wp
  exact NPost.mk ⟨_, rfl, (by repeat first | exact VKeeps.refl _ _ _ _ | refine VKeeps.far (by decide) ?_ | refine VKeeps.set (by decide) ?_), by simp [lk], by simp [lk], by simp [lk], rfl⟩
set_option maxRecDepth 100000 in
theorem cc_p10 (w : World) (l : List (Nat × Value)) (f : Nat → Value) (A : Option Addr) (n c : Nat) (hx : lk l f 0 = .slice A n c) : cc10.wp Tryz.prog (NPost fun a w' => ∃ l', a = Fr 36 l' f ∧ VKeeps cV [25, 26, 27] l f l' ∧ lk l' f 25 = .slice A n c ∧ lk l' f 26 = .int .i64 (n : Int) ∧ lk l' f 27 = .int .i64 ((0 : Nat) : Int) ∧ w' = w) (Fr 36 l f) w := by
  dsimp only [cc10, ccBody, part, part.sub2', sub1, sub2, Tryz.f17, Option.getD]
  go_wp
  exact NPost.mk ⟨_, rfl, (by repeat first | exact VKeeps.refl _ _ _ _ | refine VKeeps.far (by decide) ?_ | refine VKeeps.set (by decide) ?_), by simp [lk], by simp [lk], by simp [lk], rfl⟩
set_option maxRecDepth 100000 in
theorem cc_p3 (w : World) (l : List (Nat × Value)) (f : Nat → Value) (i n : Nat) (hx : lk l f 11 = .int .i64 (i : Int)) (hy : lk l f 10 = .int .i64 (n : Int)) : cc3.wp Tryz.prog (NPost fun a w' => ∃ l', a = Fr 36 ((12, .bool (decide (i < n))) :: l') f ∧ VKeeps cV [] l f l' ∧ w' = w) (Fr 36 l f) w := by
  dsimp only [cc3, ccBody, part, part.sub2', sub1, sub2, Tryz.f17, Option.getD]
  go_wp
  exact NPost.mk ⟨_, rfl, (by repeat first | exact VKeeps.refl _ _ _ _ | refine VKeeps.far (by decide) ?_ | refine VKeeps.set (by decide) ?_), rfl⟩
set_option maxRecDepth 100000 in
theorem cc_p11 (w : World) (l : List (Nat × Value)) (f : Nat → Value) (i n : Nat) (hx : lk l f 27 = .int .i64 (i : Int)) (hy : lk l f 26 = .int .i64 (n : Int)) : cc11.wp Tryz.prog (NPost fun a w' => ∃ l', a = Fr 36 ((28, .bool (decide (i < n))) :: l') f ∧ VKeeps cV [] l f l' ∧ w' = w) (Fr 36 l f) w := by
  dsimp only [cc11, ccBody, part, part.sub2', sub1, sub2, Tryz.f17, Option.getD]
  go_wp
  exact NPost.mk ⟨_, rfl, (by repeat first | exact VKeeps.refl _ _ _ _ | refine VKeeps.far (by decide) ?_ | refine VKeeps.set (by decide) ?_), rfl⟩
set_option maxRecDepth 100000 in
theorem cc_p8 (w : World) (l : List (Nat × Value)) (f : Nat → Value) (i : Nat) (hx : lk l f 11 = .int .i64 (i : Int)) (hi : i < 9223372036854775807) : cc8.wp Tryz.prog (NPost fun a w' => ∃ l', a = Fr 36 ((11, .int .i64 ((i + 1 : Nat) : Int)) :: l') f ∧ VKeeps cV [] l f l' ∧ w' = w) (Fr 36 l f) w := by
  dsimp only [cc8, ccBody, part, part.sub2', sub1, sub2, Tryz.f17, Option.getD]
  go_wp
  exact NPost.mk ⟨_, rfl, (by repeat first | exact VKeeps.refl _ _ _ _ | refine VKeeps.far (by decide) ?_ | refine VKeeps.set (by decide) ?_), rfl⟩
set_option maxRecDepth 100000 in
theorem cc_p14 (w : World) (l : List (Nat × Value)) (f : Nat → Value) (i : Nat) (hx : lk l f 27 = .int .i64 (i : Int)) (hi : i < 9223372036854775807) : cc14.wp Tryz.prog (NPost fun a w' => ∃ l', a = Fr 36 ((27, .int .i64 ((i + 1 : Nat) : Int)) :: l') f ∧ VKeeps cV [] l f l' ∧ w' = w) (Fr 36 l f) w := by
  dsimp only [cc14, ccBody, part, part.sub2', sub1, sub2, Tryz.f17, Option.getD]
  go_wp
  exact NPost.mk ⟨_, rfl, (by repeat first | exact VKeeps.refl _ _ _ _ | refine VKeeps.far (by decide) ?_ | refine VKeeps.set (by decide) ?_), rfl⟩
set_option maxRecDepth 100000 in
theorem cc_p4 (w : World) (l : List (Nat × Value)) (f : Nat → Value) (b o i n c : Nat) (A : Option Addr) (un uc : Nat) (hx : lk l f 11 = .int .i64 (i : Int)) (hr : lk l f 9 = .slice (some ⟨b, o, none⟩) n c) (hi : i < n) (hc : w.cell? ⟨b, o + i, none⟩ = some (.slice A un uc)) : cc4.wp Tryz.prog (NPost fun a w' => ∃ l', a = Fr 36 ((5, .slice A un uc) :: l') f ∧ VKeeps cV [] l f l' ∧ w' = w) (Fr 36 l f) w := by
  dsimp only [cc4, ccBody, part, part.sub2', sub1, sub2, Tryz.f17, Option.getD]
  go_wp
  exact NPost.mk ⟨_, rfl, (by repeat first | exact VKeeps.refl _ _ _ _ | refine VKeeps.far (by decide) ?_ | refine VKeeps.set (by decide) ?_), rfl⟩
set_option maxRecDepth 100000 in
theorem cc_p12 (w : World) (l : List (Nat × Value)) (f : Nat → Value) (b o i n c : Nat) (A : Option Addr) (un uc : Nat) (hx : lk l f 27 = .int .i64 (i : Int)) (hr : lk l f 25 = .slice (some ⟨b, o, none⟩) n c) (hi : i < n) (hc : w.cell? ⟨b, o + i, none⟩ = some (.slice A un uc)) : cc12.wp Tryz.prog (NPost fun a w' => ∃ l', a = Fr 36 ((8, .slice A un uc) :: l') f ∧ VKeeps cV [] l f l' ∧ w' = w) (Fr 36 l f) w := by
  dsimp only [cc12, ccBody, part, part.sub2', sub1, sub2, Tryz.f17, Option.getD]
  go_wp
  exact NPost.mk ⟨_, rfl, (by repeat first | exact VKeeps.refl _ _ _ _ | refine VKeeps.far (by decide) ?_ | refine VKeeps.set (by decide) ?_), rfl⟩
set_option maxRecDepth 100000 in
theorem cc_p5 (w : World) (l : List (Nat × Value)) (f : Nat → Value) (s n c : Nat) (A : Option Addr) (h3 : lk l f 3 = .int .i64 (s : Int)) (h5 : lk l f 5 = .slice A n c) (hs : s + n < 9223372036854775807) : cc5.wp Tryz.prog (NPost fun a w' => ∃ l', a = Fr 36 ((3, .int .i64 ((s + n : Nat) : Int)) :: l') f ∧ VKeeps cV [] l f l' ∧ w' = w) (Fr 36 l f) w := by
  dsimp only [cc5, ccBody, part, part.sub2', sub1, sub2, Tryz.f17, Option.getD]
  go_wp
  exact NPost.mk ⟨_, rfl, (by repeat first | exact VKeeps.refl _ _ _ _ | refine VKeeps.far (by decide) ?_ | refine VKeeps.set (by decide) ?_), rfl⟩
set_option maxRecDepth 100000 in
theorem cc_p6 (w : World) (l : List (Nat × Value)) (f : Nat → Value) (s : Nat) (h3 : lk l f 3 = .int .i64 (s : Int)) : cc6.wp Tryz.prog (NPost fun a w' => ∃ l', a = Fr 36 ((20, .bool false) :: l') f ∧ VKeeps cV [] l f l' ∧ w' = w) (Fr 36 l f) w := by
  dsimp only [cc6, ccBody, part, part.sub2', sub1, sub2, Tryz.f17, Option.getD]
  have hn : ¬ ((s : Int) < 0) := by omega
  go_wp
  exact NPost.mk ⟨_, rfl, (by repeat first | exact VKeeps.refl _ _ _ _ | refine VKeeps.far (by decide) ?_ | refine VKeeps.set (by decide) ?_), rfl⟩
set_option maxRecDepth 100000 in
theorem cc_p9 (w : World) (l : List (Nat × Value)) (f : Nat → Value) (s : Nat) (h3 : lk l f 3 = .int .i64 (s : Int)) (hs : s < 1099511627776) : cc9.wp Tryz.prog (NPost fun a w' => ∃ l' A c, a = Fr 36 ((6, .slice A 0 c) :: l') f ∧ VKeeps cV [] l f l' ∧ StrS w.heap.size w' (.slice A 0 c) [] ∧ Below w.heap.size w w') (Fr 36 l f) w := by
  dsimp only [cc9, ccBody, part, part.sub2', sub1, sub2, Tryz.f17, Option.getD]
  have HG := Lib.hid (Grow_any w s hs)
  clear hs
  go_wp
  refine HG.out.mono ?_
  rintro e w1 ⟨A, c, rfl, hS, hb⟩
  have H1 := Lib.hid (And.intro hS hb)
  clear hS hb HG
  dsimp only
  go_wp
  exact NPost.mk ⟨_, A, c, rfl, (by repeat first | exact VKeeps.refl _ _ _ _ | refine VKeeps.far (by decide) ?_ | refine VKeeps.set (by decide) ?_), H1.out.1, H1.out.2⟩
set_option maxRecDepth 100000 in
theorem cc_p13 (B : Nat) (w : World) (l : List (Nat × Value)) (f : Nat → Value) (r m : List (List UInt8)) (A : Option Addr) (c b o c' : Nat) (h6 : lk l f 6 = .slice A r.length c) (h8 : lk l f 8 = .slice (some ⟨b, o, none⟩) m.length c') (hS : StrS B w (.slice A r.length c) r) (hB : B ≤ w.heap.size)
    (hm : ∀ (j : Nat) (x : List UInt8), m[j]? = some x → w.cell? ⟨b, o + j, none⟩ = some (strV x)) (hlen : r.length + m.length < 1000000000) :
    cc13.wp Tryz.prog (NPost fun a w' => ∃ l' A' c', a = Fr 36 ((6, .slice A' (r ++ m).length c') :: l') f ∧ VKeeps cV [] l f l' ∧ StrS B w' (.slice A' (r ++ m).length c') (r ++ m) ∧ Below B w w') (Fr 36 l f) w := by
  dsimp only [cc13, ccBody, part, part.sub2', sub1, sub2, Tryz.f17, Option.getD]
  obtain ⟨v', w', hrun, g1, g2, g3⟩ := append_strs w B 36 _ r hS b o c' m hm (by omega) hB
  obtain ⟨A3, c3, hv3, _⟩ := g1.form
  have hO : Only (fun q => (Value.slice A r.length c).ownBlock = some q) w w' := (Only.refl (fun q => (Value.slice A r.length c).ownBlock = some q) _).grown g2 (fun q hq _ => hq)
  have hb : Below B w w' := hO.below hB (fun q hq => (own_lt hS hq).1)
  rw [hv3] at hrun g1
  have H1 := Lib.hid (And.intro g1 hb)
  clear g1 g2 g3 hO hb hm hlen hB hS hv3
  refine region_split 2 ?_
  simp only [List.take_succ_cons, List.take_zero, List.drop_succ_cons, List.drop_zero]
  go_wp
  refine Stop.mk (wl_append _ _ _ rfl rfl (by rw [Fr_eval _ _ _ _ rfl]; simp only [lk]; rfl) (by rw [Fr_eval _ _ _ _ rfl]; simp only [lk]; rfl) hrun ?_)
  rw [Fr_put]
  clear hrun
  generalize (r ++ m).length = k at H1 ⊢
  go_wp
  exact NPost.mk ⟨_, _, _, rfl, (by repeat first | exact VKeeps.refl _ _ _ _ | refine VKeeps.far (by decide) ?_ | refine VKeeps.set (by decide) ?_), H1.out.1, H1.out.2⟩
set_option maxRecDepth 100000 in
theorem cc_p15 (w : World) (l : List (Nat × Value)) (f : Nat → Value) (A : Option Addr) (n c : Nat) (h6 : lk l f 6 = .slice A n c) : cc15.wp Tryz.prog (NPost fun a w' => ∃ l', a = Fr 36 ((2, .slice A n c) :: l') f ∧ w' = w) (Fr 36 l f) w := by
  dsimp only [cc15, ccBody, part, part.sub2', sub1, sub2, Tryz.f17, Option.getD]
  go_wp
  exact NPost.mk ⟨_, rfl, rfl⟩
theorem flat_step {rows : List (List (List UInt8))} {i : Nat} (h : i < rows.length) : (rows.take (i + 1)).flatten = (rows.take i).flatten ++ rows[i] := by
  rw [← List.take_append_getElem h, List.flatten_append]; simp
theorem flat_le {rows : List (List (List UInt8))} (i : Nat) : ((rows.take i).flatten).length ≤ rows.flatten.length := by
  have : rows.flatten = (rows.take i).flatten ++ (rows.drop i).flatten := by rw [← List.flatten_append, List.take_append_drop]
  rw [this, List.length_append]; omega
/-- slices.Concat: the fields of a table, row after row. -/
theorem Concat_any (w : World) (v : Value) (rows : List (List (List UInt8))) (h : RowsIn w v rows) (hne : ∀ r ∈ rows, r ≠ []) (hlen : rows.flatten.length < 1000000000) :
    Calls Tryz.prog 17 [v].toArray w fun x w' => ∃ A c, x = .returned (.slice A rows.flatten.length c) ∧ StrS w.heap.size w' (.slice A rows.flatten.length c) rows.flatten ∧ Below w.heap.size w w' := by
  obtain ⟨A, c, hvv, hl, _⟩ := id h
  rw [hvv] at h ⊢
  clear hvv
  refine enter 36 Tryz.func17 rfl rfl (by simp) ?_
  show ccBody.wp _ _ _ _
  rw [cc_eq]
  refine seq_part (cc_p0 w _ _) ?_
  rintro x w1 ⟨l1, rfl, K1, rfl⟩
  refine seq_part (cc_p1 w1 l1 _) ?_
  rintro x w2 ⟨l2, rfl, K2, rfl⟩
  have z0 : lk ((3, .int .i64 ((0 : Nat) : Int)) :: l2) (fun _ => undef) 0 = .slice A rows.length c := by rw [lk_ne _ _ _ _ _ rfl, K2 0 rfl rfl, K1 0 rfl rfl]; rfl
  have z3 : lk ((3, .int .i64 ((0 : Nat) : Int)) :: l2) (fun _ => undef) 3 = .int .i64 ((0 : Nat) : Int) := by simp only [lk, if_true]
  revert z0 z3
  generalize ((3, Value.int .i64 ((0 : Nat) : Int)) :: l2) = l3
  intro z0 z3
  refine seq_part (R := fun a w' => ∃ l', a = Fr 36 l' (fun _ => undef) ∧ lk l' (fun _ => undef) 0 = .slice A rows.length c ∧ lk l' (fun _ => undef) 3 = .int .i64 (rows.flatten.length : Int) ∧ w' = w2) (seq_part (cc_p2 w2 l3 _ A rows.length c z0) ?_) ?_
  · rintro x w3 ⟨l4, rfl, K4, k9, k10, k11, rfl⟩
    unfold ccSum
    refine wp_block ?_
    refine wp_loop_n (fun k a w' => ∃ l', a = Fr 36 l' (fun _ => undef) ∧ lk l' (fun _ => undef) 0 = .slice A rows.length c ∧ lk l' (fun _ => undef) 9 = .slice A rows.length c ∧ lk l' (fun _ => undef) 10 = .int .i64 (rows.length : Int) ∧ lk l' (fun _ => undef) 11 = .int .i64 ((rows.length - k : Nat) : Int) ∧ lk l' (fun _ => undef) 3 = .int .i64 (((rows.take (rows.length - k)).flatten.length : Nat) : Int) ∧ k ≤ rows.length ∧ w' = w3) rows.length ⟨l4, rfl, (K4 0 rfl rfl).trans z0, k9, k10, by rw [Nat.sub_self]; exact k11, by rw [Nat.sub_self]; exact (K4 3 rfl rfl).trans z3, Nat.le_refl _, rfl⟩ ?_
    rintro k a w4 ⟨l5, rfl, g0, g9, g10, g11, g3, hk, rfl⟩
    refine seq_part (cc_p3 w4 l5 _ (rows.length - k) rows.length g11 g10) ?_
    rintro x w5 ⟨l6, rfl, K6, rfl⟩
    have q : ∀ k', cV.contains k' = true → lk ((12, .bool (decide (rows.length - k < rows.length))) :: l6) (fun _ => undef) k' = lk l5 (fun _ => undef) k' := fun k' hk' => by
      rw [lk_ne _ _ _ _ _ (by simp only [beq_eq_false_iff_ne, ne_eq]; intro e; subst e; cases hk'), K6 k' hk' rfl]
    have q12 : lk ((12, .bool (decide (rows.length - k < rows.length))) :: l6) (fun _ => undef) 12 = .bool (decide (rows.length - k < rows.length)) := by simp [lk]
    have q0 := (q 0 rfl).trans g0
    have q9 := (q 9 rfl).trans g9
    have q10 := (q 10 rfl).trans g10
    have q11 := (q 11 rfl).trans g11
    have q3 := (q 3 rfl).trans g3
    clear q
    revert q12 q0 q9 q10 q11 q3
    generalize (12, Value.bool (decide (rows.length - k < rows.length))) :: l6 = l7
    intro q12 q0 q9 q10 q11 q3
    by_cases hlt : rows.length - k < rows.length
    · rw [decide_eq_true hlt] at q12
      refine seq_part (R := fun a w => a = Fr 36 l7 (fun _ => undef) ∧ w = w5) (wp_if_true rfl q12 (wp_skip (NPost.mk ⟨rfl, rfl⟩))) ?_
      rintro a w6 ⟨rfl, rfl⟩
      obtain ⟨rb, ro, rc, u, A', uc, hv', hcell, hstr, hu, hrb⟩ := h.at hlt
      injection hv' with e1 _ e2
      subst e1 e2 hu
      have hfl := flat_le (rows := rows) (rows.length - k + 1)
      rw [flat_step hlt, List.length_append] at hfl
      refine seq_part (R := fun a w' => ∃ l', a = Fr 36 l' (fun _ => undef) ∧ lk l' (fun _ => undef) 0 = .slice (some ⟨rb, ro, none⟩) rows.length c ∧ lk l' (fun _ => undef) 9 = .slice (some ⟨rb, ro, none⟩) rows.length c ∧ lk l' (fun _ => undef) 10 = .int .i64 (rows.length : Int) ∧ lk l' (fun _ => undef) 11 = .int .i64 ((rows.length - k : Nat) : Int) ∧ lk l' (fun _ => undef) 3 = .int .i64 (((rows.take (rows.length - k)).flatten.length + rows[rows.length - k].length : Nat) : Int) ∧ w' = w6) (block_part (seq_part (cc_p4 w6 l7 _ rb ro (rows.length - k) rows.length c A' _ uc q11 q9 hlt hcell) ?_)) ?_
      · rintro x w7 ⟨l8, rfl, K8, rfl⟩
        refine seq_part (cc_p5 w7 _ _ (rows.take (rows.length - k)).flatten.length rows[rows.length - k].length uc A' (by rw [lk_ne _ _ _ _ _ rfl, K8 3 rfl rfl, q3]) (by simp only [lk, if_true]) (by omega)) ?_
        rintro x w8 ⟨l9, rfl, K9, rfl⟩
        refine seq_part (cc_p6 w8 _ _ ((rows.take (rows.length - k)).flatten.length + rows[rows.length - k].length) (by simp only [lk, if_true])) ?_
        rintro x w9 ⟨l10, rfl, K10, rfl⟩
        refine wp_if_false rfl (by simp [lk]) (wp_skip (NPost.mk ⟨_, rfl, ?_, ?_, ?_, ?_, ?_, rfl⟩))
        · rw [lk_ne _ _ _ _ _ rfl, K10 0 rfl rfl, lk_ne _ _ _ _ _ rfl, K9 0 rfl rfl, lk_ne _ _ _ _ _ rfl, K8 0 rfl rfl, q0]
        · rw [lk_ne _ _ _ _ _ rfl, K10 9 rfl rfl, lk_ne _ _ _ _ _ rfl, K9 9 rfl rfl, lk_ne _ _ _ _ _ rfl, K8 9 rfl rfl, q9]
        · rw [lk_ne _ _ _ _ _ rfl, K10 10 rfl rfl, lk_ne _ _ _ _ _ rfl, K9 10 rfl rfl, lk_ne _ _ _ _ _ rfl, K8 10 rfl rfl, q10]
        · rw [lk_ne _ _ _ _ _ rfl, K10 11 rfl rfl, lk_ne _ _ _ _ _ rfl, K9 11 rfl rfl, lk_ne _ _ _ _ _ rfl, K8 11 rfl rfl, q11]
        · rw [lk_ne _ _ _ _ _ rfl, K10 3 rfl rfl]; simp only [lk, if_true]
      · rintro x w7 ⟨l8, rfl, p0, p9, p10, p11, p3, rfl⟩
        refine last_part (cc_p8 w7 l8 _ (rows.length - k) p11 (by omega)) ?_
        rintro x w8 ⟨l9, rfl, K9, rfl⟩
        have e5 := sub_pred hlt hk
        refine ⟨k - 1, pred_lt hlt, _, rfl, ?_, ?_, ?_, ?_, ?_, pred_le hk, rfl⟩
        · rw [lk_ne _ _ _ _ _ rfl, K9 0 rfl rfl, p0]
        · rw [lk_ne _ _ _ _ _ rfl, K9 9 rfl rfl, p9]
        · rw [lk_ne _ _ _ _ _ rfl, K9 10 rfl rfl, p10]
        · rw [e5]; simp only [lk, if_true]
        · rw [e5, flat_step hlt, List.length_append, lk_ne _ _ _ _ _ rfl, K9 3 rfl rfl, p3]
    · rw [decide_eq_false hlt] at q12
      have e5 := sub_same hlt
      rw [e5, List.take_length] at q3
      refine wp_seq (wp_if_false rfl q12 (wp_exit ?_))
      simp only [Exit.then, Exit.inBlock, if_true]
      exact NPost.mk ⟨l7, rfl, q0, q3, rfl⟩
  rintro x w3 ⟨l4, rfl, y0, y3, rfl⟩
  refine seq_part (cc_p9 w3 l4 _ rows.flatten.length y3 (by omega)) ?_
  rintro x w4 ⟨l5, A5, c5, rfl, K5, hS5, hb5⟩
  refine seq_part (R := fun a w' => ∃ l' A' c', a = Fr 36 l' (fun _ => undef) ∧ lk l' (fun _ => undef) 6 = .slice A' rows.flatten.length c' ∧ StrS w3.heap.size w' (.slice A' rows.flatten.length c') rows.flatten ∧ Below w3.heap.size w3 w') (seq_part (cc_p10 w4 _ _ A rows.length c (by rw [lk_ne _ _ _ _ _ rfl, K5 0 rfl rfl, y0])) ?_) ?_
  · rintro x w5 ⟨l6, rfl, K6, k25, k26, k27, rfl⟩
    have k6 : lk l6 (fun _ => undef) 6 = .slice A5 0 c5 := by rw [K6 6 rfl rfl]; simp only [lk, if_true]
    unfold ccApp
    refine wp_block ?_
    refine wp_loop_n (fun k a w' => ∃ l' A' c', a = Fr 36 l' (fun _ => undef) ∧ lk l' (fun _ => undef) 25 = .slice A rows.length c ∧ lk l' (fun _ => undef) 26 = .int .i64 (rows.length : Int) ∧ lk l' (fun _ => undef) 27 = .int .i64 ((rows.length - k : Nat) : Int) ∧ lk l' (fun _ => undef) 6 = .slice A' (rows.take (rows.length - k)).flatten.length c' ∧ StrS w3.heap.size w' (.slice A' (rows.take (rows.length - k)).flatten.length c') (rows.take (rows.length - k)).flatten ∧ k ≤ rows.length ∧ Below w3.heap.size w3 w') rows.length ⟨l6, A5, c5, rfl, k25, k26, by rw [Nat.sub_self]; exact k27, by rw [Nat.sub_self]; exact k6, by rw [Nat.sub_self]; exact hS5, Nat.le_refl _, hb5⟩ ?_
    rintro k a w6 ⟨l7, A7, c7, rfl, g25, g26, g27, g6, hS7, hk, hb7⟩
    refine seq_part (cc_p11 w6 l7 _ (rows.length - k) rows.length g27 g26) ?_
    rintro x w7 ⟨l8, rfl, K8, rfl⟩
    have q : ∀ k', cV.contains k' = true → lk ((28, .bool (decide (rows.length - k < rows.length))) :: l8) (fun _ => undef) k' = lk l7 (fun _ => undef) k' := fun k' hk' => by
      rw [lk_ne _ _ _ _ _ (by simp only [beq_eq_false_iff_ne, ne_eq]; intro e; subst e; cases hk'), K8 k' hk' rfl]
    have q28 : lk ((28, .bool (decide (rows.length - k < rows.length))) :: l8) (fun _ => undef) 28 = .bool (decide (rows.length - k < rows.length)) := by simp [lk]
    have q25 := (q 25 rfl).trans g25
    have q26 := (q 26 rfl).trans g26
    have q27 := (q 27 rfl).trans g27
    have q6 := (q 6 rfl).trans g6
    clear q
    revert q28 q25 q26 q27 q6
    generalize (28, Value.bool (decide (rows.length - k < rows.length))) :: l8 = l9
    intro q28 q25 q26 q27 q6
    by_cases hlt : rows.length - k < rows.length
    · rw [decide_eq_true hlt] at q28
      refine seq_part (R := fun a w => a = Fr 36 l9 (fun _ => undef) ∧ w = w7) (wp_if_true rfl q28 (wp_skip (NPost.mk ⟨rfl, rfl⟩))) ?_
      rintro a w8 ⟨rfl, rfl⟩
      obtain ⟨rb, ro, rc, u, A', uc, hv', hcell, hstr, hu, hrb⟩ := (h.next hb7).at hlt
      injection hv' with e1 _ e2
      subst e1 e2 hu
      have hfl := flat_le (rows := rows) (rows.length - k + 1)
      rw [flat_step hlt, List.length_append] at hfl
      obtain ⟨A8, c8, e8, _, hx8⟩ := hstr
      obtain ⟨ub, uo, hA8, hub, hcell8⟩ := hx8 (List.length_pos_iff.2 (hne _ (List.getElem_mem _)))
      injection e8 with e8 _ _
      subst e8 hA8
      refine seq_part (R := fun a w' => ∃ l' A' c', a = Fr 36 l' (fun _ => undef) ∧ lk l' (fun _ => undef) 25 = .slice (some ⟨rb, ro, none⟩) rows.length c ∧ lk l' (fun _ => undef) 26 = .int .i64 (rows.length : Int) ∧ lk l' (fun _ => undef) 27 = .int .i64 ((rows.length - k : Nat) : Int) ∧ lk l' (fun _ => undef) 6 = .slice A' ((rows.take (rows.length - k)).flatten ++ rows[rows.length - k]).length c' ∧ StrS w3.heap.size w' (.slice A' ((rows.take (rows.length - k)).flatten ++ rows[rows.length - k]).length c') ((rows.take (rows.length - k)).flatten ++ rows[rows.length - k]) ∧ Below w3.heap.size w8 w') (block_part (seq_part (cc_p12 w8 l9 _ rb ro (rows.length - k) rows.length c _ _ uc q27 q25 hlt hcell) ?_)) ?_
      · rintro x w9 ⟨l10, rfl, K10, rfl⟩
        refine last_part (cc_p13 w3.heap.size w9 _ _ (rows.take (rows.length - k)).flatten rows[rows.length - k] A7 c7 ub uo uc (by rw [lk_ne _ _ _ _ _ rfl, K10 6 rfl rfl, q6]) (by simp only [lk, if_true]) hS7 hb7.size hcell8 (by omega)) ?_
        rintro x w10 ⟨l11, A11, c11, rfl, K11, hS11, hb11⟩
        refine NPost.mk ⟨_, A11, c11, rfl, ?_, ?_, ?_, ?_, hS11, hb11⟩
        · rw [lk_ne _ _ _ _ _ rfl, K11 25 rfl rfl, lk_ne _ _ _ _ _ rfl, K10 25 rfl rfl, q25]
        · rw [lk_ne _ _ _ _ _ rfl, K11 26 rfl rfl, lk_ne _ _ _ _ _ rfl, K10 26 rfl rfl, q26]
        · rw [lk_ne _ _ _ _ _ rfl, K11 27 rfl rfl, lk_ne _ _ _ _ _ rfl, K10 27 rfl rfl, q27]
        · simp only [lk, if_true]
      · rintro x w9 ⟨l10, A10, c10, rfl, p25, p26, p27, p6, hS10, hb10⟩
        refine last_part (cc_p14 w9 l10 _ (rows.length - k) p27 (by omega)) ?_
        rintro x w10 ⟨l11, rfl, K11, rfl⟩
        have e5 := sub_pred hlt hk
        refine ⟨k - 1, pred_lt hlt, _, A10, c10, rfl, ?_, ?_, ?_, ?_, ?_, pred_le hk, hb7.trans hb10⟩
        · rw [lk_ne _ _ _ _ _ rfl, K11 25 rfl rfl, p25]
        · rw [lk_ne _ _ _ _ _ rfl, K11 26 rfl rfl, p26]
        · rw [e5]; simp only [lk, if_true]
        · rw [e5, flat_step hlt, lk_ne _ _ _ _ _ rfl, K11 6 rfl rfl, p6]
        · rw [e5, flat_step hlt]; exact hS10
    · rw [decide_eq_false hlt] at q28
      have e5 := sub_same hlt
      rw [e5, List.take_length] at q6 hS7
      refine wp_seq (wp_if_false rfl q28 (wp_exit ?_))
      simp only [Exit.then, Exit.inBlock, if_true]
      exact NPost.mk ⟨l9, A7, c7, rfl, q6, hS7, hb7⟩
  rintro x w5 ⟨l6, A6, c6, rfl, y6, hS6, hb6⟩
  refine seq_part (cc_p15 w5 l6 _ A6 rows.flatten.length c6 y6) ?_
  rintro x w6 ⟨l7, rfl, rfl⟩
  exact wp_ret (ret1 rfl rfl ⟨A6, c6, by simp only [lk, if_true], hS6, hb6⟩)
end Go.Proofs.YtfadgnopfjajbaaGreatDoor
namespace Go.Proofs
open Go.Shelf
theorem Tryz.extraJoin : Builder.Extra Tryz.prog Tryz.laysJoin_ren := {
  sizeBuilder := by kernel_rfl
  liesBuilder := by kernel_rfl
  t5 := Tryz.underlying5
  a5 := Tryz.isAgg5
  z5 := Tryz.sizeOf5
  v5 := Tryz.zeroValue5
  infoByte := by kernel_rfl
  cellsByte := by kernel_rfl
  sizeByte := by kernel_rfl
  neB5 := by decide }
end Go.Proofs
namespace Go.Proofs.YtfadgnopfjajbaaGreatDoor
open Go.RowKit
def bytesOf (s : List UInt8) : ByteArray := ⟨s.toArray⟩
theorem map_bytesOf (xs : List (List UInt8)) : (xs.map bytesOf).map (·.data.toList) = xs := by
  induction xs with
  | nil => rfl
  | cons x t ih => rw [List.map_cons, List.map_cons, ih]; simp [bytesOf]
theorem join_flat (xs : List (List UInt8)) : Lib.join xs [] = xs.flatten := by
  cases xs with
  | nil => rfl
  | cons x r => rw [Lib.join_cons]; simp [Lib.joinTail]
theorem contains_one (s : List UInt8) (c : UInt8) : Lib.contains s [c] = s.contains c := by
  unfold Lib.contains
  rw [Lib.index_one, Lib.contains_iff_indexByte]
/-- strings.Join with no separator. -/
theorem Join_any (B : Nat) (w : World) (v : Value) (xs : List (List UInt8)) (h : StrS B w v xs) (hne : xs ≠ []) (hn : xs.length ≤ 140737488355328) (hlen : xs.flatten.length ≤ 140737488355328) :
    Calls Tryz.prog 16 #[v, .string ⟨#[]⟩] w fun e w' => e = .returned (.string ⟨xs.flatten.toArray⟩) ∧ Below w.heap.size w w' := by
  obtain ⟨A, c, hv, hc, _, hA, hS⟩ := id h.form
  cases A with
  | none => exact absurd (hA rfl).1 hne
  | some a =>
    obtain ⟨g, rfl, _, hg⟩ := hS a rfl
    subst hv
    have hl : (xs.map bytesOf).length = xs.length := List.length_map ..
    have key := Any.strings_Join Tryz.laysJoin Tryz.extraJoin g 0 c (xs.map bytesOf) ⟨#[]⟩ w (fun j x hj => by
      rw [List.getElem?_map] at hj
      cases hx : xs[j]? with
      | none => rw [hx] at hj; cases hj
      | some y =>
        rw [hx] at hj
        injection hj with hj
        subst hj
        rw [Nat.zero_add]
        exact (h.cell j y hx).2) hg (by omega) (by omega) (by rw [map_bytesOf]; show (Lib.join xs []).length ≤ _; rw [join_flat]; exact hlen)
    rw [map_bytesOf, hl] at key
    have e : Lib.join xs (⟨#[]⟩ : ByteArray).data.toList = xs.flatten := join_flat xs
    rw [e] at key
    exact key
theorem Count_any (w : World) (s : List UInt8) : Calls Tryz.prog 24 #[.string ⟨s.toArray⟩, .string ⟨#[10]⟩] w fun e w' => e = .returned (.int .i64 ((s.count 10 : Nat) : Int)) ∧ w' = w := by
  have key := Any.strings_Count_one Tryz.laysCount ⟨s.toArray⟩ 10 w
  exact key
/-- slices.Clone of strings. -/
theorem Clone_any (w : World) (v : Value) (fs : List (List UInt8)) (h : StrIn w v fs) (hlen : fs.length < 1000000000) : Calls Tryz.prog 18 #[v] w fun e w' => ∃ A c, e = .returned (.slice A fs.length c) ∧ StrS w.heap.size w' (.slice A fs.length c) fs ∧ Below w.heap.size w w' := by
  obtain ⟨A, c, rfl, _, hx⟩ := h
  have fin : ∀ (e : Ending) (w' : World), (∃ v', e = .returned v' ∧ w'.ownsRow w.heap.size 9 1 v' fs.length (fs.map strV) ∧ Below w.heap.size w w') → ∃ A c, e = .returned (.slice A fs.length c) ∧ StrS w.heap.size w' (.slice A fs.length c) fs ∧ Below w.heap.size w w' := by
    rintro e w' ⟨v', rfl, ho, hb⟩
    have hS : StrS w.heap.size w' v' fs := ho
    obtain ⟨A, c, rfl, _⟩ := hS.form
    exact ⟨A, c, rfl, hS, hb⟩
  by_cases h0 : fs = []
  · subst h0
    cases A with
    | none =>
      refine (Any.slices_Clone_string_nil Tryz.laysCloneStr 0 c w).mono ?_
      rintro e w' ⟨rfl, rfl⟩
      exact fin _ _ ⟨_, rfl, StrS.nil _ _, Below.refl _ _⟩
    | some a =>
      refine (Any.slices_Clone_string_zero Tryz.laysCloneStr a c w).mono ?_
      rintro e w' ⟨v', rfl, ho, _, hb⟩
      exact fin _ _ ⟨v', rfl, ho, hb⟩
  · obtain ⟨b, o, rfl, hb, hcell⟩ := hx (List.length_pos_iff.2 h0)
    have hl : (fs.map bytesOf).length = fs.length := List.length_map ..
    refine (Any.slices_Clone_string Tryz.laysCloneStr b o fs.length c (fs.map bytesOf) w (by omega) (by omega) (fun j hj => ?_)).mono ?_
    · rw [hl] at hj
      have := hcell j _ (List.getElem?_eq_getElem hj)
      rw [this]
      simp [List.getD, strV, bytesOf, hj]
    · rintro e w' ⟨v', rfl, ho, _, hb⟩
      refine fin _ _ ⟨v', rfl, ?_, hb⟩
      have e1 : ((fs.map bytesOf).take fs.length).map Value.string = fs.map strV := by
        rw [List.take_of_length_le (by omega), List.map_map]
        rfl
      rw [e1] at ho
      exact ho
/-- append(append(Clone(before), field)) onto a concatenation. -/
theorem all_appends (w0 w1 w2 : World) (u1 u2 : Value) (fl bf : List (List UInt8)) (field : List UInt8) (h1 : StrS w0.heap.size w1 u1 fl) (hb1 : Below w0.heap.size w0 w1) (h2 : StrS w1.heap.size w2 u2 bf) (hb2 : Below w1.heap.size w1 w2) (hlen : fl.length + bf.length < 1000000000) :
    ∃ A3 c3 w4 A4 c4 w5, (Builtin.append_ #[36, 36] 36 #[u2, .slice (some ⟨w2.heap.size, 0, none⟩) 1 1]).run Tryz.prog (w2.alloc (.cells #[.string ⟨field.toArray⟩] 9)) = .ok (.slice A3 (bf.length + 1) c3) w4 ∧
      (Builtin.append_ #[36, 36] 36 #[u1, .slice A3 (bf.length + 1) c3]).run Tryz.prog w4 = .ok (.slice A4 (fl.length + (bf.length + 1)) c4) w5 ∧
      StrS w0.heap.size w5 (.slice A4 (fl.length + (bf.length + 1)) c4) (fl ++ (bf ++ [field])) ∧ Below w0.heap.size w0 w5 := by
  have hb3 : Below w2.heap.size w2 (w2.alloc (.cells #[.string ⟨field.toArray⟩] 9)) := (Below.refl _ w2).alloc (Nat.le_refl _) _
  have hcl := (Blk.new_arr w2 9 #[.string ⟨field.toArray⟩]).cell 0
  have h2' : StrS w1.heap.size (w2.alloc (.cells #[.string ⟨field.toArray⟩] 9)) u2 bf := h2.below hb3 (fun k hk => (own_lt h2 hk).2)
  have hs3 := hb3.size
  have hs2 := hb2.size
  have hs1 := hb1.size
  revert hb3 hcl h2' hs3
  generalize w2.alloc (.cells #[.string ⟨field.toArray⟩] 9) = w3
  intro hb3 hcl h2' hs3
  obtain ⟨v3, w4, hr3, g1, g2, g3⟩ := append_strs w3 w1.heap.size 36 u2 bf h2' w2.heap.size 0 1 [field] (fun j x hj => by
    rcases j with _ | j
    · simp at hj; subst hj; exact hcl
    · simp at hj) (by simp; omega) (by omega)
  have hO4 : Only (fun q => u2.ownBlock = some q) w3 w4 := (Only.refl (fun q => u2.ownBlock = some q) _).grown g2 (fun q hq _ => hq)
  have hb4 : Below w1.heap.size w3 w4 := hO4.below (by omega) (fun q hq => (own_lt h2' hq).1)
  have hb14 : Below w1.heap.size w1 w4 := (hb2.trans (hb3.mono hs2)).trans hb4
  obtain ⟨A3, c3, hv3, hc3, _, hA3, hS3⟩ := g1.form
  have h1' : StrS w0.heap.size w4 u1 fl := h1.below hb14 (fun k hk => (own_lt h1 hk).2)
  have hs4 := hb14.size
  cases A3 with
  | none => exact absurd (hA3 rfl).1 (by simp)
  | some a =>
    obtain ⟨g, rfl, _, hg⟩ := hS3 a rfl
    subst hv3
    have hl3 : (bf ++ [field]).length = bf.length + 1 := by simp
    obtain ⟨v4, w5, hr4, k1, k2, _⟩ := append_strs w4 w0.heap.size 36 u1 fl h1' g 0 c3 (bf ++ [field]) (fun j x hj => by rw [Nat.zero_add]; exact (g1.cell j x hj).2) (by rw [hl3]; omega) (by omega)
    have hO5 : Only (fun q => u1.ownBlock = some q) w4 w5 := (Only.refl (fun q => u1.ownBlock = some q) _).grown k2 (fun q hq _ => hq)
    have hb5 : Below w0.heap.size w4 w5 := hO5.below (by omega) (fun q hq => (own_lt h1' hq).1)
    obtain ⟨A4, c4, hv4, _⟩ := k1.form
    have hl4 : (fl ++ (bf ++ [field])).length = fl.length + (bf.length + 1) := by simp
    subst hv4
    rw [hl4] at hr4 k1
    rw [hl3] at hr3 hr4
    exact ⟨_, c3, w4, A4, c4, w5, hr3, hr4, k1, (hb1.trans (hb14.mono hs1)).trans hb5⟩
end Go.Proofs.YtfadgnopfjajbaaGreatDoor
namespace Go.Proofs.YtfadgnopfjajbaaGreatDoor
open Go.RowKit
noncomputable def wqBody : Code := (Tryz.f5.body).getD .skip
noncomputable def wq0 : Code := part [false] wqBody
noncomputable def wq1 : Code := part [true, false, false] wqBody
noncomputable def wq2 : Code := part [true, false, true, false, false] wqBody
noncomputable def wq3 : Code := part [true, true, false] wqBody
noncomputable def wq4 : Code := part [true, true, true, false] wqBody
noncomputable def wq5 : Code := part [true, true, true, true, false, false] wqBody
noncomputable def wq6 : Code := part [true, true, true, true, false, true, false, false] wqBody
noncomputable def wq7 : Code := part [true, true, true, true, true, false] wqBody
noncomputable def wq8 : Code := part [true, true, true, true, true, true, false] wqBody
noncomputable def wq9 : Code := part [true, true, true, true, true, true, true, false] wqBody
noncomputable def wq10 : Code := part [true, true, true, true, true, true, true, true, false, false] wqBody
noncomputable def wq11 : Code := part [true, true, true, true, true, true, true, true, false, true, false] wqBody
noncomputable def wq12 : Code := part [true, true, true, true, true, true, true, true, true, false, false] wqBody
noncomputable def wq13 : Code := part [true, true, true, true, true, true, true, true, true, false, true, false, false, false, false] wqBody
noncomputable def wq15 : Code := part [true, true, true, true, true, true, true, true, true, false, true, false, false, true, false, false] wqBody
noncomputable def wq14 : Code := part [true, true, true, true, true, true, true, true, true, false, true, false, false, true, true] wqBody
noncomputable def wq16 : Code := part [true, true, true, true, true, true, true, true, true, true, false] wqBody
noncomputable def wq17 : Code := part [true, true, true, true, true, true, true, true, true, true, true, false, false] wqBody
noncomputable def wq18 : Code := part [true, true, true, true, true, true, true, true, true, true, true, false, true, false, false] wqBody
noncomputable def wq19 : Code := part [true, true, true, true, true, true, true, true, true, true, true, true, false] wqBody
noncomputable def wq20 : Code := part [true, true, true, true, true, true, true, true, true, true, true, true, true, false] wqBody
noncomputable def wqLoop : Code := Code.block 0 (.loop (.seq (.seq wq13 (.cond (.tmp 81) .skip (.exit 0))) (.seq (.block 1 wq15) wq14)))
set_option maxRecDepth 100000 in
theorem wq_eq : wqBody = Code.seq wq0 (.seq (.seq wq1 (.cond (.tmp 25) (.seq wq2 .ret) .skip)) (.seq wq3 (.seq wq4 (.seq (.seq wq5 (.cond (.tmp 58) (.seq wq6 .ret) .skip)) (.seq wq7 (.seq wq8 (.seq wq9 (.seq (.seq wq10 (.cond (.tmp 71) wq11 .skip)) (.seq (.seq wq12 wqLoop) (.seq wq16 (.seq (.seq wq17 (.cond (.tmp 110) (.seq wq18 .ret) .skip)) (.seq wq19 (.seq wq20 .ret))))))))))))) := by kernel_rfl
theorem field_comma1 (comma comment expect : Int) (lz tr : Bool) : ∀ w, (Instr.field 42 (.agg #[.int .i32 comma, .int .i32 comment, .int .i64 expect, .bool lz, .bool tr]) 0).run Tryz.prog w = .ok (.int .i32 comma) w := fun w => by kernel_rfl
abbrev wV : List Nat := [0, 1, 2, 3, 9, 11, 12, 13, 14, 15, 16, 17]
set_option maxRecDepth 100000 in
theorem wq_p0 (w : World) (l : List (Nat × Value)) (f : Nat → Value) (comma comment expect : Int) (lz tr re : Bool) (h4 : lk l f 4 = .agg (optCells comma comment expect lz tr re).toArray) :
    wq0.wp Tryz.prog (NPost fun a w' => ∃ l', a = Fr 135 l' f ∧ VKeeps wV [9] l f l' ∧ lk l' f 9 = .pointer (some ⟨w.heap.size, 0, none⟩) ∧ Below w.heap.size w w' ∧ Blk w' w.heap.size 26 (optCells comma comment expect lz tr re)) (Fr 135 l f) w := by
  dsimp only [wq0, wqBody, part, part.sub2', sub1, sub2, Tryz.f5, Option.getD]
  dsimp only [optCells] at h4
  go_wp
  exact NPost.mk ⟨_, rfl, (by repeat first | exact VKeeps.refl _ _ _ _ | refine VKeeps.far (by decide) ?_ | refine VKeeps.set (by decide) ?_), by simp [lk], (Below.refl _ w).alloc (Nat.le_refl _) _, Blk.new_arr w _ _⟩
set_option maxRecDepth 100000 in
set_option maxHeartbeats 1000000 in
theorem wq_p1 (w : World) (l : List (Nat × Value)) (f : Nat → Value) (ob n c : Nat) (A : Option Addr) (rows : List (List (List UInt8))) (comma comment expect : Int) (lz tr re : Bool) (comma' : Int) (hcm : (if comma = 0 then 44 else comma) = comma') (h0 : lk l f 0 = .slice A n c) (h9 : lk l f 9 = .pointer (some ⟨ob, 0, none⟩)) (hob : Blk w ob 26 (optCells comma comment expect lz tr re)) (hm : MaxAt w) (hrows : RowsIn w (.slice A n c) rows) :
    wq1.wp Tryz.prog (NPost fun a w' => ∃ l' b, a = Fr 135 ((25, .bool b) :: l') f ∧ VKeeps wV [] l f l' ∧ (b = false → LegalO comma' comment ∧ ∀ r ∈ rows, r ≠ []) ∧ Below w.heap.size w w') (Fr 135 l f) w := by
  dsimp only [wq1, wqBody, part, part.sub2', sub1, sub2, Tryz.f5, Option.getD]
  have hc := hob.cell
  dsimp only [optCells] at hc
  have HL := legal_any w comma comment expect lz tr re hm
  rw [hcm] at HL
  have HL := Lib.hid HL
  have HW := Lib.hid hrows
  clear hob hm hrows hcm
  go_wp
  refine HL.out.mono ?_
  rintro e w1 ⟨b1, rfl, hb1, hbel⟩
  have H1 := Lib.hid (And.intro hb1 hbel)
  clear hb1 hbel hc HL
  dsimp only
  cases b1
  · go_wp
    all_goals first | exact undef_bool (by assumption) | exact NPost.mk ⟨_, _, rfl, (by repeat first | exact VKeeps.refl _ _ _ _ | refine VKeeps.far (by decide) ?_ | refine VKeeps.set (by decide) ?_), (fun h => by simp at h), H1.out.2⟩
  · have HF := Lib.hid (filled_any w1 (.slice A n c) rows (HW.out.next H1.out.2))
    go_wp
    refine HF.out.mono ?_
    rintro e w2 ⟨b2, rfl, hb2, rfl⟩
    have H2 := Lib.hid hb2
    clear hb2 HF
    dsimp only
    cases b2
    · go_wp
      all_goals first | exact undef_bool (by assumption) | exact NPost.mk ⟨_, _, rfl, (by repeat first | exact VKeeps.refl _ _ _ _ | refine VKeeps.far (by decide) ?_ | refine VKeeps.set (by decide) ?_), (fun h => by simp at h), H1.out.2⟩
    · go_wp
      all_goals first | exact undef_bool (by assumption) | exact NPost.mk ⟨_, _, rfl, (by repeat first | exact VKeeps.refl _ _ _ _ | refine VKeeps.far (by decide) ?_ | refine VKeeps.set (by decide) ?_), (fun _ => ⟨H1.out.1 rfl, H2.out rfl⟩), H1.out.2⟩
set_option maxRecDepth 100000 in
theorem wq_p2 (w : World) (l : List (Nat × Value)) (f : Nat → Value) (hawake : Calls Tryz.prog 7 #[] w fun e w' => e = .returned (.bool true) ∧ Below w.heap.size w w') : wq2.wp Tryz.prog (NPost fun a w' => ∃ l', a = Fr 135 ((10, .bool true) :: l') f ∧ Below w.heap.size w w') (Fr 135 l f) w := by
  dsimp only [wq2, wqBody, part, part.sub2', sub1, sub2, Tryz.f5, Option.getD]
  have HA := Lib.hid hawake
  clear hawake
  go_wp
  refine HA.out.mono ?_
  rintro e w1 ⟨rfl, hb1⟩
  have H1 := Lib.hid hb1
  clear hb1 HA
  dsimp only
  go_wp
  exact NPost.mk ⟨_, rfl, H1.out⟩
set_option maxRecDepth 100000 in
theorem wq_p6 (w : World) (l : List (Nat × Value)) (f : Nat → Value) (hawake : Calls Tryz.prog 7 #[] w fun e w' => e = .returned (.bool true) ∧ Below w.heap.size w w') : wq6.wp Tryz.prog (NPost fun a w' => ∃ l', a = Fr 135 ((10, .bool true) :: l') f ∧ Below w.heap.size w w') (Fr 135 l f) w := by
  dsimp only [wq6, wqBody, part, part.sub2', sub1, sub2, Tryz.f5, Option.getD]
  have HA := Lib.hid hawake
  clear hawake
  go_wp
  refine HA.out.mono ?_
  rintro e w1 ⟨rfl, hb1⟩
  have H1 := Lib.hid hb1
  clear hb1 HA
  dsimp only
  go_wp
  exact NPost.mk ⟨_, rfl, H1.out⟩
set_option maxRecDepth 100000 in
set_option maxHeartbeats 1000000 in
theorem wq_p3 (w : World) (l : List (Nat × Value)) (f : Nat → Value) (A A1 : Option Addr) (n c n1 c1 : Nat) (field : List UInt8) (rows : List (List (List UInt8))) (bf : List (List UInt8)) (h0 : lk l f 0 = .slice A n c) (h1 : lk l f 1 = .slice A1 n1 c1) (h2 : lk l f 2 = .string ⟨field.toArray⟩) (hrows : RowsIn w (.slice A n c) rows) (hne : ∀ r ∈ rows, r ≠ []) (hbf : StrIn w (.slice A1 n1 c1) bf)
    (T : List UInt8) (hT : (rows.flatten ++ (bf ++ [field])).flatten = T) (hlen : rows.flatten.length + bf.length < 500000000) (hbig : T.length ≤ 140737488355328) :
    wq3.wp Tryz.prog (NPost fun a w' => ∃ l', a = Fr 135 ((11, .string ⟨T.toArray⟩) :: l') f ∧ VKeeps wV [] l f l' ∧ Below w.heap.size w w') (Fr 135 l f) w := by
  dsimp only [wq3, wqBody, part, part.sub2', sub1, sub2, Tryz.f5, Option.getD]
  have HC := Lib.hid (Concat_any w _ rows hrows hne (by omega))
  have H0 := Lib.hid (And.intro hbf (And.intro hlen (And.intro hbig hT)))
  clear hrows hne hbf hlen hbig hT
  refine region_split 6 ?_
  simp only [List.take_succ_cons, List.take_zero, List.drop_succ_cons, List.drop_zero]
  go_wp
  refine HC.out.mono ?_
  rintro e w1 ⟨A2, c2, rfl, hS1, hb1⟩
  have HD := Lib.hid (Clone_any w1 _ bf (H0.out.1.next hb1) (by have := H0.out.2.1; omega))
  have H1 := Lib.hid (And.intro hS1 hb1)
  clear hS1 hb1 HC
  dsimp only
  generalize hk1 : rows.flatten.length = k1 at H1 H0 ⊢
  go_wp
  refine HD.out.mono ?_
  rintro e w2 ⟨A3, c3, rfl, hS2, hb2⟩
  have H2 := Lib.hid (And.intro hS2 hb2)
  clear hS2 hb2 HD
  dsimp only
  generalize hk2 : bf.length = k2 at H2 H0 ⊢
  go_wp
  obtain ⟨A4, c4, w4, A5, c5, w5, hr1, hr2, hS5, hb5⟩ := all_appends w w1 w2 _ _ rows.flatten bf field H1.out.1 H1.out.2 H2.out.1 H2.out.2 (by have := H0.out.2.1; omega)
  rw [hk2] at hr1 hr2 hS5
  rw [hk1] at hr2 hS5
  have HJ := Join_any w.heap.size w5 _ _ hS5 (by simp) (by have := H0.out.2.1; simp only [List.length_append, List.length_cons, List.length_nil]; omega) (by rw [H0.out.2.2.2]; exact H0.out.2.2.1)
  rw [H0.out.2.2.2] at HJ
  have HJ := Lib.hid HJ
  have H5 := Lib.hid hb5
  clear H0 H1 H2 hS5 hb5 hk1 hk2
  refine Stop.mk (wl_append _ _ _ rfl rfl (by rw [Fr_eval _ _ _ _ rfl]; simp only [lk]; rfl) (by rw [Fr_eval _ _ _ _ rfl]; simp only [lk]; rfl) hr1 ?_)
  rw [Fr_put]
  refine wl_append _ _ _ rfl rfl (by rw [Fr_eval _ _ _ _ rfl]; simp only [lk]; rfl) (by rw [Fr_eval _ _ _ _ rfl]; simp only [lk]; rfl) hr2 ?_
  rw [Fr_put]
  clear hr1 hr2
  generalize k1 + (k2 + 1) = k3 at HJ ⊢
  generalize k2 + 1 = k4
  go_wp
  refine HJ.out.mono ?_
  rintro e w6 ⟨rfl, hb6⟩
  have H6 := Lib.hid (H5.out.trans (hb6.mono H5.out.size))
  clear hb6 HJ H5
  dsimp only
  go_wp
  exact NPost.mk ⟨_, rfl, (by repeat first | exact VKeeps.refl _ _ _ _ | refine VKeeps.far (by decide) ?_ | refine VKeeps.set (by decide) ?_), H6.out⟩
set_option maxRecDepth 100000 in
set_option maxHeartbeats 1000000 in
theorem wq_p4 (w : World) (l : List (Nat × Value)) (f : Nat → Value) (ob : Nat) (comma comment expect : Int) (lz tr re : Bool) (comma' : Int) (hcm : (if comma = 0 then 44 else comma) = comma') (h9 : lk l f 9 = .pointer (some ⟨ob, 0, none⟩)) (hob : Blk w ob 26 (optCells comma comment expect lz tr re)) (hv : Utf8.valid comma' = true) :
    wq4.wp Tryz.prog (NPost fun a w' => ∃ l', a = Fr 135 ((12, .string ⟨(Csv.enc comma').toArray⟩) :: l') f ∧ VKeeps wV [] l f l' ∧ Below w.heap.size w w') (Fr 135 l f) w := by
  dsimp only [wq4, wqBody, part, part.sub2', sub1, sub2, Tryz.f5, Option.getD]
  have hc := hob.cell
  dsimp only [optCells] at hc
  have HC := chosen_any w comma comment expect lz tr re
  rw [hcm] at HC
  have HC := Lib.hid HC
  have HV := Lib.hid (fun w1 => Encoded_any w1 comma' hv)
  generalize (⟨(Csv.enc comma').toArray⟩ : ByteArray) = s' at HV ⊢
  clear hob hcm hv
  go_wp
  refine HC.out.mono ?_
  rintro x w1 ⟨rfl, hb1⟩
  have HE := Lib.hid (HV.out w1)
  have H1 := Lib.hid hb1
  clear hb1 HC HV hc
  dsimp only [spCells]
  have hfd := field_comma1 comma' comment expect lz tr
  go_wp
  refine HE.out.mono ?_
  rintro x w2 ⟨rfl, hb2⟩
  have H2 := Lib.hid (H1.out.trans (hb2.mono H1.out.size))
  clear hb2 HE H1 hfd
  dsimp only
  go_wp
  exact NPost.mk ⟨_, rfl, (by repeat first | exact VKeeps.refl _ _ _ _ | refine VKeeps.far (by decide) ?_ | refine VKeeps.set (by decide) ?_), H2.out⟩
set_option maxRecDepth 100000 in
set_option maxHeartbeats 2000000 in
theorem wq_p5 (w : World) (l : List (Nat × Value)) (f : Nat → Value) (all rest cm : ByteArray) (b1 b2 b3 b4 b5 : Bool) (h11 : lk l f 11 = .string all) (h3 : lk l f 3 = .string rest) (h12 : lk l f 12 = .string cm)
    (hC : Calls Tryz.prog 11 #[.string all, .string ⟨#[13]⟩] w fun e w' => e = .returned (.bool b1) ∧ w' = w)
    (hP2 : Calls Tryz.prog 20 #[.string rest, .string ⟨#[34]⟩] w fun e w' => e = .returned (.bool b2) ∧ w' = w)
    (hP3 : Calls Tryz.prog 20 #[.string rest, .string ⟨#[10]⟩] w fun e w' => e = .returned (.bool b3) ∧ w' = w)
    (hP4 : Calls Tryz.prog 20 #[.string rest, .string ⟨#[13]⟩] w fun e w' => e = .returned (.bool b4) ∧ w' = w)
    (hP5 : Calls Tryz.prog 20 #[.string rest, .string cm] w fun e w' => e = .returned (.bool b5) ∧ w' = w) :
    wq5.wp Tryz.prog (NPost fun a w' => ∃ l' b, a = Fr 135 ((58, .bool b) :: l') f ∧ VKeeps wV [] l f l' ∧ (b = false → b1 = false ∧ b2 = false ∧ b3 = false ∧ b4 = false ∧ b5 = false) ∧ w' = w) (Fr 135 l f) w := by
  dsimp only [wq5, wqBody, part, part.sub2', sub1, sub2, Tryz.f5, Option.getD]
  have HC := Lib.hid hC
  have HP2 := Lib.hid hP2
  have HP3 := Lib.hid hP3
  have HP4 := Lib.hid hP4
  have HP5 := Lib.hid hP5
  clear hC hP2 hP3 hP4 hP5
  go_wp
  refine HC.out.mono ?_
  rintro e w1 ⟨rfl, rfl⟩
  clear HC
  dsimp only
  cases b1
  case true =>
    go_wp
    all_goals first | exact undef_bool (by assumption) | exact NPost.mk ⟨_, _, rfl, (by repeat first | exact VKeeps.refl _ _ _ _ | refine VKeeps.far (by decide) ?_ | refine VKeeps.set (by decide) ?_), (fun h => by simp at h), rfl⟩
  go_wp
  refine HP2.out.mono ?_
  rintro e w2 ⟨rfl, rfl⟩
  clear HP2
  dsimp only
  cases b2
  case true =>
    go_wp
    all_goals first | exact undef_bool (by assumption) | exact NPost.mk ⟨_, _, rfl, (by repeat first | exact VKeeps.refl _ _ _ _ | refine VKeeps.far (by decide) ?_ | refine VKeeps.set (by decide) ?_), (fun h => by simp at h), rfl⟩
  go_wp
  refine HP3.out.mono ?_
  rintro e w3 ⟨rfl, rfl⟩
  clear HP3
  dsimp only
  cases b3
  case true =>
    go_wp
    all_goals first | exact undef_bool (by assumption) | exact NPost.mk ⟨_, _, rfl, (by repeat first | exact VKeeps.refl _ _ _ _ | refine VKeeps.far (by decide) ?_ | refine VKeeps.set (by decide) ?_), (fun h => by simp at h), rfl⟩
  go_wp
  refine HP4.out.mono ?_
  rintro e w4 ⟨rfl, rfl⟩
  clear HP4
  dsimp only
  cases b4
  case true =>
    go_wp
    all_goals first | exact undef_bool (by assumption) | exact NPost.mk ⟨_, _, rfl, (by repeat first | exact VKeeps.refl _ _ _ _ | refine VKeeps.far (by decide) ?_ | refine VKeeps.set (by decide) ?_), (fun h => by simp at h), rfl⟩
  go_wp
  refine HP5.out.mono ?_
  rintro e w5 ⟨rfl, rfl⟩
  clear HP5
  dsimp only
  cases b5
  case true =>
    go_wp
    all_goals first | exact undef_bool (by assumption) | exact NPost.mk ⟨_, _, rfl, (by repeat first | exact VKeeps.refl _ _ _ _ | refine VKeeps.far (by decide) ?_ | refine VKeeps.set (by decide) ?_), (fun h => by simp at h), rfl⟩
  go_wp
  all_goals first | exact undef_bool (by assumption) | exact NPost.mk ⟨_, _, rfl, (by repeat first | exact VKeeps.refl _ _ _ _ | refine VKeeps.far (by decide) ?_ | refine VKeeps.set (by decide) ?_), (fun _ => ⟨rfl, rfl, rfl, rfl, rfl⟩), rfl⟩
set_option maxRecDepth 100000 in
theorem wq_p7 (w : World) (l : List (Nat × Value)) (f : Nat → Value) (ob : Nat) (comma comment expect : Int) (lz tr re : Bool) (h9 : lk l f 9 = .pointer (some ⟨ob, 0, none⟩)) (hob : Blk w ob 26 (optCells comma comment expect lz tr re)) :
    wq7.wp Tryz.prog (NPost fun a w' => ∃ l', a = Fr 135 l' f ∧ VKeeps wV [] l f l' ∧ Only (fun k => k = ob) w w' ∧ Blk w' ob 26 (optCells comma comment (-1) false false re)) (Fr 135 l f) w := by
  dsimp only [wq7, wqBody, part, part.sub2', sub1, sub2, Tryz.f5, Option.getD]
  have hc := hob.cell
  have hz := hob.frozen
  have H := Lib.hid hob
  dsimp only [optCells] at hc
  clear hob
  go_wp
  exact NPost.mk ⟨_, rfl, (by repeat first | exact VKeeps.refl _ _ _ _ | refine VKeeps.far (by decide) ?_ | refine VKeeps.set (by decide) ?_), (((Only.refl (fun k => k = ob) w).setCell (p := ⟨ob, 2, none⟩) (fun _ => rfl) _).setCell (p := ⟨ob, 4, none⟩) (fun _ => rfl) _).setCell (p := ⟨ob, 3, none⟩) (fun _ => rfl) _, ((H.out.set 2 _).set 4 _).set 3 _⟩
end Go.Proofs.YtfadgnopfjajbaaGreatDoor
namespace Go.Proofs.YtfadgnopfjajbaaGreatDoor
open Go.RowKit
set_option maxRecDepth 100000 in
set_option maxHeartbeats 1000000 in
theorem wq_p8 (w : World) (l : List (Nat × Value)) (f : Nat → Value) (ob n c : Nat) (A : Option Addr) (T : ByteArray) (comma comment expect : Int) (lz tr re : Bool) (comma' : Int) (hcm : (if comma = 0 then 44 else comma) = comma') (h0 : lk l f 0 = .slice A n c) (h9 : lk l f 9 = .pointer (some ⟨ob, 0, none⟩)) (hob : Blk w ob 26 (optCells comma comment expect lz tr re))
    (hT : ∀ w1, Below w.heap.size w w1 → Calls Tryz.prog 14 #[.slice A n c, .int .i32 comma', .string ⟨#[10]⟩, .bool true] w1 fun x w' => x = .returned (.string T) ∧ Below w1.heap.size w1 w') :
    wq8.wp Tryz.prog (NPost fun a w' => ∃ l', a = Fr 135 ((13, .string T) :: l') f ∧ VKeeps wV [] l f l' ∧ Below w.heap.size w w') (Fr 135 l f) w := by
  dsimp only [wq8, wqBody, part, part.sub2', sub1, sub2, Tryz.f5, Option.getD]
  have hc := hob.cell
  dsimp only [optCells] at hc
  have HC := chosen_any w comma comment expect lz tr re
  rw [hcm] at HC
  have HC := Lib.hid HC
  have HT := Lib.hid hT
  clear hob hcm hT
  go_wp
  refine HC.out.mono ?_
  rintro x w1 ⟨rfl, hb1⟩
  have HE := Lib.hid (HT.out w1 hb1)
  have H1 := Lib.hid hb1
  clear hb1 HC HT hc
  dsimp only [spCells]
  have hfd := field_comma1 comma' comment expect lz tr
  go_wp
  refine HE.out.mono ?_
  rintro x w2 ⟨rfl, hb2⟩
  have H2 := Lib.hid (H1.out.trans (hb2.mono H1.out.size))
  clear hb2 HE H1 hfd
  dsimp only
  go_wp
  exact NPost.mk ⟨_, rfl, (by repeat first | exact VKeeps.refl _ _ _ _ | refine VKeeps.far (by decide) ?_ | refine VKeeps.set (by decide) ?_), H2.out⟩
set_option maxRecDepth 100000 in
theorem wq_p9 (w : World) (l : List (Nat × Value)) (f : Nat → Value) (s s' : ByteArray) (R : World → Prop) (h2 : lk l f 2 = .string s) (HR : Calls Tryz.prog 21 #[.string s] w fun e w' => e = .returned (.string s') ∧ R w') : wq9.wp Tryz.prog (NPost fun a w' => ∃ l', a = Fr 135 ((14, .string s') :: l') f ∧ VKeeps wV [] l f l' ∧ R w') (Fr 135 l f) w := by
  dsimp only [wq9, wqBody, part, part.sub2', sub1, sub2, Tryz.f5, Option.getD]
  have HR := Lib.hid HR
  go_wp
  refine HR.out.mono ?_
  rintro e w1 ⟨rfl, hb1⟩
  have HB := Lib.hid hb1
  clear hb1 HR
  dsimp only
  go_wp
  exact NPost.mk ⟨_, rfl, (by repeat first | exact VKeeps.refl _ _ _ _ | refine VKeeps.far (by decide) ?_ | refine VKeeps.set (by decide) ?_), HB.out⟩
set_option maxRecDepth 100000 in
theorem wq_p10 (w : World) (l : List (Nat × Value)) (f : Nat → Value) (s : ByteArray) (b : Bool) (hb : s.toList.isEmpty = b) (h3 : lk l f 3 = .string s) : wq10.wp Tryz.prog (NPost fun a w' => ∃ l', a = Fr 135 ((71, .bool b) :: l') f ∧ VKeeps wV [] l f l' ∧ w' = w) (Fr 135 l f) w := by
  dsimp only [wq10, wqBody, part, part.sub2', sub1, sub2, Tryz.f5, Option.getD]
  go_wp
  subst hb
  exact NPost.mk ⟨_, rfl, (by repeat first | exact VKeeps.refl _ _ _ _ | refine VKeeps.far (by decide) ?_ | refine VKeeps.set (by decide) ?_), rfl⟩
set_option maxRecDepth 100000 in
theorem wq_p11 (w : World) (l : List (Nat × Value)) (f : Nat → Value) (s : ByteArray) (n : Nat) (hn : s.size = n + 1) (hn2 : n < 1000000000000) (h14 : lk l f 14 = .string s) : wq11.wp Tryz.prog (NPost fun a w' => ∃ l', a = Fr 135 ((14, .string (s.extract 0 n)) :: l') f ∧ VKeeps wV [] l f l' ∧ w' = w) (Fr 135 l f) w := by
  dsimp only [wq11, wqBody, part, part.sub2', sub1, sub2, Tryz.f5, Option.getD]
  have hw : wrap64 (((n + 1 : Nat) : Int) - 1) = (n : Int) := by unfold wrap64; omega
  have hw2 : wrap64 (n : Int) = (n : Int) := by unfold wrap64; omega
  have hle : n ≤ n + 1 := by omega
  go_wp
  exact NPost.mk ⟨_, rfl, (by repeat first | exact VKeeps.refl _ _ _ _ | refine VKeeps.far (by decide) ?_ | refine VKeeps.set (by decide) ?_), rfl⟩
set_option maxRecDepth 100000 in
theorem wq_p12 (w : World) (l : List (Nat × Value)) (f : Nat → Value) (A : Option Addr) (n c : Nat) (hn : n < 1000000000000) (h1 : lk l f 1 = .slice A n c) : wq12.wp Tryz.prog (NPost fun a w' => ∃ l', a = Fr 135 ((15, .int .i64 ((n : Int) - 1)) :: l') f ∧ VKeeps wV [] l f l' ∧ w' = w) (Fr 135 l f) w := by
  dsimp only [wq12, wqBody, part, part.sub2', sub1, sub2, Tryz.f5, Option.getD]
  have hw : wrap64 ((n : Int) - 1) = (n : Int) - 1 := by unfold wrap64; omega
  go_wp
  exact NPost.mk ⟨_, rfl, (by repeat first | exact VKeeps.refl _ _ _ _ | refine VKeeps.far (by decide) ?_ | refine VKeeps.set (by decide) ?_), rfl⟩
set_option maxRecDepth 100000 in
theorem wq_p13 (w : World) (l : List (Nat × Value)) (f : Nat → Value) (z : Int) (b : Bool) (hb : decide (0 ≤ z) = b) (h15 : lk l f 15 = .int .i64 z) : wq13.wp Tryz.prog (NPost fun a w' => ∃ l', a = Fr 135 ((81, .bool b) :: l') f ∧ VKeeps wV [] l f l' ∧ w' = w) (Fr 135 l f) w := by
  dsimp only [wq13, wqBody, part, part.sub2', sub1, sub2, Tryz.f5, Option.getD]
  go_wp
  subst hb
  exact NPost.mk ⟨_, rfl, (by repeat first | exact VKeeps.refl _ _ _ _ | refine VKeeps.far (by decide) ?_ | refine VKeeps.set (by decide) ?_), rfl⟩
set_option maxRecDepth 100000 in
theorem wq_p14 (w : World) (l : List (Nat × Value)) (f : Nat → Value) (k : Nat) (hk : k < 1000000000000) (h15 : lk l f 15 = .int .i64 (k : Int)) : wq14.wp Tryz.prog (NPost fun a w' => ∃ l', a = Fr 135 ((15, .int .i64 ((k : Int) - 1)) :: l') f ∧ VKeeps wV [] l f l' ∧ w' = w) (Fr 135 l f) w := by
  dsimp only [wq14, wqBody, part, part.sub2', sub1, sub2, Tryz.f5, Option.getD]
  have hw : wrap64 ((k : Int) - 1) = (k : Int) - 1 := by unfold wrap64; omega
  go_wp
  exact NPost.mk ⟨_, rfl, (by repeat first | exact VKeeps.refl _ _ _ _ | refine VKeeps.far (by decide) ?_ | refine VKeeps.set (by decide) ?_), rfl⟩
set_option maxRecDepth 100000 in
theorem wq_p15 (w : World) (l : List (Nat × Value)) (f : Nat → Value) (b o k n c : Nat) (s q cm line : ByteArray) (R : World → Prop) (h1 : lk l f 1 = .slice (some ⟨b, o, none⟩) n c) (h15 : lk l f 15 = .int .i64 (k : Int)) (h12 : lk l f 12 = .string cm) (h14 : lk l f 14 = .string line) (hk : k < n) (hc : w.cell? ⟨b, o + k, none⟩ = some (.string s)) (hz : q.size + cm.size + line.size < 9000000000000000000)
    (HR : Calls Tryz.prog 21 #[.string s] w fun e w' => e = .returned (.string q) ∧ R w') : wq15.wp Tryz.prog (NPost fun a w' => ∃ l', a = Fr 135 ((14, .string (q ++ cm ++ line)) :: l') f ∧ VKeeps wV [] l f l' ∧ R w') (Fr 135 l f) w := by
  dsimp only [wq15, wqBody, part, part.sub2', sub1, sub2, Tryz.f5, Option.getD]
  have hz1 : ¬ 9223372036854775807 < q.size + cm.size := by omega
  have hz2 : ¬ 9223372036854775807 < q.size + cm.size + line.size := by omega
  have HR := Lib.hid HR
  clear hz
  go_wp
  refine HR.out.mono ?_
  rintro e w1 ⟨rfl, hb1⟩
  have HB := Lib.hid hb1
  clear hb1 HR hc
  dsimp only
  go_wp
  exact NPost.mk ⟨_, rfl, (by repeat first | exact VKeeps.refl _ _ _ _ | refine VKeeps.far (by decide) ?_ | refine VKeeps.set (by decide) ?_), HB.out⟩
end Go.Proofs.YtfadgnopfjajbaaGreatDoor
namespace Go.Proofs.YtfadgnopfjajbaaGreatDoor
open Go.RowKit
set_option maxRecDepth 100000 in
set_option maxHeartbeats 1000000 in
theorem wq_p16 (w : World) (l : List (Nat × Value)) (f : Nat → Value) (ob n cv : Nat) (hd ln rs : ByteArray) (A : Option Addr) (comma comment expect : Int) (lz tr re : Bool) (R : Value → World → Prop) (h13 : lk l f 13 = .string hd) (h14 : lk l f 14 = .string ln) (h3 : lk l f 3 = .string rs) (h0 : lk l f 0 = .slice A n cv) (h9 : lk l f 9 = .pointer (some ⟨ob, 0, none⟩)) (hob : Blk w ob 26 (optCells comma comment expect lz tr re)) (hn : n < 300000000) (hz : hd.size + ln.size + rs.size < 9000000000000000000)
    (hR : ∀ w1 sv, Below w.heap.size w w1 → ScriptIn w1 (readsL (n + 1)) sv → Calls Tryz.prog 6 #[.agg #[.string (hd ++ ln ++ rs), .slice none 0 0, .bool false], .agg #[.int .i32 comma, .int .i32 comment, .int .i64 expect, .bool lz, .bool tr, .bool re], sv] w1 fun e w' => ∃ av, e = .returned av ∧ R av w' ∧ Below w1.heap.size w1 w') :
    wq16.wp Tryz.prog (NPost fun a w' => ∃ l' av, a = Fr 135 ((16, av) :: l') f ∧ VKeeps wV [] l f l' ∧ R av w' ∧ Below w.heap.size w w') (Fr 135 l f) w := by
  dsimp only [wq16, wqBody, part, part.sub2', sub1, sub2, Tryz.f5, Option.getD]
  have hz1 : ¬ 9223372036854775807 < hd.size + ln.size := by omega
  have hz2 : ¬ 9223372036854775807 < hd.size + ln.size + rs.size := by omega
  have HR := Lib.hid hR
  refine held_start (fun w' => Blk w' ob 26 (optCells comma comment expect lz tr re)) [] mixed ?_
  have hS0 : Blk w.drew ob 26 (optCells comma comment expect lz tr re) := hob
  have hb0 := drew_below w
  clear hR hob hz
  refine take 0 _ _ ?tv1 rfl rfl (by kernel_rfl) hS0 (by intro c a d v w h; cases d <;> exact h) ?th1 ?tn1
  case th1 => intro w' hS K hK; have hc := Blk.cell hS; unfold optCells at hc; go_simp; exact hK
  refine take 1 _ _ ?tv2 rfl rfl (by kernel_rfl) hS0 (by intro c a d v w h; cases d <;> exact h) ?th2 ?tn2
  case th2 => intro w' hS K hK; have hc := Blk.cell hS; unfold optCells at hc; go_simp; exact hK
  refine take 2 _ _ ?tv3 rfl rfl (by kernel_rfl) hS0 (by intro c a d v w h; cases d <;> exact h) ?th3 ?tn3
  case th3 => intro w' hS K hK; have hc := Blk.cell hS; unfold optCells at hc; go_simp; exact hK
  refine take 3 _ _ ?tv4 rfl rfl (by kernel_rfl) hS0 (by intro c a d v w h; cases d <;> exact h) ?th4 ?tn4
  case th4 => intro w' hS K hK; have hc := Blk.cell hS; unfold optCells at hc; go_simp; exact hK
  refine take 4 _ _ ?tv5 rfl rfl (by kernel_rfl) hS0 (by intro c a d v w h; cases d <;> exact h) ?th5 ?tn5
  case th5 => intro w' hS K hK; have hc := Blk.cell hS; unfold optCells at hc; go_simp; exact hK
  refine take 5 _ _ ?tv6 rfl rfl (by kernel_rfl) hS0 (by intro c a d v w h; cases d <;> exact h) ?th6 ?tn6
  case th6 => intro w' hS K hK; have hc := Blk.cell hS; unfold optCells at hc; go_simp; exact hK
  refine take 6 _ _ ?tv7 rfl rfl (by kernel_rfl) hS0 (by intro c a d v w h; cases d <;> exact h) ?th7 ?tn7
  case th7 => intro w' hS K hK; have hc := Blk.cell hS; unfold optCells at hc; go_simp; exact hK
  refine take 7 _ _ ?tv8 rfl rfl (by kernel_rfl) hS0 (by intro c a d v w h; cases d <;> exact h) ?th8 ?tn8
  case th8 => intro w' hS K hK; have hc := Blk.cell hS; unfold optCells at hc; go_simp; exact hK
  refine take 8 _ _ ?tv9 rfl rfl (by kernel_rfl) hS0 (by intro c a d v w h; cases d <;> exact h) ?th9 ?tn9
  case th9 => intro w' hS K hK; have hc := Blk.cell hS; unfold optCells at hc; go_simp; exact hK
  refine take 9 _ _ ?tv10 rfl rfl (by kernel_rfl) hS0 (by intro c a d v w h; cases d <;> exact h) ?th10 ?tn10
  case th10 => intro w' hS K hK; have hc := Blk.cell hS; unfold optCells at hc; go_simp; exact hK
  clear hz1 hz2
  refine held_alone 10 _ rfl (by kernel_rfl) ?_
  have HD := Lib.hid (reads_any w.drew (n + 1) (by omega))
  go_wp
  refine HD.out.mono ?_
  rintro e w1 ⟨rfl, hb1, hk1⟩
  clear HD
  have hb01 := hb0.trans (hb1.mono hb0.size)
  have hS1 := hS0.below hb1 hS0.lt
  have HR1 := Lib.hid (HR.out w1 _ hb01 (script_reads hk1))
  have H1 := Lib.hid (And.intro hb01 hS1)
  clear hb1 hk1 hb01 hS1 hb0 hS0 HR
  dsimp only
  go_wp
  refine ⟨fun _ => H1.out.2, ?_⟩
  refine held_alone 11 _ rfl (by kernel_rfl) ?_
  go_wp
  refine HR1.out.mono ?_
  rintro e w2 ⟨av, rfl, hr2, hb2⟩
  have H2 := Lib.hid (And.intro hr2 (And.intro (H1.out.2.below hb2 H1.out.2.lt) (H1.out.1.trans (hb2.mono H1.out.1.size))))
  clear hr2 hb2 HR1 H1
  dsimp only
  go_wp
  refine ⟨fun _ => H2.out.2.1, ?_⟩
  refine held_alone 12 _ rfl (by kernel_rfl) ?_
  go_wp
  refine ⟨fun _ => H2.out.2.1, ?_⟩
  refine held_done (by kernel_rfl) ?_
  exact NPost.mk ⟨_, av, rfl, (by repeat first | exact VKeeps.refl _ _ _ _ | refine VKeeps.far (by decide) ?_ | refine VKeeps.set (by decide) ?_), H2.out.1, H2.out.2.2⟩
set_option maxRecDepth 100000 in
theorem wq_p17 (w : World) (l : List (Nat × Value)) (f : Nat → Value) (A A7 : Option Addr) (n c c7 : Nat) (hn : n < 1000000000000) (h0 : lk l f 0 = .slice A n c) (h16 : lk l f 16 = .slice A7 (n + 1) c7) : wq17.wp Tryz.prog (NPost fun a w' => ∃ l', a = Fr 135 ((110, .bool false) :: l') f ∧ VKeeps wV [] l f l' ∧ w' = w) (Fr 135 l f) w := by
  dsimp only [wq17, wqBody, part, part.sub2', sub1, sub2, Tryz.f5, Option.getD]
  go_wp
  exact NPost.mk ⟨_, rfl, (by repeat first | exact VKeeps.refl _ _ _ _ | refine VKeeps.far (by decide) ?_ | refine VKeeps.set (by decide) ?_), rfl⟩
set_option maxRecDepth 100000 in
set_option maxHeartbeats 1000000 in
theorem wq_p19 (w : World) (l : List (Nat × Value)) (f : Nat → Value) (g7 c7 n cv : Nat) (A B1 B2 B3 : Option Addr) (m1 q1 m2 q2 m3 q3 : Nat) (k s ln cl a0 b0 : Int) (p : Bool) (x : Int) (h0 : lk l f 0 = .slice A n cv) (h16 : lk l f 16 = .slice (some ⟨g7, 0, none⟩) (n + 1) c7) (hn : n < 300000000)
    (y0 : w.cell? ⟨g7, n * 11, none⟩ = some (.slice B1 m1 q1)) (y1 : w.cell? ⟨g7, n * 11 + 1, none⟩ = some (.slice B2 m2 q2)) (y2 : w.cell? ⟨g7, n * 11 + 2, none⟩ = some (.slice B3 m3 q3)) (y3 : w.cell? ⟨g7, n * 11 + 3, none⟩ = some (.int .i64 k)) (y4 : w.cell? ⟨g7, n * 11 + 4, none⟩ = some (.int .i64 s)) (y5 : w.cell? ⟨g7, n * 11 + 5, none⟩ = some (.int .i64 ln)) (y6 : w.cell? ⟨g7, n * 11 + 6, none⟩ = some (.int .i64 cl)) (y7 : w.cell? ⟨g7, n * 11 + 7, none⟩ = some (.int .i64 a0)) (y8 : w.cell? ⟨g7, n * 11 + 8, none⟩ = some (.int .i64 b0)) (y9 : w.cell? ⟨g7, n * 11 + 9, none⟩ = some (.bool p)) (y10 : w.cell? ⟨g7, n * 11 + 10, none⟩ = some (.int .i64 x)) :
    wq19.wp Tryz.prog (NPost fun a w' => ∃ l', a = Fr 135 ((17, .pointer (some ⟨w.heap.size, 0, none⟩)) :: l') f ∧ VKeeps wV [] l f l' ∧ Below w.heap.size w w' ∧ Blk w' w.heap.size 53 [.slice B1 m1 q1, .slice B2 m2 q2, .slice B3 m3 q3, .int .i64 k, .int .i64 s, .int .i64 ln, .int .i64 cl, .int .i64 a0, .int .i64 b0, .bool p, .int .i64 x]) (Fr 135 l f) w := by
  dsimp only [wq19, wqBody, part, part.sub2', sub1, sub2, Tryz.f5, Option.getD]
  go_wp
  exact NPost.mk ⟨_, rfl, (by repeat first | exact VKeeps.refl _ _ _ _ | refine VKeeps.far (by decide) ?_ | refine VKeeps.set (by decide) ?_), (Below.refl _ w).alloc (Nat.le_refl _) _, Blk.new_arr w _ _⟩
set_option maxRecDepth 100000 in
set_option maxHeartbeats 1000000 in
theorem wq_p20 (w : World) (l : List (Nat × Value)) (f : Nat → Value) (ab n1 c1 cnt : Nat) (hd : ByteArray) (A1 B1 B2 B3 : Option Addr) (m1 q1 m2 q2 m3 q3 : Nat) (ln cl a0 b0 : Int) (p : Bool) (x : Int) (h17 : lk l f 17 = .pointer (some ⟨ab, 0, none⟩)) (h1 : lk l f 1 = .slice A1 n1 c1) (h13 : lk l f 13 = .string hd)
    (hab : Blk w ab 53 [.slice B1 m1 q1, .slice B2 m2 q2, .slice B3 m3 q3, .int .i64 3, .int .i64 ((cnt + 1 : Nat) : Int), .int .i64 ln, .int .i64 cl, .int .i64 a0, .int .i64 b0, .bool p, .int .i64 x]) (hcnt : cnt < 1000000000000)
    (hE : Calls Tryz.prog 23 #[.slice B1 m1 q1, .slice A1 n1 c1] w.drew fun e w' => e = .returned (.bool true) ∧ Below w.drew.heap.size w.drew w')
    (hC : ∀ w1, Calls Tryz.prog 24 #[.string hd, .string ⟨#[10]⟩] w1 fun e w' => e = .returned (.int .i64 (cnt : Int)) ∧ w' = w1) :
    wq20.wp Tryz.prog (NPost fun a w' => ∃ l', a = Fr 135 ((10, .bool true) :: l') f ∧ Below w.heap.size w w') (Fr 135 l f) w := by
  dsimp only [wq20, wqBody, part, part.sub2', sub1, sub2, Tryz.f5, Option.getD]
  have HE := Lib.hid hE
  have HC := Lib.hid hC
  refine held_start (fun w' => Blk w' ab 53 [.slice B1 m1 q1, .slice B2 m2 q2, .slice B3 m3 q3, .int .i64 3, .int .i64 ((cnt + 1 : Nat) : Int), .int .i64 ln, .int .i64 cl, .int .i64 a0, .int .i64 b0, .bool p, .int .i64 x]) [] mixed ?_
  have hS0 : Blk w.drew ab 53 [.slice B1 m1 q1, .slice B2 m2 q2, .slice B3 m3 q3, .int .i64 3, .int .i64 ((cnt + 1 : Nat) : Int), .int .i64 ln, .int .i64 cl, .int .i64 a0, .int .i64 b0, .bool p, .int .i64 x] := hab
  have hb0 := drew_below w
  clear hE hC hab
  refine take 0 _ _ ?tv11 rfl rfl (by kernel_rfl) hS0 (by intro c a d v w h; cases d <;> exact h) ?th11 ?tn11
  case th11 => intro w' hS K hK; have hc := Blk.cell hS; go_simp; exact hK
  refine take 1 _ _ ?tv12 rfl rfl (by kernel_rfl) hS0 (by intro c a d v w h; cases d <;> exact h) ?th12 ?tn12
  case th12 => intro w' hS K hK; have hc := Blk.cell hS; go_simp; exact hK
  refine take 2 _ _ ?tv13 rfl rfl (by kernel_rfl) hS0 (by intro c a d v w h; cases d <;> exact h) ?th13 ?tn13
  case th13 => intro w' hS K hK; have hc := Blk.cell hS; go_simp; exact hK
  refine held_alone 3 _ rfl (by kernel_rfl) ?_
  go_wp
  refine HE.out.mono ?_
  rintro e w1 ⟨rfl, hb1⟩
  have hS1 := hS0.below hb1 hS0.lt
  have H1 := Lib.hid (hb0.trans (hb1.mono hb0.size))
  clear HE hb1 hb0 hS0
  dsimp only
  go_wp
  refine ⟨fun _ => hS1, ?_⟩
  refine take 4 _ _ ?tv14 rfl rfl (by kernel_rfl) hS1 (by intro c a d v w h; cases d <;> exact h) ?th14 ?tn14
  case th14 => intro w' hS K hK; have hc := Blk.cell hS; go_simp; exact hK
  refine take 5 _ _ ?tv15 rfl rfl (by kernel_rfl) hS1 (by intro c a d v w h; cases d <;> exact h) ?th15 ?tn15
  case th15 => intro w' hS K hK; have hc := Blk.cell hS; go_simp; exact hK
  refine take 6 _ _ ?tv16 rfl rfl (by kernel_rfl) hS1 (by intro c a d v w h; cases d <;> exact h) ?th16 ?tn16
  case th16 => intro w' hS K hK; have hc := Blk.cell hS; go_simp; exact hK
  refine take 7 _ _ ?tv17 rfl rfl (by kernel_rfl) hS1 (by intro c a d v w h; cases d <;> exact h) ?th17 ?tn17
  case th17 => intro w' hS K hK; have hc := Blk.cell hS; go_simp; exact hK
  refine take 8 _ _ ?tv18 rfl rfl (by kernel_rfl) hS1 (by intro c a d v w h; cases d <;> exact h) ?th18 ?tn18
  case th18 => intro w' hS K hK; have hc := Blk.cell hS; go_simp; exact hK
  refine take 9 _ _ ?tv19 rfl rfl (by kernel_rfl) hS1 (by intro c a d v w h; cases d <;> exact h) ?th19 ?tn19
  case th19 => intro w' hS K hK; have hc := Blk.cell hS; go_simp; exact hK
  refine take 10 _ _ ?tv20 rfl rfl (by kernel_rfl) hS1 (by intro c a d v w h; cases d <;> exact h) ?th20 ?tn20
  case th20 => intro w' hS K hK; have hc := Blk.cell hS; go_simp; exact hK
  refine take 11 _ _ ?tv21 rfl rfl (by kernel_rfl) hS1 (by intro c a d v w h; cases d <;> exact h) ?th21 ?tn21
  case th21 => intro w' hS K hK; have hc := Blk.cell hS; go_simp; exact hK
  refine take 12 _ _ ?tv22 rfl rfl (by kernel_rfl) hS1 (by intro c a d v w h; cases d <;> exact h) ?th22 ?tn22
  case th22 => intro w' hS K hK; have hc := Blk.cell hS; go_simp; exact hK
  refine take 13 _ _ ?tv23 rfl rfl (by kernel_rfl) hS1 (by intro c a d v w h; cases d <;> exact h) ?th23 ?tn23
  case th23 => intro w' hS K hK; have hc := Blk.cell hS; go_simp; exact hK
  refine take 14 _ _ ?tv24 rfl rfl (by kernel_rfl) hS1 (by intro c a d v w h; cases d <;> exact h) ?th24 ?tn24
  case th24 => intro w' hS K hK; have hc := Blk.cell hS; go_simp; exact hK
  refine held_alone 15 _ rfl (by kernel_rfl) ?_
  have HC1 := Lib.hid (HC.out w1)
  clear HC
  go_wp
  refine HC1.out.mono ?_
  rintro e w2 ⟨rfl, rfl⟩
  clear HC1
  dsimp only
  go_wp
  refine ⟨fun _ => hS1, ?_⟩
  refine held_alone 16 _ rfl (by kernel_rfl) ?_
  go_wp
  refine ⟨fun _ => hS1, ?_⟩
  refine held_alone 17 _ rfl (by kernel_rfl) ?_
  go_wp
  refine ⟨fun _ => hS1, ?_⟩
  refine held_alone 18 _ rfl (by kernel_rfl) ?_
  go_wp
  refine ⟨fun _ => hS1, ?_⟩
  refine held_alone 19 _ rfl (by kernel_rfl) ?_
  go_wp
  refine ⟨fun _ => hS1, ?_⟩
  refine held_done (by kernel_rfl) ?_
  exact NPost.mk ⟨_, rfl, H1.out⟩
end Go.Proofs.YtfadgnopfjajbaaGreatDoor
