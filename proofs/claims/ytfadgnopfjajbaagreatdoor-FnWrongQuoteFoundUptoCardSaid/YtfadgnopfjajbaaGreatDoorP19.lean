/- A part of the proof: laws.table. A region that draws its order, where two acting operations may come in either order; laws.found: its first regions. laws.found: the first Scan. laws.found: the second Scan, the looks. Quoted fields and rows: the parser's steps over them. Rows of quoted fields. Reading a table of quoted fields. -/
import Derived.Test.YtfadgnopfjajbaaGreatDoorP18
namespace Go.Proofs.YtfadgnopfjajbaaGreatDoor
open Go.RowKit
/-- A row's fields. -/
theorem tb_inner {w0 w : World} {b : Nat} {l : List (Nat × Value)} {f : Nat → Value} {v : Value} {comma : Int} {e : List UInt8} {n i uc : Nat} {A : Option Addr} {t : List UInt8} {r : List (List UInt8)} (hF : TF l f v comma e b n) (h16 : lk l f 16 = .int .i64 (i : Int)) (h20 : lk l f 20 = .slice A r.length uc) (h21 : lk l f 21 = .int .i64 (r.length : Int)) (h22 : lk l f 22 = .int .i64 ((0 : Nat) : Int))
    (hr : StrIn w0 (.slice A r.length uc) r) (hv : Utf8.valid comma = true) (hm : MaxAt w0) (hb : Below w0.heap.size w0 w) (hbd : BldAt w0.heap.size b t w) (hs : ∀ s ∈ r, s.length < 4294967281) (hlen : ∀ j, j ≤ r.length → t.length + (partQ (Csv.enc comma) 0 (r.take j)).length + 4 ≤ 140737488355328) :
    tbIn.wp Tryz.prog (NPost fun a w' => ∃ l', a = Fr 42 l' f ∧ TF l' f v comma e b n ∧ lk l' f 16 = .int .i64 (i : Int) ∧ Below w0.heap.size w w' ∧ BldAt w0.heap.size b (t ++ partQ (Csv.enc comma) 0 r) w') (Fr 42 l f) w := by
  unfold tbIn
  obtain ⟨A0, c0, hv0, hrl, hrx⟩ := id hr
  have hA0 : A = A0 := by injection hv0
  refine wp_block ?_
  refine wp_loop_n (fun k a w' => ∃ l', a = Fr 42 l' f ∧ TF l' f v comma e b n ∧ lk l' f 16 = .int .i64 (i : Int) ∧ lk l' f 20 = .slice A r.length uc ∧ lk l' f 21 = .int .i64 (r.length : Int) ∧ lk l' f 22 = .int .i64 ((r.length - k : Nat) : Int) ∧ k ≤ r.length ∧ Below w0.heap.size w w' ∧ BldAt w0.heap.size b (t ++ partQ (Csv.enc comma) 0 (r.take (r.length - k))) w') r.length ⟨l, rfl, hF, h16, h20, h21, by rw [Nat.sub_self]; exact h22, Nat.le_refl _, Below.refl _ _, by rw [Nat.sub_self]; simpa [partQ] using hbd⟩ ?_
  rintro k a w1 ⟨l1, rfl, hF1, g16, g20, g21, g22, hk, hb1, hbd1⟩
  refine seq_part (tb_p6 w1 l1 f (r.length - k) r.length g22 g21) ?_
  rintro x w2 ⟨l2, rfl, K2, rfl⟩
  have q : ∀ k', tV.contains k' = true → lk ((23, .bool (decide (r.length - k < r.length))) :: l2) f k' = lk l1 f k' := fun k' hk' => by
    rw [lk_ne _ _ _ _ _ (by simp only [beq_eq_false_iff_ne, ne_eq]; intro e; subst e; cases hk'), K2 k' hk' rfl]
  have hF2 : TF ((23, .bool (decide (r.length - k < r.length))) :: l2) f v comma e b n := hF1.keep (fun k' a _ => q k' a)
  have q23 : lk ((23, .bool (decide (r.length - k < r.length))) :: l2) f 23 = .bool (decide (r.length - k < r.length)) := by simp [lk]
  have q16 := (q 16 rfl).trans g16
  have q20 := (q 20 rfl).trans g20
  have q21 := (q 21 rfl).trans g21
  have q22 := (q 22 rfl).trans g22
  clear q
  revert hF2 q23 q16 q20 q21 q22
  generalize (23, Value.bool (decide (r.length - k < r.length))) :: l2 = l3
  intro hF2 q23 q16 q20 q21 q22
  by_cases hlt : r.length - k < r.length
  · rw [decide_eq_true hlt] at q23
    refine seq_part (R := fun a w => a = Fr 42 l3 f ∧ w = w2) (wp_if_true rfl q23 (wp_skip (NPost.mk ⟨rfl, rfl⟩))) ?_
    rintro a w3 ⟨rfl, rfl⟩
    have hb03 := hb.trans hb1
    obtain ⟨ub, uo, hA, hub, hcell⟩ := hrx (Nat.lt_of_le_of_lt (Nat.zero_le _) hlt)
    have hAe : A = some ⟨ub, uo, none⟩ := hA0.trans hA
    subst hAe
    have hj := hcell (r.length - k) _ (List.getElem?_eq_getElem hlt)
    have hj3 := (hb03.cell (p := ⟨ub, uo + (r.length - k), none⟩) hub).trans hj
    have hst := part_step (Csv.enc comma) hlt
    have hle := hlen (r.length - k + 1) (by omega)
    rw [hst] at hle
    simp only [List.length_append] at hle
    refine seq_part (tb_field (w0 := w0) hF2 q16 q20 q21 q22 hlt hj3 hv hm rfl hb03 hbd1 (hs _ (List.getElem_mem _)) ?_) ?_
    · simp only [List.length_append]
      have h0 := hlen (r.length - k) (by omega)
      omega
    rintro x w4 ⟨l4, rfl, hF4, u16, u20, u21, u22, hb4, hbd4⟩
    refine last_part (tb_p13 w4 l4 f (r.length - k) u22 (by omega)) ?_
    rintro x w5 ⟨l5, rfl, K5, rfl⟩
    have e5 := sub_pred hlt hk
    refine ⟨k - 1, pred_lt hlt, _, rfl, (hF4.keep (K5.mono (S' := tS) (fun _ _ => rfl))).put (by decide), ?_, ?_, ?_, ?_, pred_le hk, hb1.trans hb4, ?_⟩
    · rw [lk_ne _ _ _ _ _ rfl, K5 16 rfl rfl, u16]
    · rw [lk_ne _ _ _ _ _ rfl, K5 20 rfl rfl, u20]
    · rw [lk_ne _ _ _ _ _ rfl, K5 21 rfl rfl, u21]
    · rw [e5]; simp only [lk, if_true]
    · rw [e5, hst, ← List.append_assoc]; exact hbd4
  · rw [decide_eq_false hlt] at q23
    have e := sub_same hlt
    rw [e, List.take_length] at hbd1
    refine wp_seq (wp_if_false rfl q23 (wp_exit ?_))
    simp only [Exit.then, Exit.inBlock, if_true]
    exact NPost.mk ⟨l3, rfl, hF2, q16, hb1, hbd1⟩
/-- table: the text of a table, quoted. -/
theorem table_any (w : World) (v : Value) (rows : List (List (List UInt8))) (comma : Int) (e : List UInt8) (h : RowsIn w v rows) (hv : Utf8.valid comma = true) (he : e ≠ []) (hm : MaxAt w) (hs : ∀ r ∈ rows, ∀ s ∈ r, s.length < 4294967281) (hlen : (tableL (Csv.enc comma) e rows).length + 8 ≤ 140737488355328) :
    Calls Tryz.prog 14 [v, .int .i32 comma, .string ⟨e.toArray⟩, .bool true].toArray w fun x w' => x = .returned (.string ⟨(tableL (Csv.enc comma) e rows).toArray⟩) ∧ Below w.heap.size w w' := by
  obtain ⟨A, c, hvv, hl, _⟩ := id h
  rw [hvv]
  refine enter 42 Tryz.func14 rfl rfl (by simp) ?_
  show tbBody.wp _ _ _ _
  rw [tb_eq]
  refine seq_part (tb_p0 w _ _) ?_
  rintro x w1 ⟨rfl, rfl⟩
  refine seq_part (tb_p1 w1 _ _) ?_
  rintro x w2 ⟨rfl, rfl⟩
  have hb2 : Below w1.heap.size w1 (w1.alloc (.cells #[.pointer none, .slice none 0 0] 90)) := (Below.refl _ w1).alloc (Nat.le_refl _) _
  have hbd2 := BldAt.new w1
  revert hb2 hbd2
  generalize w1.alloc (.cells #[.pointer none, .slice none 0 0] 90) = w2
  intro hb2 hbd2
  refine seq_part (R := fun a w' => ∃ l', a = Fr 42 l' (fun _ => undef) ∧ lk l' (fun _ => undef) 9 = .pointer (some ⟨w1.heap.size, 0, none⟩) ∧ Below w1.heap.size w1 w' ∧ BldAt w1.heap.size w1.heap.size (tableL (Csv.enc comma) e rows) w') ?_ ?_
  · refine seq_part (tb_p2 w2 _ _ A rows.length c (by simp [lk])) ?_
    rintro x w3 ⟨l3, rfl, K3, k14, k15, k16, rfl⟩
    have hF3 : TF l3 (fun _ => undef) (.slice A rows.length c) comma e w1.heap.size rows.length :=
      ⟨(K3 1 rfl rfl).trans (by simp [lk]), (K3 2 rfl rfl).trans (by simp [lk]), (K3 3 rfl rfl).trans (by simp [lk]), (K3 9 rfl rfl).trans (by simp [lk]), k14, k15⟩
    unfold tbOut
    refine wp_block ?_
    refine wp_loop_n (fun k a w' => ∃ l', a = Fr 42 l' (fun _ => undef) ∧ TF l' (fun _ => undef) (.slice A rows.length c) comma e w1.heap.size rows.length ∧ lk l' (fun _ => undef) 16 = .int .i64 ((rows.length - k : Nat) : Int) ∧ k ≤ rows.length ∧ Below w1.heap.size w1 w' ∧ BldAt w1.heap.size w1.heap.size (tableL (Csv.enc comma) e (rows.take (rows.length - k))) w') rows.length ⟨l3, rfl, hF3, by rw [Nat.sub_self]; exact k16, Nat.le_refl _, hb2, by rw [Nat.sub_self]; exact hbd2⟩ ?_
    rintro k a w4 ⟨l4, rfl, hF4, g16, hk, hb4, hbd4⟩
    refine seq_part (tb_p3 w4 l4 _ (rows.length - k) rows.length g16 hF4.h15) ?_
    rintro x w5 ⟨l5, rfl, K5, rfl⟩
    have hF5 : TF ((17, .bool (decide (rows.length - k < rows.length))) :: l5) (fun _ => undef) (.slice A rows.length c) comma e w1.heap.size rows.length := (hF4.keep (K5.mono (S' := tS) (fun _ _ => rfl))).put (by decide)
    have q17 : lk ((17, .bool (decide (rows.length - k < rows.length))) :: l5) (fun _ => undef) 17 = .bool (decide (rows.length - k < rows.length)) := by simp [lk]
    have q16 : lk ((17, .bool (decide (rows.length - k < rows.length))) :: l5) (fun _ => undef) 16 = .int .i64 ((rows.length - k : Nat) : Int) := by rw [lk_ne _ _ _ _ _ rfl, K5 16 rfl rfl, g16]
    revert hF5 q17 q16
    generalize (17, Value.bool (decide (rows.length - k < rows.length))) :: l5 = l6
    intro hF5 q17 q16
    by_cases hlt : rows.length - k < rows.length
    · rw [decide_eq_true hlt] at q17
      refine seq_part (R := fun a w => a = Fr 42 l6 (fun _ => undef) ∧ w = w5) (wp_if_true rfl q17 (wp_skip (NPost.mk ⟨rfl, rfl⟩))) ?_
      rintro a w6 ⟨rfl, rfl⟩
      obtain ⟨rb, ro, rc, u, A', uc, hv', hcell, hstr, hu, hrb⟩ := h.at hlt
      rw [hvv] at hv'
      injection hv' with e1 _ e2
      subst e1 e2 hu
      have hcell6 := (hb4.cell (p := ⟨rb, ro + (rows.length - k), none⟩) hrb).trans hcell
      refine seq_part (R := fun a w' => ∃ l', a = Fr 42 l' (fun _ => undef) ∧ TF l' (fun _ => undef) (.slice (some ⟨rb, ro, none⟩) rows.length c) comma e w1.heap.size rows.length ∧ lk l' (fun _ => undef) 16 = .int .i64 ((rows.length - k : Nat) : Int) ∧ Below w1.heap.size w6 w' ∧ BldAt w1.heap.size w1.heap.size (tableL (Csv.enc comma) e (rows.take (rows.length - k + 1))) w') (block_part (seq_part (tb_p4 w6 l6 _ rb ro (rows.length - k) rows.length c A' _ uc q16 hF5.h14 hlt hcell6) ?_)) ?_
      · rintro x w7 ⟨l7, rfl, K7, rfl⟩
        have hF7 := (hF5.keep (K7.mono (S' := tS) (fun _ _ => rfl))).put (k := 11) (u := .slice A' rows[rows.length - k].length uc) (by decide)
        refine seq_part (R := fun a w' => ∃ l', a = Fr 42 l' (fun _ => undef) ∧ TF l' (fun _ => undef) (.slice (some ⟨rb, ro, none⟩) rows.length c) comma e w1.heap.size rows.length ∧ lk l' (fun _ => undef) 16 = .int .i64 ((rows.length - k : Nat) : Int) ∧ Below w1.heap.size w7 w' ∧ BldAt w1.heap.size w1.heap.size (tableL (Csv.enc comma) e (rows.take (rows.length - k)) ++ partQ (Csv.enc comma) 0 rows[rows.length - k]) w') (seq_part (tb_p5 w7 _ _ A' _ uc (lk_same _ _ _ _)) ?_) ?_
        · rintro x w8 ⟨l8, rfl, K8, k20, k21, k22, rfl⟩
          have hF8 := hF7.keep (K8.mono (S' := tS) (by intro k; simp <;> omega))
          refine last_part (tb_inner hF8 (by rw [K8 16 rfl rfl, lk_ne _ _ _ _ _ rfl, K7 16 rfl rfl, q16]) k20 k21 k22 hstr hv hm hb4 hbd4 (hs _ (List.getElem_mem _)) ?_) ?_
          · intro j _
            have := part_le (Csv.enc comma) e hlt j
            omega
          · rintro x w9 ⟨l9, rfl, hF9, g9, hb9, hbd9⟩
            exact NPost.mk ⟨l9, rfl, hF9, g9, hb9, hbd9⟩
        · rintro x w8 ⟨l8, rfl, hF8, g8, hb8, hbd8⟩
          have hb08 := hb4.trans hb8
          have hsz := step_le (Csv.enc comma) e hlt
          rw [table_step _ _ hlt, List.length_append] at hsz
          refine last_part (tb_p14 w1.heap.size w8 l8 _ ⟨e.toArray⟩ _ _ hF8.h2 hF8.h9 (WriteString_any w1.heap.size w1.heap.size _ e w8 hbd8 (by omega) hb08.size he)) ?_
          rintro x w9 ⟨l9, rfl, K9, hbd9, hb9⟩
          refine NPost.mk ⟨l9, rfl, hF8.keep (K9.mono (S' := tS) (fun _ _ => rfl)), (K9 16 rfl rfl).trans g8, hb8.trans hb9, ?_⟩
          rw [table_step _ _ hlt]; exact hbd9
      · rintro x w7 ⟨l7, rfl, hF7, g7, hb7, hbd7⟩
        refine last_part (tb_p15 w7 l7 _ (rows.length - k) g7 (by omega)) ?_
        rintro x w8 ⟨l8, rfl, K8, rfl⟩
        have e5 := sub_pred hlt hk
        refine ⟨k - 1, pred_lt hlt, _, rfl, (hF7.keep (K8.mono (S' := tS) (fun _ _ => rfl))).put (by decide), ?_, pred_le hk, hb4.trans hb7, ?_⟩
        · rw [e5]; simp only [lk, if_true]
        · rw [e5]; exact hbd7
    · rw [decide_eq_false hlt] at q17
      have e5 := sub_same hlt
      rw [e5, List.take_length] at hbd4
      refine wp_seq (wp_if_false rfl q17 (wp_exit ?_))
      simp only [Exit.then, Exit.inBlock, if_true]
      exact NPost.mk ⟨l6, rfl, hF5.h9, hb4, hbd4⟩
  rintro x w3 ⟨l3, rfl, k9, hb3, hbd3⟩
  refine seq_part (tb_p16 w1.heap.size w3 l3 _ _ _ k9 (BuilderString_any w1.heap.size w1.heap.size _ w3 hbd3)) ?_
  rintro x w4 ⟨l4, rfl, hb4⟩
  exact wp_ret (ret1 rfl rfl ⟨by simp [lk], hb3.trans hb4⟩)
end Go.Proofs.YtfadgnopfjajbaaGreatDoor
namespace Go.Proofs.YtfadgnopfjajbaaGreatDoor
open Go.RowKit
section
variable {P : Program} {Q : Exit → Act → World → Prop} {S : World → Prop} {late : List Nat}
/-- Do just the operations i and j come up now? -/
def twoB (ops : Array Oper) (came : List Nat) (i j : Nat) : Bool :=
  decide (came.length < ops.size) && decide (Region.ready .any ops (marked ops.size came) = [i, j])
theorem wpOp_of_list {l : List Oper} {K : Act → World → Prop} {a : Act} {w : World} (i : Nat) (o : Oper) (ho : l[i]? = some o) (h : wpList P l.toArray (Exit.then K Q) [o] a w) : wpOp P l.toArray Q i K a w := by
  have hi : l.toArray[i]? = some o := by simpa using ho
  unfold wpOp
  simp only [hi]
  simp only [wpList] at h
  split
  · rename_i hw
    rw [if_pos hw] at h
    rcases h with h | ⟨h1, a0, w0, h2⟩
    · refine .inl ?_
      unfold Oper.wp at h ⊢
      generalize (execOp a.eval o).run P w = r at h ⊢
      cases r with
      | ok n w' =>
        cases n <;> simp only [Oper.upon, Exit.then] at h ⊢ <;> exact h
      | halt x w' => cases x <;> simp only [Oper.upon, Exit.then] at h ⊢ <;> exact h
    · exact .inr ⟨h1, a0, w0, h2⟩
  · rename_i hw
    rw [if_neg hw] at h
    exact h
theorem held_two {l : List Oper} {came : List Nat} {a : Act} {w : World} (i j : Nat) (o p : Oper) (ho : l[i]? = some o) (hp : l[j]? = some p) (hB : twoB l.toArray came i j = true)
    (h : wpList P l.toArray (Exit.then (fun a' w' => (late.contains i = false → S w') ∧ HeldAt P l.toArray Q S late (i :: came) a' w') Q) [o] a w)
    (h' : wpList P l.toArray (Exit.then (fun a' w' => (late.contains j = false → S w') ∧ HeldAt P l.toArray Q S late (j :: came) a' w') Q) [p] a w) : HeldAt P l.toArray Q S late came a w := by
  simp only [twoB, Bool.and_eq_true, decide_eq_true_eq] at hB
  obtain ⟨hlen, hready⟩ := hB
  unfold HeldAt at h h' ⊢
  have e : l.toArray.size - came.length = (l.toArray.size - (i :: came).length) + 1 := by simp at hlen ⊢; omega
  have e' : (l.toArray.size - (j :: came).length) = (l.toArray.size - (i :: came).length) := by simp
  rw [e' ] at h'
  rw [e]
  refine ⟨fun h0 => (by rw [hready] at h0; cases h0), fun k hk => ?_⟩
  rw [hready] at hk
  simp only [marked_cons] at h h'
  rcases List.mem_cons.1 hk with rfl | hk
  · exact wpOp_of_list k o ho h
  · have : k = j := by simpa using hk
    subst this
    exact wpOp_of_list k p hp h'
end
noncomputable def fdBody : Code := (Tryz.f13.body).getD .skip
noncomputable def fd0 : Code := part [false] fdBody
noncomputable def fd1 : Code := part [true, false] fdBody
noncomputable def fd2 : Code := part [true, true, false] fdBody
noncomputable def fd3 : Code := part [true, true, true, false, false] fdBody
noncomputable def fd4 : Code := part [true, true, true, false, true, false, false] fdBody
noncomputable def fd5 : Code := part [true, true, true, true, false, false] fdBody
noncomputable def fd6 : Code := part [true, true, true, true, false, true, false, false, false] fdBody
noncomputable def fd7 : Code := part [true, true, true, true, false, true, false, false, true, true, false, false, false] fdBody
noncomputable def fd8 : Code := part [true, true, true, true, false, true, false, false, true, true, false, false, true, false] fdBody
noncomputable def fd9 : Code := part [true, true, true, true, false, true, false, false, true, true, false, false, true, true, false, false] fdBody
noncomputable def fd10 : Code := part [true, true, true, true, false, true, false, false, true, true, true] fdBody
noncomputable def fd11 : Code := part [true, true, true, true, true, false] fdBody
set_option maxRecDepth 100000 in
theorem fd_eq : fdBody = Code.seq fd0 (.seq fd1 (.seq fd2 (.seq (.seq fd3 (.cond (.tmp 76) (.seq fd4 .ret) .skip)) (.seq (.seq fd5 (.block 0 (.loop (.seq fd6 (.seq (.cond (.tmp 80) .skip (.exit 0)) (.seq (.block 1 (.seq fd7 (.seq fd8 (.cond (.tmp 112) (.seq fd9 .ret) .skip)))) fd10)))))) (.seq fd11 .ret))))) := by kernel_rfl
abbrev fV : List Nat := [0, 2, 4, 7, 8, 9, 10, 77, 78, 79]
set_option maxRecDepth 100000 in
theorem fd_p0 (w : World) (l : List (Nat × Value)) (f : Nat → Value) (comma comment expect : Int) (lz tr re : Bool) (h1 : lk l f 1 = .agg (optCells comma comment expect lz tr re).toArray) :
    fd0.wp Tryz.prog (NPost fun a w' => ∃ l', a = Fr 114 l' f ∧ VKeeps fV [4] l f l' ∧ lk l' f 4 = .pointer (some ⟨w.heap.size, 0, none⟩) ∧ Below w.heap.size w w' ∧ Blk w' w.heap.size 26 (optCells comma comment expect lz tr re)) (Fr 114 l f) w := by
  dsimp only [fd0, fdBody, part, part.sub2', sub1, sub2, Tryz.f13, Option.getD]
  dsimp only [optCells] at h1
  go_wp
  exact NPost.mk ⟨_, rfl, (by repeat first | exact VKeeps.refl _ _ _ _ | refine VKeeps.far (by decide) ?_ | refine VKeeps.set (by decide) ?_), by simp [lk], (Below.refl _ w).alloc (Nat.le_refl _) _, Blk.new_arr w _ _⟩
set_option maxRecDepth 100000 in
/-- A script that ends with ReadAll. -/
theorem append_call (w : World) (B : Nat) (ty : TypeId) (n g1 g2 : Nat) (h1 : Blk w g1 68 (List.replicate (n * 2) (.int .i64 0))) (h2 : Blk w g2 68 [.int .i64 1, .int .i64 0]) (hB1 : B ≤ g1) (hB : B ≤ w.heap.size) (hn : n < 1000000000) :
    ∃ v' w', (Builtin.append_ #[27, 27] ty #[.slice (some ⟨g1, 0, none⟩) n n, .slice (some ⟨g2, 0, none⟩) 1 1]).run Tryz.prog w = .ok v' w' ∧ w'.ownsRow B 68 2 v' (n + 1) (List.replicate (n * 2) (.int .i64 0) ++ [.int .i64 1, .int .i64 0]) ∧ Below B w w' := by
  cases hi : Tryz.prog.info? 68 with
  | none => have := info_Call; rw [hi] at this; cases this
  | some i =>
    have h := info_Call
    rw [hi] at h
    simp only [Option.map_some, Option.some.injEq, Prod.mk.injEq] at h
    obtain ⟨hz, hs, hb⟩ := h
    have hown : w.ownsRow B 68 2 (.slice (some ⟨g1, 0, none⟩) n n) n (List.replicate (n * 2) (.int .i64 0)) :=
      ⟨by simp, .inr ⟨g1, n, _, rfl, hB1, h1, Nat.le_refl _, by simp only [maxLen]; omega, by simp, by simp⟩⟩
    obtain ⟨v', w', k1, k2, k3, k4, k5⟩ := run_append_own_at (P := Tryz.prog) w B 27 ty 68 i _ 2 16 Tryz.underlying27 hi hz hs hb rfl (by omega) (.slice (some ⟨g1, 0, none⟩) n n) n _ hown ⟨g2, 0, none⟩ 1 1 [.int .i64 1, .int .i64 0] (by simp)
      (fun j u hu => by
        rw [Addr.add_mk, Nat.zero_add, h2.cell j]
        exact hu)
      (fun u hu => by simp at hu; rcases hu with rfl | rfl <;> rfl) (by simp only [maxLen]; omega) (by omega) hB
    refine ⟨v', w', k1, k2, ?_⟩
    have := (Only.refl (fun q => q = g1) w).grown k3 (fun q hq _ => by
      have : some g1 = some q := hq
      injection this with this; exact this.symm)
    exact this.below hB (fun k hk => by omega)
/-- Such a script in memory. -/
theorem script_all {w : World} {B n : Nat} {v : Value} (h : w.ownsRow B 68 2 v (n + 1) (List.replicate (n * 2) (.int .i64 0) ++ [.int .i64 1, .int .i64 0])) : ScriptIn w (readsL n ++ [⟨1, 0⟩]) v := by
  obtain ⟨A, c, hv, h1, h2, h3, h4⟩ := ownsRow_form h
  refine ⟨A, c, by rw [hv]; simp [readsL], fun _ => ?_⟩
  cases hA : A with
  | none => have := (h3 hA).1; omega
  | some a =>
    obtain ⟨g, rfl, _, hg⟩ := h4 a hA
    refine ⟨g, 0, rfl, hg, fun i cal hi => ?_⟩
    rw [hv, hA] at h
    have key : ∀ (k : Nat) (u : Value), (List.replicate (n * 2) (Value.int .i64 0) ++ [.int .i64 1, .int .i64 0])[k]? = some u → w.cell? ⟨g, 0 + k, none⟩ = some u := fun k u hu => by
      have := World.ownsRow.cells h (g := g) rfl k u hu
      rw [Addr.add_mk] at this
      exact this
    have hl : (readsL n).length = n := by simp [readsL]
    by_cases hin : i < n
    · rw [List.getElem?_append_left (by omega)] at hi
      simp only [readsL, List.getElem?_replicate] at hi
      rw [if_pos hin] at hi
      injection hi with hi
      subst hi
      refine ⟨key (i * 2) _ ?_, ?_⟩
      · rw [List.getElem?_append_left (by simp; omega), List.getElem?_replicate, if_pos (by omega)]
      · have := key (i * 2 + 1) (.int .i64 0) (by rw [List.getElem?_append_left (by simp; omega), List.getElem?_replicate, if_pos (by omega)])
        rw [Nat.add_assoc]; exact this
    · rw [List.getElem?_append_right (by omega), hl] at hi
      have hi0 : i = n := by
        rcases Nat.eq_zero_or_pos (i - n) with h0 | h0
        · omega
        · rw [List.getElem?_eq_none (by simp; omega)] at hi; cases hi
      subst hi0
      rw [Nat.sub_self] at hi
      injection hi with hi
      subst hi
      refine ⟨key (i * 2) _ ?_, ?_⟩
      · rw [List.getElem?_append_right (by simp)]; simp
      · have := key (i * 2 + 1) (.int .i64 0) (by rw [List.getElem?_append_right (by simp)]; simp)
        rw [Nat.add_assoc]; exact this
end Go.Proofs.YtfadgnopfjajbaaGreatDoor
namespace Go.Proofs.YtfadgnopfjajbaaGreatDoor
open Go.RowKit
theorem drew_below (w : World) : Below w.heap.size w w.drew := ⟨rfl, rfl, rfl, Nat.le_refl _, fun _ _ => rfl⟩
set_option maxRecDepth 100000 in
set_option maxHeartbeats 1000000 in
theorem fd_p1 (w : World) (l : List (Nat × Value)) (f : Nat → Value) (ob n cv : Nat) (s : ByteArray) (A : Option Addr) (comma comment expect : Int) (lz tr re : Bool) (R : Value → World → Prop) (h0 : lk l f 0 = .string s) (h2 : lk l f 2 = .slice A n cv) (h4 : lk l f 4 = .pointer (some ⟨ob, 0, none⟩)) (hob : Blk w ob 26 (optCells comma comment expect lz tr re)) (hn : n < 300000000)
    (hR : ∀ w1 sv, Below w.heap.size w w1 → ScriptIn w1 (readsL (n + 1) ++ [⟨1, 0⟩]) sv → Calls Tryz.prog 6 #[.agg #[.string s, .slice none 0 0, .bool false], .agg #[.int .i32 comma, .int .i32 comment, .int .i64 expect, .bool lz, .bool tr, .bool re], sv] w1 fun e w' => ∃ av, e = .returned av ∧ R av w' ∧ Below w1.heap.size w1 w') :
    fd1.wp Tryz.prog (NPost fun a w' => ∃ l' av, a = Fr 114 ((7, av) :: l') f ∧ VKeeps fV [] l f l' ∧ R av w' ∧ Blk w' ob 26 (optCells comma comment expect lz tr re) ∧ Below w.heap.size w w') (Fr 114 l f) w := by
  dsimp only [fd1, fdBody, part, part.sub2', sub1, sub2, Tryz.f13, Option.getD]
  have HR := Lib.hid hR
  have hobl := hob.lt
  refine held_start (fun w' => Blk w' ob 26 (optCells comma comment expect lz tr re)) [] mixed ?_
  have hS0 : Blk w.drew ob 26 (optCells comma comment expect lz tr re) := hob
  have hb0 := drew_below w
  clear hR hob
  refine take 0 _ _ ?tv1 rfl rfl (by kernel_rfl) hS0 (by intro c a d v w h; cases d <;> exact h) ?th1 ?tn1
  case th1 => intro w' hS K hK; have hc := Blk.cell hS; unfold optCells at hc; go_simp; exact hK
  refine take 1 _ _ ?tv2 rfl rfl (by kernel_rfl) hS0 (by intro c a d v w h; cases d <;> exact h) ?th2 ?tn2
  case th2 => intro w' hS K hK; have hc := Blk.cell hS; unfold optCells at hc; go_simp; exact hK
  refine take 2 _ _ ?tv3 rfl rfl (by kernel_rfl) hS0 (by intro c a d v w h; cases d <;> exact h) ?th3 ?tn3
  case th3 => intro w' hS K hK; have hc := Blk.cell hS; unfold optCells at hc; go_simp; exact hK
  refine take 3 _ _ ?tv4 rfl rfl (by kernel_rfl) hS0 (by intro c a d v w h; cases d <;> exact h) ?th4 ?tn4
  case th4 => intro w' hS K hK; have hc := Blk.cell hS; unfold optCells at hc; go_simp; exact hK
  refine take 4 _ _ ?tv5 rfl rfl (by kernel_rfl) hS0 (by intro c a d v w h; cases d <;> exact h) ?th5 ?tn5
  case th5 => intro w' hS K hK; have hc := Blk.cell hS; unfold optCells at hc; go_simp; exact hK
  refine take 5 _ _ ?tv6 rfl rfl (by kernel_rfl) hS0 (by intro c a d v w h; cases d <;> exact h) ?th6 ?tn6
  case th6 => intro w' hS K hK; have hc := Blk.cell hS; unfold optCells at hc; go_simp; exact hK
  refine take 7 _ _ ?tv7 rfl rfl (by kernel_rfl) hS0 (by intro c a d v w h; cases d <;> exact h) ?th7 ?tn7
  case th7 => intro w' hS K hK; have hc := Blk.cell hS; unfold optCells at hc; go_simp; exact hK
  refine held_two 6 8 _ _ rfl rfl (by kernel_rfl) ?_ ?_
  · have HD := Lib.hid (reads_any w.drew (n + 1) (by omega))
    go_wp
    refine HD.out.mono ?_
    rintro e w1 ⟨rfl, hb1, hk1⟩
    clear HD
    have hb01 := hb0.trans (hb1.mono hb0.size)
    have hS1 := hS0.below hb1 hS0.lt
    have hsz1 := hb1.size
    have H1 := Lib.hid (And.intro hb01 (And.intro hS1 (And.intro hk1 hsz1)))
    clear hb1 hk1 hb01 hS1 hsz1 hb0 hS0
    dsimp only
    go_wp
    refine ⟨fun _ => H1.out.2.1, ?_⟩
    refine held_alone 8 _ rfl (by kernel_rfl) ?_
    go_wp
    obtain ⟨hb01, hS1, hk1, hsz1⟩ := H1.out
    have hS2 : Blk (w1.alloc (.cells #[.int .i64 1, .int .i64 0] 68)) ob 26 (optCells comma comment expect lz tr re) := hS1.alloc _
    refine ⟨fun _ => hS2, ?_⟩
    have b1 : Blk (w1.alloc (.cells #[.int .i64 1, .int .i64 0] 68)) w.drew.heap.size 68 (List.replicate ((n + 1) * 2) (.int .i64 0)) := hk1.alloc _
    have b2 : Blk (w1.alloc (.cells #[.int .i64 1, .int .i64 0] 68)) w1.heap.size 68 [.int .i64 1, .int .i64 0] := Blk.new_arr w1 _ _
    have hb3 : Below w.heap.size w (w1.alloc (.cells #[.int .i64 1, .int .i64 0] 68)) := hb01.alloc hb01.size _
    have o1 : w.heap.size ≤ w.drew.heap.size := Nat.le_refl _
    clear H1 hb01 hS1 hk1 hsz1
    obtain ⟨g1, hg1⟩ : ∃ g1, g1 = w.heap.size := ⟨_, rfl⟩
    obtain ⟨g2, hg2⟩ : ∃ g2, g2 = w1.heap.size := ⟨_, rfl⟩
    rw [← hg2] at b2
    have b1 : Blk (w1.alloc (.cells #[.int .i64 1, .int .i64 0] 68)) g1 68 (List.replicate ((n + 1) * 2) (.int .i64 0)) := by rw [hg1]; exact b1
    have o1 : w.heap.size ≤ g1 := by omega
    generalize hl3 : (19, _) :: (17, _) :: _ = l3
    generalize w1.alloc (.cells #[.int .i64 1, .int .i64 0] 68) = w3 at hS2 b1 b2 hb3 ⊢
    have e12 : lk l3 f 12 = .agg #[.string s, .slice none 0 0, .bool false] := by rw [← hl3]; simp [lk]
    have e13 : lk l3 f 13 = .agg #[.int .i32 comma, .int .i32 comment, .int .i64 expect, .bool lz, .bool tr, .bool re] := by rw [← hl3]; simp [lk]
    have e17 : lk l3 f 17 = .slice (some ⟨g1, 0, none⟩) (n + 1) (n + 1) := by rw [← hl3]; simp [lk, hg1]
    have e19 : lk l3 f 19 = .slice (some ⟨g2, 0, none⟩) 1 1 := by rw [← hl3]; simp [lk, hg2]
    have K3 : VKeeps fV [] l f l3 := by rw [← hl3]; exact (by repeat first | exact VKeeps.refl _ _ _ _ | refine VKeeps.far (by decide) ?_ | refine VKeeps.set (by decide) ?_)
    clear hl3 hg1 hg2
    obtain ⟨sv, w4, hrun, hrow, hb4⟩ := append_call w3 w.heap.size 27 (n + 1) g1 g2 b1 b2 o1 hb3.size (by omega)
    have hS4 := hS2.below hb4 hobl
    have hb04 := hb3.trans hb4
    have hscr := script_all hrow
    obtain ⟨A9, c9, hsv, _⟩ := ownsRow_form hrow
    have HR4 := Lib.hid (HR.out w4 sv hb04 hscr)
    rw [hsv] at hrun HR4
    have H4 := Lib.hid (And.intro hS4 hb04)
    clear hS4 hb04 hscr hrow hb4 b1 b2 o1 hb3 hsv hS2 HR
    refine held_alone 9 _ rfl (by kernel_rfl) ?_
    refine wl_append _ _ _ rfl rfl (by rw [Fr_eval _ _ _ _ rfl]; exact e17) (by rw [Fr_eval _ _ _ _ rfl]; exact e19) hrun ?_
    rw [Fr_put]
    simp only [wpList, Exit.then]
    refine ⟨fun _ => H4.out.1, ?_⟩
    clear hrun e17 e19
    refine held_alone 10 _ rfl (by kernel_rfl) ?_
    go_wp
    refine HR4.out.mono ?_
    rintro e w5 ⟨av, rfl, hr5, hb5⟩
    have hS5 := H4.out.1.below hb5 H4.out.1.lt
    have H5 := Lib.hid (And.intro hr5 (And.intro hS5 (H4.out.2.trans (hb5.mono H4.out.2.size))))
    clear hr5 hS5 hb5 HR4 H4
    dsimp only
    go_wp
    refine ⟨fun _ => H5.out.2.1, ?_⟩
    refine held_alone 11 _ rfl (by kernel_rfl) ?_
    go_wp
    refine ⟨fun _ => H5.out.2.1, ?_⟩
    refine held_done (by kernel_rfl) ?_
    exact NPost.mk ⟨_, av, rfl, VKeeps.far rfl (VKeeps.far rfl K3), H5.out.1, H5.out.2.1, H5.out.2.2⟩
  · go_wp
    have hS1 : Blk (w.drew.alloc (.cells #[.int .i64 1, .int .i64 0] 68)) ob 26 (optCells comma comment expect lz tr re) := hS0.alloc _
    have hb1 : Below w.heap.size w (w.drew.alloc (.cells #[.int .i64 1, .int .i64 0] 68)) := hb0.alloc hb0.size _
    have hk1 : Blk (w.drew.alloc (.cells #[.int .i64 1, .int .i64 0] 68)) w.heap.size 68 [.int .i64 1, .int .i64 0] := Blk.new_arr w.drew _ _
    refine ⟨fun _ => hS1, ?_⟩
    clear hS0 hb0
    obtain ⟨w1, hw1⟩ : ∃ w1, w1 = w.drew.alloc (.cells #[.int .i64 1, .int .i64 0] 68) := ⟨_, rfl⟩
    have hw1' : w1 = (w.alloc (.cells #[.int .i64 1, .int .i64 0] 68)).drew := hw1
    rw [← hw1] at hS1 hb1 hk1
    rw [← hw1']
    clear hw1 hw1'
    have H1 := Lib.hid (And.intro hS1 (And.intro hb1 hk1))
    have HD := Lib.hid (reads_any w1 (n + 1) (by omega))
    clear hS1 hb1 hk1
    refine held_alone 6 _ rfl (by kernel_rfl) ?_
    go_wp
    refine HD.out.mono ?_
    rintro e w3 ⟨rfl, hb31, b1⟩
    clear HD
    obtain ⟨hS1, hb1, hk1⟩ := H1.out
    have hS2 := hS1.below hb31 hS1.lt
    have b2 := hk1.below hb31 hk1.lt
    have hb3 := hb1.trans (hb31.mono hb1.size)
    have hsz := hb1.size
    have H2 := Lib.hid (And.intro hS2 (And.intro b1 (And.intro b2 (And.intro hb3 hsz))))
    clear H1 hS1 hb1 hk1 hb31 hS2 b1 b2 hb3 hsz
    dsimp only
    go_wp
    refine ⟨fun _ => H2.out.1, ?_⟩
    obtain ⟨hS2, b1, b2, hb3, hsz⟩ := H2.out
    clear H2
    obtain ⟨g1, hg1⟩ : ∃ g1, g1 = w1.heap.size := ⟨_, rfl⟩
    obtain ⟨g2, hg2⟩ : ∃ g2, g2 = w.heap.size := ⟨_, rfl⟩
    rw [← hg1] at b1
    rw [← hg2] at b2
    have o1 : w.heap.size ≤ g1 := by omega
    generalize hl3 : (17, _) :: (19, _) :: _ = l3
    have e12 : lk l3 f 12 = .agg #[.string s, .slice none 0 0, .bool false] := by rw [← hl3]; simp [lk]
    have e13 : lk l3 f 13 = .agg #[.int .i32 comma, .int .i32 comment, .int .i64 expect, .bool lz, .bool tr, .bool re] := by rw [← hl3]; simp [lk]
    have e17 : lk l3 f 17 = .slice (some ⟨g1, 0, none⟩) (n + 1) (n + 1) := by rw [← hl3]; simp [lk, hg1]
    have e19 : lk l3 f 19 = .slice (some ⟨g2, 0, none⟩) 1 1 := by rw [← hl3]; simp [lk, hg2]
    have K3 : VKeeps fV [] l f l3 := by rw [← hl3]; exact (by repeat first | exact VKeeps.refl _ _ _ _ | refine VKeeps.far (by decide) ?_ | refine VKeeps.set (by decide) ?_)
    clear hl3 hg1 hg2
    obtain ⟨sv, w4, hrun, hrow, hb4⟩ := append_call w3 w.heap.size 27 (n + 1) g1 g2 b1 b2 o1 hb3.size (by omega)
    have hS4 := hS2.below hb4 hobl
    have hb04 := hb3.trans hb4
    have hscr := script_all hrow
    obtain ⟨A9, c9, hsv, _⟩ := ownsRow_form hrow
    have HR4 := Lib.hid (HR.out w4 sv hb04 hscr)
    rw [hsv] at hrun HR4
    have H4 := Lib.hid (And.intro hS4 hb04)
    clear hS4 hb04 hscr hrow hb4 b1 b2 o1 hb3 hsv hS2 HR
    refine held_alone 9 _ rfl (by kernel_rfl) ?_
    refine wl_append _ _ _ rfl rfl (by rw [Fr_eval _ _ _ _ rfl]; exact e17) (by rw [Fr_eval _ _ _ _ rfl]; exact e19) hrun ?_
    rw [Fr_put]
    simp only [wpList, Exit.then]
    refine ⟨fun _ => H4.out.1, ?_⟩
    clear hrun e17 e19
    refine held_alone 10 _ rfl (by kernel_rfl) ?_
    go_wp
    refine HR4.out.mono ?_
    rintro e w5 ⟨av, rfl, hr5, hb5⟩
    have hS5 := H4.out.1.below hb5 H4.out.1.lt
    have H5 := Lib.hid (And.intro hr5 (And.intro hS5 (H4.out.2.trans (hb5.mono H4.out.2.size))))
    clear hr5 hS5 hb5 HR4 H4
    dsimp only
    go_wp
    refine ⟨fun _ => H5.out.2.1, ?_⟩
    refine held_alone 11 _ rfl (by kernel_rfl) ?_
    go_wp
    refine ⟨fun _ => H5.out.2.1, ?_⟩
    refine held_done (by kernel_rfl) ?_
    exact NPost.mk ⟨_, av, rfl, VKeeps.far rfl (VKeeps.far rfl K3), H5.out.1, H5.out.2.1, H5.out.2.2⟩
end Go.Proofs.YtfadgnopfjajbaaGreatDoor
namespace Go.Proofs.YtfadgnopfjajbaaGreatDoor
open Go.RowKit
set_option maxRecDepth 100000 in
theorem fd_p2 (w : World) (l : List (Nat × Value)) (f : Nat → Value) (ob : Nat) (s : ByteArray) (comma comment expect : Int) (lz tr re : Bool) (R : Value → World → Prop) (h0 : lk l f 0 = .string s) (h4 : lk l f 4 = .pointer (some ⟨ob, 0, none⟩)) (hob : Blk w ob 26 (optCells comma comment expect lz tr re))
    (hR : ∀ w1, Below w.heap.size w w1 → Blk w1 w.heap.size 68 [.int .i64 1, .int .i64 0] → Calls Tryz.prog 6 #[.agg #[.string s, .slice none 0 0, .bool false], .agg #[.int .i32 comma, .int .i32 comment, .int .i64 expect, .bool lz, .bool tr, .bool re], .slice (some ⟨w.heap.size, 0, none⟩) 1 1] w1 fun e w' => ∃ av, e = .returned av ∧ R av w') :
    fd2.wp Tryz.prog (NPost fun a w' => ∃ l' av, a = Fr 114 ((8, av) :: l') f ∧ VKeeps fV [] l f l' ∧ R av w') (Fr 114 l f) w := by
  dsimp only [fd2, fdBody, part, part.sub2', sub1, sub2, Tryz.f13, Option.getD]
  have hc := hob.cell
  dsimp only [optCells] at hc
  have HR := Lib.hid (hR _ ((Below.refl _ w).alloc (Nat.le_refl _) (.cells #[.int .i64 1, .int .i64 0] 68)) (Blk.new_arr w _ _))
  clear hR hob
  go_wp
  refine HR.out.mono ?_
  rintro e w1 ⟨av, rfl, hr⟩
  have H := Lib.hid hr
  clear hr HR hc
  dsimp only
  go_wp
  exact NPost.mk ⟨_, av, rfl, (by repeat first | exact VKeeps.refl _ _ _ _ | refine VKeeps.far (by decide) ?_ | refine VKeeps.set (by decide) ?_), H.out⟩
set_option maxRecDepth 100000 in
set_option maxHeartbeats 1000000 in
theorem fd_p3 (w : World) (l : List (Nat × Value)) (f : Nat → Value) (g7 c7 g8 c8 n cv : Nat) (A A8 A9 B1 B2 B3 : Option Addr) (c8' c9' m1 q1 m2 q2 m3 q3 : Nat) (k s ln cl a0 b0 : Int) (p : Bool) (x : Int) (h2 : lk l f 2 = .slice A n cv) (h7 : lk l f 7 = .slice (some ⟨g7, 0, none⟩) (n + 2) c7) (h8 : lk l f 8 = .slice (some ⟨g8, 0, none⟩) 1 c8) (hn : n < 300000000) (hg7 : g7 < w.heap.size)
    (e2 : w.cell? ⟨g8, 2, none⟩ = some (.slice A8 n c8')) (e3 : w.cell? ⟨g8, 3, none⟩ = some (.int .i64 0))
    (y0 : w.cell? ⟨g7, n * 11, none⟩ = some (.slice B1 m1 q1)) (y1 : w.cell? ⟨g7, n * 11 + 1, none⟩ = some (.slice B2 m2 q2)) (y2 : w.cell? ⟨g7, n * 11 + 2, none⟩ = some (.slice B3 m3 q3)) (y3 : w.cell? ⟨g7, n * 11 + 3, none⟩ = some (.int .i64 k)) (y4 : w.cell? ⟨g7, n * 11 + 4, none⟩ = some (.int .i64 s)) (y5 : w.cell? ⟨g7, n * 11 + 5, none⟩ = some (.int .i64 ln)) (y6 : w.cell? ⟨g7, n * 11 + 6, none⟩ = some (.int .i64 cl)) (y7 : w.cell? ⟨g7, n * 11 + 7, none⟩ = some (.int .i64 a0)) (y8 : w.cell? ⟨g7, n * 11 + 8, none⟩ = some (.int .i64 b0)) (y9 : w.cell? ⟨g7, n * 11 + 9, none⟩ = some (.bool p)) (y10 : w.cell? ⟨g7, n * 11 + 10, none⟩ = some (.int .i64 x))
    (z2 : w.cell? ⟨g7, (n + 1) * 11 + 2, none⟩ = some (.slice A9 0 c9'))
    (hR : Calls Tryz.prog 34 #[.agg #[.slice B1 m1 q1, .slice B2 m2 q2, .slice B3 m3 q3, .int .i64 k, .int .i64 s, .int .i64 ln, .int .i64 cl, .int .i64 a0, .int .i64 b0, .bool p, .int .i64 x]] w fun e w' => e = .returned (.bool true) ∧ Below w.heap.size w w') :
    fd3.wp Tryz.prog (NPost fun a w' => ∃ l', a = Fr 114 ((76, .bool false) :: l') f ∧ VKeeps fV [] l f l' ∧ Below w.heap.size w w') (Fr 114 l f) w := by
  dsimp only [fd3, fdBody, part, part.sub2', sub1, sub2, Tryz.f13, Option.getD]
  have HR := Lib.hid hR
  have HZ := Lib.hid (And.intro hg7 z2)
  clear hR z2 hg7
  go_wp
  refine HR.out.mono ?_
  rintro e w1 ⟨rfl, hb1⟩
  have z2 := (hb1.cell (p := ⟨g7, (n + 1) * 11 + 2, none⟩) HZ.out.1).trans HZ.out.2
  have H1 := Lib.hid hb1
  clear hb1 HR HZ e2 e3 y0 y1 y2 y3 y4 y5 y6 y7 y8 y9 y10
  dsimp only
  go_wp
  exact NPost.mk ⟨_, rfl, (by repeat first | exact VKeeps.refl _ _ _ _ | refine VKeeps.far (by decide) ?_ | refine VKeeps.set (by decide) ?_), H1.out⟩
set_option maxRecDepth 100000 in
theorem fd_p5 (w : World) (l : List (Nat × Value)) (f : Nat → Value) (A : Option Addr) (n c : Nat) (h2 : lk l f 2 = .slice A n c) : fd5.wp Tryz.prog (NPost fun a w' => ∃ l', a = Fr 114 l' f ∧ VKeeps fV [77, 78, 79] l f l' ∧ lk l' f 77 = .slice A n c ∧ lk l' f 78 = .int .i64 (n : Int) ∧ lk l' f 79 = .int .i64 ((0 : Nat) : Int) ∧ w' = w) (Fr 114 l f) w := by
  dsimp only [fd5, fdBody, part, part.sub2', sub1, sub2, Tryz.f13, Option.getD]
  go_wp
  exact NPost.mk ⟨_, rfl, (by repeat first | exact VKeeps.refl _ _ _ _ | refine VKeeps.far (by decide) ?_ | refine VKeeps.set (by decide) ?_), by simp [lk], by simp [lk], by simp [lk], rfl⟩
set_option maxRecDepth 100000 in
theorem fd_p6 (w : World) (l : List (Nat × Value)) (f : Nat → Value) (i n : Nat) (hx : lk l f 79 = .int .i64 (i : Int)) (hy : lk l f 78 = .int .i64 (n : Int)) : fd6.wp Tryz.prog (NPost fun a w' => ∃ l', a = Fr 114 ((80, .bool (decide (i < n))) :: l') f ∧ VKeeps fV [] l f l' ∧ w' = w) (Fr 114 l f) w := by
  dsimp only [fd6, fdBody, part, part.sub2', sub1, sub2, Tryz.f13, Option.getD]
  go_wp
  exact NPost.mk ⟨_, rfl, (by repeat first | exact VKeeps.refl _ _ _ _ | refine VKeeps.far (by decide) ?_ | refine VKeeps.set (by decide) ?_), rfl⟩
set_option maxRecDepth 100000 in
theorem fd_p7 (w : World) (l : List (Nat × Value)) (f : Nat → Value) (b o i n c : Nat) (A : Option Addr) (un uc : Nat) (h79 : lk l f 79 = .int .i64 (i : Int)) (h77 : lk l f 77 = .slice (some ⟨b, o, none⟩) n c) (hi : i < n) (hc : w.cell? ⟨b, o + i, none⟩ = some (.slice A un uc)) : fd7.wp Tryz.prog (NPost fun a w' => ∃ l', a = Fr 114 l' f ∧ VKeeps fV [9, 10] l f l' ∧ lk l' f 9 = .int .i64 (i : Int) ∧ lk l' f 10 = .slice A un uc ∧ w' = w) (Fr 114 l f) w := by
  dsimp only [fd7, fdBody, part, part.sub2', sub1, sub2, Tryz.f13, Option.getD]
  go_wp
  exact NPost.mk ⟨_, rfl, (by repeat first | exact VKeeps.refl _ _ _ _ | refine VKeeps.far (by decide) ?_ | refine VKeeps.set (by decide) ?_), by simp [lk], by simp [lk], rfl⟩
set_option maxRecDepth 100000 in
set_option maxHeartbeats 1000000 in
theorem fd_p8 (w : World) (l : List (Nat × Value)) (f : Nat → Value) (g7 c7 n7 g8 c8 rb n i : Nat) (A1 A2 A3 : Option Addr) (c8' n1 d1 n2 d2 n3 d3 : Nat) (h7 : lk l f 7 = .slice (some ⟨g7, 0, none⟩) n7 c7) (h8 : lk l f 8 = .slice (some ⟨g8, 0, none⟩) 1 c8) (h9 : lk l f 9 = .int .i64 (i : Int)) (h10 : lk l f 10 = .slice A3 n3 d3) (hi7 : i < n7) (hi : i < n)
    (e3 : w.cell? ⟨g7, i * 11 + 3, none⟩ = some (.int .i64 0)) (e0 : w.cell? ⟨g7, i * 11, none⟩ = some (.slice A1 n1 d1)) (y2 : w.cell? ⟨g8, 2, none⟩ = some (.slice (some ⟨rb, 0, none⟩) n c8')) (yr : w.cell? ⟨rb, i, none⟩ = some (.slice A2 n2 d2)) (hg8 : g8 < w.heap.size) (hrb : rb < w.heap.size)
    (hR1 : Calls Tryz.prog 23 #[.slice A1 n1 d1, .slice A3 n3 d3] w fun e w' => e = .returned (.bool true) ∧ Below w.heap.size w w')
    (hR2 : ∀ w1, Below w.heap.size w w1 → Calls Tryz.prog 23 #[.slice A2 n2 d2, .slice A3 n3 d3] w1 fun e w' => e = .returned (.bool true) ∧ Below w.heap.size w w') :
    fd8.wp Tryz.prog (NPost fun a w' => ∃ l', a = Fr 114 ((112, .bool false) :: l') f ∧ VKeeps fV [] l f l' ∧ Below w.heap.size w w') (Fr 114 l f) w := by
  dsimp only [fd8, fdBody, part, part.sub2', sub1, sub2, Tryz.f13, Option.getD]
  have HR1 := Lib.hid hR1
  have HR2 := Lib.hid hR2
  have HZ := Lib.hid (And.intro hg8 (And.intro hrb (And.intro y2 yr)))
  clear hR1 hR2 y2 yr hg8 hrb
  go_wp
  refine HR1.out.mono ?_
  rintro e w1 ⟨rfl, hb1⟩
  obtain ⟨hg8, hrb, y2, yr⟩ := HZ.out
  have y2' := (hb1.cell (p := ⟨g8, 2, none⟩) hg8).trans y2
  have yr' := (hb1.cell (p := ⟨rb, i, none⟩) hrb).trans yr
  have H2 := Lib.hid (HR2.out w1 hb1)
  clear hb1 HR1 HR2 HZ e3 e0 hg8 hrb y2 yr
  dsimp only
  go_wp
  refine H2.out.mono ?_
  rintro e w2 ⟨rfl, hb2⟩
  have H3 := Lib.hid hb2
  clear hb2 H2 y2' yr'
  dsimp only
  go_wp
  exact NPost.mk ⟨_, rfl, (by repeat first | exact VKeeps.refl _ _ _ _ | refine VKeeps.far (by decide) ?_ | refine VKeeps.set (by decide) ?_), H3.out⟩
set_option maxRecDepth 100000 in
theorem fd_p10 (w : World) (l : List (Nat × Value)) (f : Nat → Value) (i : Nat) (hx : lk l f 79 = .int .i64 (i : Int)) (hi : i < 9223372036854775807) : fd10.wp Tryz.prog (NPost fun a w' => ∃ l', a = Fr 114 ((79, .int .i64 ((i + 1 : Nat) : Int)) :: l') f ∧ VKeeps fV [] l f l' ∧ w' = w) (Fr 114 l f) w := by
  dsimp only [fd10, fdBody, part, part.sub2', sub1, sub2, Tryz.f13, Option.getD]
  go_wp
  exact NPost.mk ⟨_, rfl, (by repeat first | exact VKeeps.refl _ _ _ _ | refine VKeeps.far (by decide) ?_ | refine VKeeps.set (by decide) ?_), rfl⟩
set_option maxRecDepth 100000 in
theorem fd_p11 (w : World) (l : List (Nat × Value)) (f : Nat → Value) : fd11.wp Tryz.prog (NPost fun a w' => a = Fr 114 ((6, .bool true) :: l) f ∧ w' = w) (Fr 114 l f) w := by
  dsimp only [fd11, fdBody, part, part.sub2', sub1, sub2, Tryz.f13, Option.getD]
  go_wp
  exact NPost.mk ⟨rfl, rfl⟩
end Go.Proofs.YtfadgnopfjajbaaGreatDoor
namespace Go.Proofs.YtfadgnopfjajbaaGreatDoor
open Csv
/-- A step that meets no plain field. -/
def Meek (o : Opt) (s : St) : Prop := s.quoted = none → (s.trimmed o).line.head? = some 34
/-- The steps from s come to an outcome of q's and meet no plain field. -/
inductive Goes (o : Opt) (rec : Nat) (q : Out → Prop) : St → Prop
  | done {s : St} {u : Out} (hm : Meek o s) (hs : s.step o rec = .inr u) (hu : q u) : Goes o rec q s
  | next {s t : St} (hm : Meek o s) (hs : s.step o rec = .inl t) (h : Goes o rec q t) : Goes o rec q s
theorem Goes.meek {o : Opt} {rec : Nat} {s : St} {q : Out → Prop} (h : Goes o rec q s) : Meek o s := by cases h <;> assumption
theorem Goes.to {o : Opt} {rec : Nat} {s t : St} {q : Out → Prop} (h : Goes o rec q s) (r : Reach o rec s t) : Goes o rec q t := by
  induction r with
  | refl => exact h
  | next r hs ih =>
    cases ih with
    | done hm h1 => rw [hs] at h1; cases h1
    | next hm h1 h2 => rw [hs] at h1; cases h1; exact h2
theorem Goes.run {o : Opt} {rec : Nat} {s : St} {q : Out → Prop} (h : Goes o rec q s) : ∀ n, s.size ≤ n → q (s.run o rec n) := by
  induction h with
  | done hm hs hu =>
    intro n hn
    rw [(Reach.refl _).done hs n hn]; exact hu
  | next hm hs h ih =>
    intro n hn
    have h1 := (less_step hs).size
    obtain ⟨n, rfl⟩ : ∃ m, n = m + 1 := ⟨n - 1, by omega⟩
    simp only [St.run, hs]
    exact ih n (by omega)
/-- The parser stands at the text T. -/
structure At (T : Bytes) (s : St) : Prop where
  line : s.line = normLine (rawLine T).1
  left : s.src.left = (rawLine T).2
theorem norm_raw_app {x : Bytes} (h : NL ∉ x) (hl : x.getLast? ≠ some CR) (t : Bytes) : normLine (rawLine (x ++ t)).1 = x ++ normLine (rawLine t).1 := by
  rw [rawLine_app h]; exact normLine_app h hl
theorem raw_nl {x : Bytes} (h : NL ∉ x) (t : Bytes) : rawLine (x ++ NL :: t) = (x ++ [NL], t) := by
  rw [rawLine_app h]; simp [rawLine]
theorem Meek.quoted {o : Opt} {s : St} {p : Nat × Nat} (h : s.quoted = some p) : Meek o s := fun e => by rw [h] at e; cases e
/-- In a quoted field, up to the quote that closes it. -/
theorem field_goes {o : Opt} {rec : Nat} {q : Out → Prop} (p : Nat × Nat) (tail : Bytes) : ∀ (n : Nat) (s : Bytes), s.length ≤ n → ∀ (st : St), st.quoted = some p → At (dbl s ++ QU :: tail) st →
    (∀ (st' : St) (pc : Nat), st'.fields = st.fields → st'.quoted = some p → st'.src.left = (rawLine tail).2 → st'.src.numLine = st.src.numLine + s.count NL → st'.step o rec = st'.stepQuote o rec p (st.cur ++ unixL s) (normLine (rawLine tail).1) pc → Goes o rec q st') → Goes o rec q st := by
  intro n
  induction n with
  | zero =>
    intro s hs st hq hat hk
    obtain rfl : s = [] := by cases s; rfl; simp at hs
    have hl : st.line = QU :: normLine (rawLine tail).1 := by
      rw [hat.line]
      exact norm_raw_app (x := [QU]) (by simp [ndv]) (by simp [ndv]) tail
    refine hk st (st.pc + 0 + 1) rfl hq ?_ (by simp [ndv]) ?_
    · rw [hat.left]; show (rawLine ([QU] ++ tail)).2 = _; rw [rawLine_app (by simp [ndv])]
    · simp only [St.step, hq, St.stepOpen, hl, indexByte, if_true, List.take_zero, List.append_nil, unixL, List.drop_succ_cons, List.drop_zero]
  | succ n ih =>
    intro s hs st hq hat hk
    rcases cut_at s with ⟨h1, h2⟩ | ⟨x, b, t, rfl, h1, h2, hb⟩
    · have hd : dbl s = s := dbl_none h2
      rw [hd] at hat
      have hl : st.line = s ++ QU :: normLine (rawLine tail).1 := by
        rw [hat.line, show s ++ QU :: tail = (s ++ [QU]) ++ tail by simp, norm_raw_app (by simp [h1, ndv]) (by simp [ndv])]
        simp
      refine hk st (st.pc + s.length + 1) rfl hq ?_ (by rw [List.count_eq_zero.2 h1]; rfl) ?_
      · rw [hat.left, show s ++ QU :: tail = (s ++ [QU]) ++ tail by simp, rawLine_app (by simp [h1, ndv])]
      · have hu : unixL s = s := by have := unixL_app (x := s) (t := []) h1 (by simp [ndv]); simpa [unixL] using this
        simp only [St.step, hq, St.stepOpen, hl, indexByte_at h2, hu]
        congr 1
        · simp
        · rw [show s ++ QU :: normLine (rawLine tail).1 = (s ++ [QU]) ++ normLine (rawLine tail).1 by simp]
          rw [List.drop_left' (by simp [ndv])]
    · rw [dbl_app, dbl_none h2] at hat
      rcases hb with rfl | rfl
      · have hd : dbl (NL :: t) = NL :: dbl t := by simp [dbl, ndv]
        rw [hd, List.append_assoc, List.cons_append] at hat
        have hl : st.line = normLine (x ++ [NL]) := by rw [hat.line, raw_nl h1]
        have hleft : st.src.left = dbl t ++ QU :: tail := by rw [hat.left, raw_nl h1]
        have hnq : QU ∉ normLine (x ++ [NL]) := normLine_noQ (by simp [h2, ndv])
        have hne : normLine (x ++ [NL]) ≠ [] := by
          have := normLine_unix h1 []
          intro e
          unfold normLine at e
          rw [List.getLast?_concat, if_pos rfl] at e
          split at e <;> simp at e
        refine Goes.next (t := { st with src := st.src.next, cur := st.cur ++ st.line, line := st.src.line, pl := if st.src.line = [] then st.pl else st.pl + 1, pc := if st.src.line = [] then st.pc + st.line.length else 1 }) (Meek.quoted hq) ?_ ?_
        · simp only [St.step, hq, St.stepOpen, hl, indexByte_not hnq]
          rw [if_neg hne]
        · refine ih t (by simp at hs; omega) _ hq ⟨?_, ?_⟩ ?_
          · show normLine (rawLine st.src.left).1 = _; rw [hleft]
          · show (rawLine st.src.left).2 = _; rw [hleft]
          · intro st' pc e1 e2 e3 e4 e5
            refine hk st' pc e1 e2 e3 ?_ ?_
            · rw [e4]; show st.src.numLine + 1 + _ = _
              rw [List.count_append, List.count_eq_zero.2 h1, List.count_cons]; simp [ndv]; omega
            · rw [e5]
              show st'.stepQuote o rec p (st.cur ++ st.line ++ unixL t) _ pc = _
              rw [hl, normLine_unix h1, List.append_assoc]
      · have hd : dbl (QU :: t) = QU :: QU :: dbl t := by simp [dbl, ndv]
        rw [hd] at hat
        have hsp : x ++ QU :: QU :: dbl t ++ QU :: tail = (x ++ [QU, QU]) ++ (dbl t ++ QU :: tail) := by simp
        rw [hsp] at hat
        have hnl : NL ∉ x ++ [QU, QU] := by simp [h1, ndv]
        have hl : st.line = x ++ QU :: QU :: normLine (rawLine (dbl t ++ QU :: tail)).1 := by
          rw [hat.line, norm_raw_app hnl (by simp [ndv])]; simp
        have hleft : st.src.left = (rawLine (dbl t ++ QU :: tail)).2 := by rw [hat.left, rawLine_app hnl]
        refine Goes.next (t := { st with cur := st.cur ++ x ++ [QU], line := normLine (rawLine (dbl t ++ QU :: tail)).1, pc := st.pc + x.length + 1 + 1 }) (Meek.quoted hq) ?_ ?_
        · have e1 : List.drop (x.length + 1) (x ++ QU :: QU :: normLine (rawLine (dbl t ++ QU :: tail)).1) = QU :: normLine (rawLine (dbl t ++ QU :: tail)).1 := by
            rw [show x ++ QU :: QU :: normLine (rawLine (dbl t ++ QU :: tail)).1 = (x ++ [QU]) ++ QU :: normLine (rawLine (dbl t ++ QU :: tail)).1 by simp, List.drop_left' (by simp [ndv])]
          simp only [St.step, hq, St.stepOpen, hl, indexByte_at h2, e1, St.stepQuote, List.head?_cons, if_true, List.drop_succ_cons, List.drop_zero, List.take_left']
        · refine ih t (by simp at hs; omega) _ hq ⟨rfl, hleft⟩ ?_
          intro st' pc e1 e2 e3 e4 e5
          refine hk st' pc e1 e2 e3 ?_ ?_
          · rw [e4]; show st.src.numLine + _ = _
            rw [List.count_append, List.count_eq_zero.2 h1, List.count_cons]; simp [ndv]
          · rw [e5]
            show st'.stepQuote o rec p (st.cur ++ x ++ [QU] ++ unixL t) _ pc = _
            rw [unixL_app h1 (by simp [ndv])]
            have : unixL (QU :: t) = QU :: unixL t := by simp [unixL, ndv]
            rw [this]; simp
end Go.Proofs.YtfadgnopfjajbaaGreatDoor
namespace Go.Proofs.YtfadgnopfjajbaaGreatDoor
open Csv
/-- No quote, no line end. -/
structure Calm (c : Bytes) : Prop where
  ne : c ≠ []
  nl : NL ∉ c
  cr : CR ∉ c
  qu : QU ∉ c
theorem calm_enc {r : Int} (h : validDelim r = true) : Calm (enc r) := by
  unfold validDelim at h
  simp only [Bool.and_eq_true, bne_iff_ne, ne_eq] at h
  obtain ⟨⟨⟨⟨⟨h0, h34⟩, h13⟩, h10⟩, hv⟩, _⟩ := h
  unfold Go.Utf8.valid at hv
  simp only [Bool.or_eq_true, Bool.and_eq_true, decide_eq_true_eq] at hv
  obtain ⟨c, rfl⟩ := Int.eq_ofNat_of_zero_le (show 0 ≤ r by omega)
  have key : ∀ (b : UInt8), b.toNat < 128 → b.toNat ≠ c → b ∉ enc (c : Int) := by
    intro b hb hc hm
    rw [enc_eq] at hm
    by_cases h1 : c < 128
    · rw [enc1 c h1] at hm
      simp only [List.mem_cons, List.not_mem_nil, or_false] at hm
      rw [hm, u8n c (by omega)] at hc
      exact hc rfl
    by_cases h2 : c < 2048
    · rw [enc2 c (by omega) h2] at hm
      simp only [List.mem_cons, List.not_mem_nil, or_false] at hm
      rcases hm with rfl | rfl
      · rw [u8n (192 + c / 64) (by omega)] at hb; omega
      · rw [u8n (128 + c % 64) (by omega)] at hb; omega
    by_cases h3 : c < 65536
    · rw [enc3 c (by omega) h3 (by omega)] at hm
      simp only [List.mem_cons, List.not_mem_nil, or_false] at hm
      rcases hm with rfl | rfl | rfl
      · rw [u8n (224 + c / 4096) (by omega)] at hb; omega
      · rw [u8n (128 + c / 64 % 64) (by omega)] at hb; omega
      · rw [u8n (128 + c % 64) (by omega)] at hb; omega
    · rw [enc4 c (by omega) (by omega)] at hm
      simp only [List.mem_cons, List.not_mem_nil, or_false] at hm
      rcases hm with rfl | rfl | rfl | rfl
      · rw [u8n (240 + c / 262144) (by omega)] at hb; omega
      · rw [u8n (128 + c / 4096 % 64) (by omega)] at hb; omega
      · rw [u8n (128 + c / 64 % 64) (by omega)] at hb; omega
      · rw [u8n (128 + c % 64) (by omega)] at hb; omega
  exact ⟨enc_ne _, key _ (by decide) (fun e => h10 (by rw [← e]; rfl)), key _ (by decide) (fun e => h13 (by rw [← e]; rfl)), key _ (by decide) (fun e => h34 (by rw [← e]; rfl))⟩
theorem last_ne {c : Bytes} {b : UInt8} (h : b ∉ c) : c.getLast? ≠ some b := fun e => h (List.mem_of_getLast? e)
theorem Calm.pre {c : Bytes} (h : Calm c) {b : UInt8} (hb : b ∉ c) (t : Bytes) : c.isPrefixOf (b :: t) = false := by
  cases c with
  | nil => exact absurd rfl h.ne
  | cons d c =>
    rw [List.mem_cons, not_or] at hb
    simp only [List.isPrefixOf, Bool.and_eq_false_iff, beq_eq_false_iff_ne, ne_eq]
    exact .inl (fun e => hb.1 e.symm)
theorem Calm.pre_nil {c : Bytes} (h : Calm c) : c.isPrefixOf [] = false := by
  cases c with
  | nil => exact absurd rfl h.ne
  | cons d c => rfl
theorem isPre_self (c t : Bytes) : c.isPrefixOf (c ++ t) = true := by rw [List.isPrefixOf_iff_prefix]; exact List.prefix_append _ _
theorem spaceEnd_qu (n : Nat) (t : Bytes) (hn : 0 < n) : spaceEnd n (QU :: t) = some 0 := by
  obtain ⟨n, rfl⟩ : ∃ m, n = m + 1 := ⟨n - 1, by omega⟩
  have e : (Go.Utf8.decode ⟨(QU :: t).toArray⟩ 0).1 = 34 := by
    show (Lib.decodeL (QU :: t)).1 = 34
    rw [Lib.decodeL_N]
    simp only [List.getD_cons_zero]
    rw [Lib.decodeN_ascii _ _ _ _ _ (by decide)]
    decide
  simp only [spaceEnd, e]
  rfl
theorem trimmed_qu (o : Opt) (s : St) (t : Bytes) (h : s.line = QU :: t) : s.trimmed o = s := by
  unfold St.trimmed
  split
  · rw [h, spaceEnd_qu _ _ (by simp)]
    simp only [List.drop_zero, Nat.add_zero]
    rw [← h]
  · rfl
/-- A quote opens a field. -/
theorem open_goes {o : Opt} {rec : Nat} {q : Out → Prop} (T : Bytes) (st : St) (hq : st.quoted = none) (hat : At (QU :: T) st)
    (hk : ∀ (st' : St) (p : Nat × Nat), st'.fields = st.fields → st'.quoted = some p → st'.cur = [] → st'.src = st.src → At T st' → Goes o rec q st') : Goes o rec q st := by
  have hl : st.line = QU :: normLine (rawLine T).1 := by
    rw [hat.line]; exact norm_raw_app (x := [QU]) (by simp [ndv]) (by simp [ndv]) T
  have hleft : st.src.left = (rawLine T).2 := by
    rw [hat.left]; show (rawLine ([QU] ++ T)).2 = _; rw [rawLine_app (by simp [ndv])]
  have ht := trimmed_qu o st _ hl
  refine Goes.next (t := { st with line := st.line.drop 1, pc := st.pc + 1, cur := [], quoted := some (st.pl, st.pc) }) ?_ ?_ (hk _ _ rfl rfl rfl rfl ⟨?_, hleft⟩)
  · intro _; rw [ht, hl]; rfl
  · simp only [St.step, hq, ht, St.stepStart]
    rw [if_pos (by rw [hl]; rfl)]
  · show st.line.drop 1 = _; rw [hl]; rfl
theorem dbl_count (s : Bytes) : (dbl s).count NL = s.count NL := by
  induction s with
  | nil => rfl
  | cons b t ih =>
    simp only [dbl]
    split
    · rename_i hb; subst hb; simp [List.count_cons, ih, ndv]
    · simp [List.count_cons, ih]
theorem quote_count (s : Bytes) : (quoteL s).count NL = s.count NL := by simp [quoteL, List.count_append, List.count_cons, dbl_count, ndv]
/-- The outcome of a row. -/
structure RowOut (fs : List Bytes) (rest : Bytes) (num : Nat) (q : Out) : Prop where
  fields : q.fields = fs
  fail : q.fail = Fail.none
  left : q.src.left = rest
  num : q.src.numLine = num
theorem rowL_cons (c e s s' : Bytes) (t : List Bytes) : rowL c e (s :: s' :: t) = quoteL s ++ (c ++ rowL c e (s' :: t)) := rfl
/-- A field and the delimiter behind it. -/
theorem comma_goes {o : Opt} {rec : Nat} {q : Out → Prop} (hc : Calm (enc o.comma)) (s T : Bytes) (st : St) (hq : st.quoted = none) (hat : At (quoteL s ++ (enc o.comma ++ T)) st)
    (hk : ∀ st' : St, st'.fields = st.fields ++ [unixL s] → st'.quoted = none → st'.src.numLine = st.src.numLine + s.count NL → At T st' → Goes o rec q st') : Goes o rec q st := by
  have hT : quoteL s ++ (enc o.comma ++ T) = QU :: (dbl s ++ QU :: (enc o.comma ++ T)) := by simp [quoteL]
  rw [hT] at hat
  refine open_goes _ st hq hat ?_
  intro st1 p e1 e2 e3 e4 hat1
  refine field_goes p _ s.length s (Nat.le_refl _) st1 e2 hat1 ?_
  intro st2 pc f1 f2 f3 f4 f5
  rw [norm_raw_app hc.nl (last_ne hc.cr)] at f5
  rw [rawLine_app hc.nl] at f3
  rw [e3, List.nil_append] at f5
  refine Goes.next (Meek.quoted f2) (t := { st2.push (unixL s) p with line := normLine (rawLine T).1, pc := pc + (enc o.comma).length }) ?_ (hk _ ?_ rfl ?_ ⟨rfl, f3⟩)
  · rw [f5, St.stepQuote, if_neg, if_pos (isPre_self _ _)]
    · rw [List.drop_left' rfl]
    · intro h
      have hh : (enc o.comma).head? = some QU := by
        cases hcc : enc o.comma with
        | nil => exact absurd hcc hc.ne
        | cons d c => rw [hcc] at h; exact h
      exact hc.qu (List.mem_of_head? hh)
  · show st2.fields ++ [unixL s] = _; rw [f1, e1]
  · show st2.src.numLine = _; rw [f4, e4]
/-- A whole row. -/
theorem row_goes {o : Opt} {rec : Nat} (e rest : Bytes) (hc : Calm (enc o.comma)) (he : e = [NL] ∨ e = [CR, NL]) : ∀ (r : List Bytes), r ≠ [] → ∀ (st : St), st.quoted = none → At (rowL (enc o.comma) e r ++ rest) st →
    ∀ (fs : List Bytes) (num : Nat), fs = st.fields ++ r.map unixL → num + 1 = st.src.numLine + (rowL (enc o.comma) e r).count NL → Goes o rec (RowOut fs rest num) st := by
  have hraw : rawLine (e ++ rest) = (e, rest) := by
    rcases he with rfl | rfl
    · exact raw_nl (x := []) (by simp) rest
    · exact raw_nl (x := [CR]) (by simp [ndv]) rest
  have hnorm : normLine e = [NL] := by rcases he with rfl | rfl <;> rfl
  have hcount : e.count NL = 1 := by rcases he with rfl | rfl <;> rfl
  intro r
  induction r with
  | nil => intro h; exact absurd rfl h
  | cons s t ih =>
    intro _ st hq hat fs num hfs hnum
    cases t with
    | nil =>
      have hT : rowL (enc o.comma) e [s] ++ rest = QU :: (dbl s ++ QU :: (e ++ rest)) := by simp [rowL, quoteL]
      have hn : (rowL (enc o.comma) e [s]).count NL = s.count NL + 1 := by
        show (quoteL s ++ ([] ++ e)).count NL = _
        rw [List.count_append, quote_count, List.nil_append, hcount]
      rw [hn] at hnum
      rw [hT] at hat
      refine open_goes _ st hq hat ?_
      intro st1 p e1 e2 e3 e4 hat1
      refine field_goes p _ s.length s (Nat.le_refl _) st1 e2 hat1 ?_
      intro st2 pc f1 f2 f3 f4 f5
      rw [hraw] at f3 f5
      rw [hnorm, e3, List.nil_append] at f5
      refine Goes.done (Meek.quoted f2) (u := (st2.push (unixL s) p).out Fail.none) ?_ ⟨?_, rfl, f3, ?_⟩
      · rw [f5, St.stepQuote, if_neg (by simp [ndv]), if_neg (by rw [hc.pre hc.nl]; simp), if_pos (by decide)]
      · show st2.fields ++ [unixL s] = _; rw [f1, e1, hfs]; rfl
      · show st2.src.numLine = _; rw [f4, e4]; omega
    | cons s' t =>
      rw [rowL_cons, List.append_assoc, List.append_assoc] at hat
      rw [rowL_cons, List.count_append, quote_count, List.count_append, List.count_eq_zero.2 hc.nl] at hnum
      refine comma_goes hc s _ st hq hat ?_
      intro st1 e1 e2 e3 hat1
      refine ih (by simp) st1 e2 hat1 fs num ?_ ?_
      · rw [hfs, e1]; simp
      · rw [e3]; omega
end Go.Proofs.YtfadgnopfjajbaaGreatDoor
namespace Go.Proofs.YtfadgnopfjajbaaGreatDoor
open Csv
/-- No line that begins with a quote is a comment. -/
def CalmC (o : Opt) : Prop := o.comment = 0 ∨ Calm (enc o.comment)
theorem calm_valid {o : Opt} (h : o.valid = true) : Calm (enc o.comma) ∧ CalmC o := by
  unfold Opt.valid at h
  simp only [Bool.and_eq_true, Bool.or_eq_true, beq_iff_eq] at h
  exact ⟨calm_enc h.1.2, h.2.elim .inl (fun h => .inr (calm_enc h))⟩
theorem line_qu {s : Src} {T : Bytes} (hl : s.left = QU :: T) : ∃ r, s.line = QU :: r := by
  refine ⟨normLine (rawLine T).1, ?_⟩
  unfold Src.line
  rw [hl]
  exact norm_raw_app (x := [QU]) (by simp [ndv]) (by simp [ndv]) T
theorem skip_qu {o : Opt} (hc : CalmC o) {s : Src} {T : Bytes} (hl : s.left = QU :: T) (n : Nat) : skip o (n + 1) s = (some s.line, s.next) := by
  obtain ⟨r, hr⟩ := line_qu hl
  have h1 : s.left.isEmpty = false := by rw [hl]; rfl
  have h2 : ignored o s.line = false := by
    unfold ignored
    rw [hr]
    have e1 : (decide (o.comment ≠ 0) && (enc o.comment).isPrefixOf (QU :: r)) = false := by
      rcases hc with hc | hc
      · simp [hc]
      · rw [hc.pre hc.qu, Bool.and_false]
    rw [e1, Bool.false_or, beq_eq_false_iff_ne]
    unfold nlLen
    intro e
    split at e
    · rename_i hg
      rw [List.length_cons] at e
      have : r = [] := List.eq_nil_of_length_eq_zero (by omega)
      subst this
      simp [ndv] at hg
    · rw [List.length_cons] at e; omega
  simp only [skip, h1, h2, Bool.false_eq_true, if_false]
theorem init_at (s : Src) : At s.left (St.init s.next s.line) := ⟨rfl, rfl⟩
theorem read_qu {o : Opt} (hv : o.valid = true) {rd : Rd} {T : Bytes} (hl : rd.src.left = QU :: T) {Q : Out → Prop} (hg : Goes o (rd.src.numLine + 1) Q (St.init rd.src.next rd.src.line)) :
    ∃ q, Q q ∧ rd.read o = (some q.fields, counted rd.expect (rd.src.numLine + 1) q.fields.length q.fail, ⟨q.src, if rd.expect = 0 then q.fields.length else rd.expect, q.poss⟩) := by
  refine ⟨_, hg.run _ (Nat.le_refl _), ?_⟩
  unfold Rd.read
  rw [hv, skip_qu (calm_valid hv).2 hl]
  rfl
theorem tame_qu {o : Opt} (hv : o.valid = true) {s : Src} {T : Bytes} (hl : s.left = QU :: T) {Q : Out → Prop} (hg : Goes o (s.numLine + 1) Q (St.init s.next s.line)) :
    ∀ n l s1, skip o n s = (some l, s1) → ∀ t, Reach o s1.numLine (St.init s1 l) t → t.quoted = none → (t.trimmed o).line.head? = some 34 := by
  intro n l s1 hs t ht
  cases n with
  | zero => cases hs
  | succ n =>
    rw [skip_qu (calm_valid hv).2 hl] at hs
    cases hs
    exact (hg.to ht).meek
theorem rowL_qu (c e : Bytes) {r : List Bytes} (hr : r ≠ []) (rest : Bytes) : ∃ T, rowL c e r ++ rest = QU :: T := by
  cases r with
  | nil => exact absurd rfl hr
  | cons s t => exact ⟨_, rfl⟩
theorem goes_row {o : Opt} (hv : o.valid = true) {e rest : Bytes} (he : e = [NL] ∨ e = [CR, NL]) {r : List Bytes} (hr : r ≠ []) {s : Src} (hl : s.left = rowL (enc o.comma) e r ++ rest) :
    Goes o (s.numLine + 1) (RowOut (r.map unixL) rest (s.numLine + (rowL (enc o.comma) e r).count NL)) (St.init s.next s.line) :=
  row_goes e rest (calm_valid hv).1 he r hr _ rfl (by rw [← hl]; exact init_at s) _ _ rfl (by show _ = s.numLine + 1 + _; omega)
/-- Reading one row. -/
theorem read_row {o : Opt} (hv : o.valid = true) {e rest : Bytes} (he : e = [NL] ∨ e = [CR, NL]) {r : List Bytes} (hr : r ≠ []) {rd : Rd} (hl : rd.src.left = rowL (enc o.comma) e r ++ rest) (hx : rd.expect = -1) :
    ∃ rd', rd.read o = (some (r.map unixL), Fail.none, rd') ∧ rd'.src.left = rest ∧ rd'.expect = -1 ∧ rd'.src.numLine = rd.src.numLine + (rowL (enc o.comma) e r).count NL := by
  obtain ⟨T, hT⟩ := rowL_qu (enc o.comma) e hr rest
  obtain ⟨q, hq, hread⟩ := read_qu hv (hl.trans hT) (goes_row hv he hr hl)
  refine ⟨⟨q.src, if rd.expect = 0 then q.fields.length else rd.expect, q.poss⟩, ?_, hq.left, ?_, hq.num⟩
  · rw [hread, hq.fields, hq.fail]
    unfold counted
    rw [if_neg (by rw [hx]; intro h; exact absurd h.1 (by decide))]
  · show (if rd.expect = 0 then _ else rd.expect) = -1
    rw [hx]; rfl
theorem read_end {o : Opt} (hv : o.valid = true) {rd : Rd} (hl : rd.src.left = []) : rd.read o = (none, ⟨1, 0, 0, 0⟩, { rd with src := rd.src.next }) := by
  unfold Rd.read
  rw [hv]
  have : skip o (rd.src.left.length + 1) rd.src = (none, rd.src.next) := by simp only [skip, hl, List.isEmpty_nil, if_true]
  rw [this]
  rfl
theorem next_left {s : Src} (h : s.left = []) : s.next.left = [] := by unfold Src.next; rw [h]; rfl
theorem tableL_cons (c e : Bytes) (r : List Bytes) (rs : List (List Bytes)) : tableL c e (r :: rs) = rowL c e r ++ tableL c e rs := by simp [tableL]
theorem tableL_len (c e : Bytes) : ∀ (rows : List (List Bytes)), (∀ r ∈ rows, r ≠ []) → rows.length ≤ (tableL c e rows).length
  | [], _ => Nat.zero_le _
  | r :: rs, h => by
    have := tableL_len c e rs (fun x hx => h x (List.mem_cons_of_mem _ hx))
    obtain ⟨T, hT⟩ := rowL_qu c e (h r (List.mem_cons_self ..)) (tableL c e rs)
    rw [tableL_cons, hT]
    have h2 := congrArg List.length hT
    rw [List.length_append, List.length_cons] at h2
    have h3 : 0 < (rowL c e r).length := by
      have hr := h r (List.mem_cons_self ..)
      cases r with
      | nil => exact absurd rfl hr
      | cons s t => simp [rowL, quoteL]
    simp only [List.length_cons]
    omega
def rowAns (r : List Bytes) : Ans := { record := r.map unixL }
theorem call_row {o : Opt} {reuse : Bool} {s : Ses} {fs : List Bytes} {f : Fail} {rd : Rd} (h : s.rd.read o = (some fs, f, rd)) :
    (s.call o reuse ⟨0, 0⟩).rd = rd ∧ (s.call o reuse ⟨0, 0⟩).answers = s.answers ++ [{ record := fs, fail := f }] ∧ (s.call o reuse ⟨0, 0⟩).kept.length = s.kept.length + 1 := by
  unfold Ses.call
  rw [if_pos rfl, h]
  exact ⟨rfl, rfl, by simp⟩
theorem call_none {o : Opt} {reuse : Bool} {s : Ses} {f : Fail} {rd : Rd} (h : s.rd.read o = (none, f, rd)) :
    (s.call o reuse ⟨0, 0⟩).rd = rd ∧ (s.call o reuse ⟨0, 0⟩).answers = s.answers ++ [{ fail := f }] ∧ (s.call o reuse ⟨0, 0⟩).kept.length = s.kept.length + 1 := by
  unfold Ses.call
  rw [if_pos rfl, h]
  exact ⟨rfl, rfl, by simp⟩
theorem call_all {o : Opt} {reuse : Bool} {s : Ses} {rs : List (List Bytes)} {f : Fail} {rd : Rd} (h : s.rd.all o (s.rd.src.left.length + 2) [] = (rs, f, rd)) :
    (s.call o reuse ⟨1, 0⟩).answers = s.answers ++ [{ records := rs, fail := f }] ∧ (s.call o reuse ⟨1, 0⟩).kept.length = s.kept.length + 1 := by
  unfold Ses.call
  rw [if_neg (by decide), if_pos rfl, h]
  exact ⟨rfl, by simp⟩
/-- Reads over the rows of a table. -/
theorem fold_rows {o : Opt} (hv : o.valid = true) {e : Bytes} (he : e = [NL] ∨ e = [CR, NL]) (reuse : Bool) (rest : Bytes) : ∀ (rows : List (List Bytes)), (∀ r ∈ rows, r ≠ []) → ∀ (s : Ses), s.rd.src.left = tableL (enc o.comma) e rows ++ rest → s.rd.expect = -1 →
    ∃ s', (List.replicate rows.length (⟨0, 0⟩ : Cal)).foldl (Ses.call o reuse) s = s' ∧ s'.answers = s.answers ++ rows.map rowAns ∧ s'.kept.length = s.kept.length + rows.length ∧ s'.rd.src.left = rest ∧ s'.rd.expect = -1 ∧ s'.rd.src.numLine = s.rd.src.numLine + (tableL (enc o.comma) e rows).count NL
  | [], _, s, hl, hx => ⟨s, rfl, by simp, by simp, by simpa [tableL] using hl, hx, by simp [tableL]⟩
  | r :: rs, hr, s, hl, hx => by
    rw [tableL_cons, List.append_assoc] at hl
    obtain ⟨rd', hread, h1, h2, h3⟩ := read_row hv he (hr r (List.mem_cons_self ..)) hl hx
    obtain ⟨c1, c2, c3⟩ := call_row (reuse := reuse) hread
    obtain ⟨s', e1, e2, e3, e4, e5, e6⟩ := fold_rows hv he reuse rest rs (fun x hx => hr x (List.mem_cons_of_mem _ hx)) (s.call o reuse ⟨0, 0⟩) (by rw [c1]; exact h1) (by rw [c1]; exact h2)
    refine ⟨s', ?_, ?_, ?_, e4, e5, ?_⟩
    · rw [← e1]; rfl
    · rw [e2, c2]; simp [rowAns]
    · rw [e3, c3]; simp; omega
    · rw [e6, c1, h3, tableL_cons, List.count_append]; omega
/-- ReadAll of a table. -/
theorem all_rows {o : Opt} (hv : o.valid = true) {e : Bytes} (he : e = [NL] ∨ e = [CR, NL]) : ∀ (rows : List (List Bytes)), (∀ r ∈ rows, r ≠ []) → ∀ (n : Nat) (rd : Rd) (acc : List (List Bytes)), rd.src.left = tableL (enc o.comma) e rows → rd.expect = -1 → rows.length < n →
    ∃ rd', rd.all o n acc = (acc ++ rows.map (·.map unixL), Fail.none, rd')
  | [], _, n, rd, acc, hl, hx, hn => by
    obtain ⟨n, rfl⟩ : ∃ m, n = m + 1 := ⟨n - 1, by simp at hn; omega⟩
    have hread := read_end hv (rd := rd) (by simpa [tableL] using hl)
    exact ⟨{ rd with src := rd.src.next }, by simp [Rd.all, hread]⟩
  | r :: rs, hr, n, rd, acc, hl, hx, hn => by
    obtain ⟨n, rfl⟩ : ∃ m, n = m + 1 := ⟨n - 1, by simp at hn; omega⟩
    rw [tableL_cons] at hl
    obtain ⟨rd', hread, h1, h2, h3⟩ := read_row hv he (hr r (List.mem_cons_self ..)) hl hx
    obtain ⟨rd'', h4⟩ := all_rows hv he rs (fun x hx => hr x (List.mem_cons_of_mem _ hx)) n rd' (acc ++ [r.map unixL]) h1 h2 (by simp at hn; omega)
    refine ⟨rd'', ?_⟩
    simp only [Rd.all, hread]
    rw [if_neg (by decide), if_neg (by decide)]
    simp only [Option.getD_some]
    rw [h4]
    simp
end Go.Proofs.YtfadgnopfjajbaaGreatDoor
