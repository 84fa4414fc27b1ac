/- FnWrongQuoteFound: for every table, fields, rest and options of bulk at most 2 to the 20, the law answers true -/
import Derived.Test.YtfadgnopfjajbaaGreatDoorP22
namespace Go.Proofs.YtfadgnopfjajbaaGreatDoor
open Go.RowKit
theorem wrongL_app (c : List UInt8) (L R : List UInt8) : ∀ (bf : List (List UInt8)), wrongL c bf (L ++ R) = wrongL c bf L ++ R
  | [] => rfl
  | s :: t => by
    show quoteL s ++ (c ++ wrongL c t (L ++ R)) = (quoteL s ++ (c ++ wrongL c t L)) ++ R
    rw [wrongL_app c L R t]
    simp only [List.append_assoc]
theorem wrongL_drop_le (c L : List UInt8) : ∀ (bf : List (List UInt8)) (k : Nat), (wrongL c (bf.drop k) L).length ≤ (wrongL c bf L).length
  | bf, 0 => Nat.le_refl _
  | [], k + 1 => Nat.le_refl _
  | s :: t, k + 1 => by
    have := wrongL_drop_le c L t k
    show (wrongL c (t.drop k) L).length ≤ (quoteL s ++ (c ++ wrongL c t L)).length
    simp only [List.length_append]
    omega
theorem wrongL_step (c L : List UInt8) {bf : List (List UInt8)} {k : Nat} (h : k < bf.length) : wrongL c (bf.drop k) L = quoteL bf[k] ++ (c ++ wrongL c (bf.drop (k + 1)) L) := by
  rw [List.drop_eq_getElem_cons h]; rfl
theorem bytes_app3 (a b c : List UInt8) : (⟨a.toArray⟩ : ByteArray) ++ ⟨b.toArray⟩ ++ ⟨c.toArray⟩ = ⟨(a ++ (b ++ c)).toArray⟩ := by
  apply ByteArray.ext
  simp [ByteArray.data_append]
/-- The line, field by field from its end. -/
theorem wq_loop {w : World} {l : List (Nat × Value)} {f : Nat → Value} (bf : List (List UInt8)) (c L0 : List UInt8) (A1 : Option Addr) (c1 : Nat) (h1 : lk l f 1 = .slice A1 bf.length c1) (h12 : lk l f 12 = .string ⟨c.toArray⟩) (h14 : lk l f 14 = .string ⟨L0.toArray⟩) (h15 : lk l f 15 = .int .i64 ((bf.length : Int) - 1)) (hbf : StrIn w (.slice A1 bf.length c1) bf) (hm : MaxAt w) (hs : ∀ s ∈ bf, s.length < 4294967281) (hbl : bf.length < 1000000000) (hz : (wrongL c bf L0).length < 9000000000000000000) :
    wqLoop.wp Tryz.prog (NPost fun a w' => ∃ l', a = Fr 135 l' f ∧ VKeeps wV [14, 15] l f l' ∧ lk l' f 14 = .string ⟨(wrongL c bf L0).toArray⟩ ∧ Below w.heap.size w w') (Fr 135 l f) w := by
  unfold wqLoop
  refine wp_block ?_
  refine wp_loop_n (fun k a w' => ∃ l', a = Fr 135 l' f ∧ VKeeps wV [14, 15] l f l' ∧ lk l' f 15 = .int .i64 ((k : Int) - 1) ∧ lk l' f 14 = .string ⟨(wrongL c (bf.drop k) L0).toArray⟩ ∧ k ≤ bf.length ∧ Below w.heap.size w w') bf.length ⟨l, rfl, VKeeps.refl _ _ _ _, h15, by rw [List.drop_length]; exact h14, Nat.le_refl _, Below.refl _ _⟩ ?_
  rintro k a w1 ⟨l1, rfl, K1, g15, g14, hk, hb1⟩
  rcases Nat.eq_zero_or_pos k with rfl | hpos
  · refine wp_seq (seq_part (wq_p13 w1 l1 f _ false (decide_eq_false (by omega)) g15) ?_)
    rintro x w2 ⟨l2, rfl, K2, rfl⟩
    refine wp_if_false rfl (by simp [lk]) (wp_exit ?_)
    simp only [Exit.then, Exit.inBlock, if_true]
    refine NPost.mk ⟨_, rfl, VKeeps.far (by decide) (fun k a b => (K2 k a rfl).trans (K1 k a b)), ?_, hb1⟩
    rw [lk_ne _ _ _ _ _ rfl, K2 14 rfl rfl, g14]; rfl
  · obtain ⟨j, rfl⟩ : ∃ j, k = j + 1 := ⟨k - 1, by omega⟩
    have hj : j < bf.length := by omega
    refine seq_part (R := fun a w' => ∃ l', a = Fr 135 l' f ∧ VKeeps wV [14, 15] l f l' ∧ lk l' f 15 = .int .i64 (j : Int) ∧ lk l' f 14 = .string ⟨(wrongL c (bf.drop (j + 1)) L0).toArray⟩ ∧ w' = w1) (seq_part (wq_p13 w1 l1 f _ true (decide_eq_true (by omega)) g15) ?_) ?_
    · rintro x w2 ⟨l2, rfl, K2, rfl⟩
      refine wp_if_true rfl (by simp [lk]) (wp_skip (NPost.mk ⟨_, rfl, VKeeps.far (by decide) (fun k a b => (K2 k a rfl).trans (K1 k a b)), ?_, ?_, rfl⟩))
      · rw [lk_ne _ _ _ _ _ rfl, K2 15 rfl rfl, g15]
        congr 1
        omega
      · rw [lk_ne _ _ _ _ _ rfl, K2 14 rfl rfl, g14]
    rintro x w2 ⟨l2, rfl, K2, q15, q14, rfl⟩
    obtain ⟨A0, c0, e0, _, hx⟩ := hbf.next hb1
    obtain ⟨b, o, hA, hbl2, hcell⟩ := hx (by omega)
    injection e0 with e0 _ _
    rw [← e0] at hA
    subst hA
    have hst := wrongL_step c L0 hj
    have hle := wrongL_drop_le c L0 bf j
    rw [hst] at hle
    simp only [List.length_append] at hle
    refine seq_part (block_part (wq_p15 w2 l2 f b o j bf.length c1 ⟨bf[j].toArray⟩ ⟨(quoteL bf[j]).toArray⟩ ⟨c.toArray⟩ ⟨(wrongL c (bf.drop (j + 1)) L0).toArray⟩ _ ((K2 1 rfl rfl).trans h1) q15 ((K2 12 rfl rfl).trans h12) q14 hj (hcell j _ (List.getElem?_eq_getElem hj)) (by rw [size_mk, size_mk, size_mk]; omega) (Quoted_any w2 bf[j] (hm.next hb1) (hs _ (List.getElem_mem _))))) ?_
    rintro x w3 ⟨l3, rfl, K3, hb3⟩
    refine last_part (wq_p14 w3 _ f j (by omega) (by rw [lk_ne _ _ _ _ _ rfl, K3 15 rfl rfl, q15])) ?_
    rintro x w4 ⟨l4, rfl, K4, rfl⟩
    refine ⟨j, by omega, _, rfl, VKeeps.set (by decide) (fun k a b => (K4 k a rfl).trans ?_), by simp only [lk, if_true], ?_, by omega, hb1.trans (hb3.mono hb1.size)⟩
    · exact (VKeeps.set (V := wV) (S := [14, 15]) (by decide) (fun k a b => (K3 k a rfl).trans (K2 k a b))) k a b
    · rw [lk_ne _ _ _ _ _ rfl, K4 14 rfl rfl, hst, bytes_app3]; simp only [lk, if_true]
theorem hasPrefix_one (s : List UInt8) (c : UInt8) (h : Lib.hasPrefix s [c] = false) : s.head? ≠ some c := by
  intro e
  cases s with
  | nil => cases e
  | cons b t =>
    injection e with e
    subst e
    simp [Lib.hasPrefix, List.isPrefixOf] at h
end Go.Proofs.YtfadgnopfjajbaaGreatDoor
namespace Go.Proofs.YtfadgnopfjajbaaGreatDoor
open Go.RowKit
/-- What stays in the frame. -/
structure WqF (l : List (Nat × Value)) (f : Nat → Value) (v vb : Value) (fd rs : List UInt8) (ob : Nat) : Prop where
  h0 : lk l f 0 = v
  h1 : lk l f 1 = vb
  h2 : lk l f 2 = .string ⟨fd.toArray⟩
  h3 : lk l f 3 = .string ⟨rs.toArray⟩
  h9 : lk l f 9 = .pointer (some ⟨ob, 0, none⟩)
section
variable {l l' : List (Nat × Value)} {f : Nat → Value} {v vb : Value} {fd rs : List UInt8} {ob : Nat}
theorem WqF.keep (h : WqF l f v vb fd rs ob) {S : List Nat} (K : VKeeps wV S l f l') (e0 : S.contains 0 = false) (e1 : S.contains 1 = false) (e2 : S.contains 2 = false) (e3 : S.contains 3 = false) (e9 : S.contains 9 = false) : WqF l' f v vb fd rs ob :=
  ⟨(K 0 rfl e0).trans h.h0, (K 1 rfl e1).trans h.h1, (K 2 rfl e2).trans h.h2, (K 3 rfl e3).trans h.h3, (K 9 rfl e9).trans h.h9⟩
theorem WqF.put (h : WqF l f v vb fd rs ob) {k : Nat} {u : Value} (hk : (k == 0 || k == 1 || k == 2 || k == 3 || k == 9) = false) : WqF ((k, u) :: l) f v vb fd rs ob := by
  simp only [Bool.or_eq_false_iff, beq_eq_false_iff_ne, ne_eq] at hk
  obtain ⟨⟨⟨⟨a0, a1⟩, a2⟩, a3⟩, a9⟩ := hk
  have e : ∀ j : Nat, ¬ k = j → lk ((k, u) :: l) f j = lk l f j := fun j hj => lk_ne _ _ _ _ _ (by simpa using fun e => hj e.symm)
  exact ⟨(e 0 a0).trans h.h0, (e 1 a1).trans h.h1, (e 2 a2).trans h.h2, (e 3 a3).trans h.h3, (e 9 a9).trans h.h9⟩
end
def L0 (field rest : List UInt8) : List UInt8 := if rest = [] then Csv.QU :: dbl field else quoteL field
theorem lastL_eq (field rest : List UInt8) : lastL field rest = L0 field rest ++ rest := by
  unfold lastL L0
  split
  · rename_i h; rw [h, List.append_nil]
  · rfl
theorem quoteL_cut (field : List UInt8) : (⟨(quoteL field).toArray⟩ : ByteArray).extract 0 (Csv.QU :: dbl field).length = ⟨(Csv.QU :: dbl field).toArray⟩ := by
  have e : quoteL field = (Csv.QU :: dbl field) ++ [Csv.QU] := rfl
  rw [e]
  apply WideShapes.bytes_inj
  rw [Lib.extract_from_zero]
  show ((Csv.QU :: dbl field) ++ [Csv.QU]).take (Csv.QU :: dbl field).length = _
  rw [List.take_left' rfl]
theorem isEmpty_bytes (s : List UInt8) : (⟨s.toArray⟩ : ByteArray).toList.isEmpty = decide (s = []) := by
  rw [ByteArray.toList_mk]
  cases s <;> rfl
theorem mem_all {rows : List (List (List UInt8))} {bf : List (List UInt8)} {field : List UInt8} {b : UInt8} (h : (rows.flatten ++ (bf ++ [field])).flatten.contains b = false) : ∀ s ∈ bf, b ∉ s := by
  intro s hs hb
  rw [List.contains_eq_mem, decide_eq_false_iff_not] at h
  exact h (List.mem_flatten.2 ⟨s, by simp [hs], hb⟩)
set_option maxHeartbeats 1000000 in
theorem FnWrongQuoteFound_any (G : Glob) (w : World) (m : Int) (hL : Laid w G m) (v vb : Value) (rows : List (List (List UInt8))) (bf : List (List UInt8)) (field rest : List UInt8) (comma comment expect : Int) (lz tr re : Bool) (hrows : RowsIn w v rows) (hbf : StrIn w vb bf) (hs : ∀ r ∈ rows, ∀ s ∈ r, s.length < 4294967281) (hsb : ∀ s ∈ bf, s.length < 4294967281) (hsf : field.length < 4294967281) (hn : rows.length < 100000000)
    (hfl : rows.flatten.length + bf.length < 500000000) (hall : (rows.flatten ++ (bf ++ [field])).flatten.length < 4294967281) (hbig : ∀ c : List UInt8, c.length ≤ 4 → 2 * (badText c rows bf field rest).length + (rows.length + 1) < 268435450) :
    Calls Tryz.prog 5 [v, vb, .string ⟨field.toArray⟩, .string ⟨rest.toArray⟩, .agg (optCells comma comment expect lz tr re).toArray].toArray w fun x w' => x = .returned (.bool true) ∧ Below w.heap.size w w' := by
  obtain ⟨A, c, hvv, hrl, _⟩ := id hrows
  obtain ⟨A1, c1, hvb, _, _⟩ := id hbf
  rw [hvv] at hrows ⊢
  rw [hvb] at hbf ⊢
  clear hvv hvb
  refine enter 135 Tryz.func5 rfl rfl (by simp) ?_
  show wqBody.wp _ _ _ _
  rw [wq_eq]
  refine seq_part (wq_p0 w _ _ comma comment expect lz tr re rfl) ?_
  rintro x w1 ⟨l1, rfl, K1, k9, hb1, hob1⟩
  have F1 : WqF l1 (fun _ => undef) (.slice A rows.length c) (.slice A1 bf.length c1) field rest w.heap.size := ⟨(K1 0 rfl rfl).trans rfl, (K1 1 rfl rfl).trans rfl, (K1 2 rfl rfl).trans rfl, (K1 3 rfl rfl).trans rfl, k9⟩
  clear K1 k9
  refine wp_seq_mid (fun a w' => ∃ l', a = Fr 135 l' (fun _ => undef) ∧ WqF l' (fun _ => undef) (.slice A rows.length c) (.slice A1 bf.length c1) field rest w.heap.size ∧ (LegalO (if comma = 0 then 44 else comma) comment ∧ ∀ r ∈ rows, r ≠ []) ∧ Below w1.heap.size w1 w') (seq_part (wq_p1 w1 l1 _ w.heap.size rows.length c A rows comma comment expect lz tr re _ rfl F1.h0 F1.h9 hob1 (hL.next hb1).maxAt (hrows.next hb1)) ?_) ?_
  · rintro x w2 ⟨l2, b, rfl, K2, hb, hb2⟩
    cases b
    · refine wp_if_false rfl (by simp [lk]) (wp_skip ?_)
      simp only [Exit.then]
      exact ⟨_, rfl, (F1.keep K2 rfl rfl rfl rfl rfl).put (by decide), hb rfl, hb2⟩
    · have hb02 := hb1.trans (hb2.mono hb1.size)
      refine wp_if_true rfl (by simp [lk]) (seq_part (wq_p2 w2 _ _ (awake_any G w2 m (hL.next hb02))) ?_)
      rintro x w3 ⟨l3, rfl, hb3⟩
      refine wp_ret ?_
      simp only [Exit.then]
      exact ret1 rfl rfl ⟨by simp [lk], hb02.trans (hb3.mono hb02.size)⟩
  rintro x w2 ⟨l2, rfl, F2, ⟨hLeg, hne⟩, hb2⟩
  have hb02 := hb1.trans (hb2.mono hb1.size)
  have hob2 := hob1.below hb2 hob1.lt
  have hval := legal_valid (lz := false) (tr := false) hLeg
  have hvc : Utf8.valid (if comma = 0 then 44 else comma) = true := hLeg.1.2
  have hcl := enc_le hvc
  obtain ⟨cm, hcm⟩ : ∃ cm, (if comma = 0 then 44 else comma) = cm := ⟨_, rfl⟩
  rw [hcm] at hvc hcl
  have hocm : (optOf comma comment false false).comma = cm := hcm
  have hB := hbig (Csv.enc cm) hcl
  have hBt : (badText (Csv.enc cm) rows bf field rest) = tableL (Csv.enc cm) [Csv.NL] rows ++ (wrongL (Csv.enc cm) bf (L0 field rest) ++ rest) := by
    unfold badText
    rw [lastL_eq, wrongL_app]
  have hBl := congrArg List.length hBt
  simp only [List.length_append] at hBl
  clear hb1 hb2 hob1 F1
  refine seq_part (wq_p3 w2 l2 _ A A1 rows.length c bf.length c1 field rows bf F2.h0 F2.h1 F2.h2 (hrows.next hb02) hne (hbf.next hb02) _ rfl hfl (by omega)) ?_
  rintro x w3 ⟨l3, rfl, K3, hb3⟩
  have F3 := (F2.keep K3 rfl rfl rfl rfl rfl).put (k := 11) (u := .string ⟨(rows.flatten ++ (bf ++ [field])).flatten.toArray⟩) (by decide)
  have hob3 := hob2.below hb3 hob2.lt
  have hb03 := hb02.trans (hb3.mono hb02.size)
  refine seq_part (wq_p4 w3 _ _ w.heap.size comma comment expect lz tr re cm hcm F3.h9 hob3 hvc) ?_
  rintro x w4 ⟨l4, rfl, K4, hb4⟩
  have F4 := (F3.keep K4 rfl rfl rfl rfl rfl).put (k := 12) (u := .string ⟨(Csv.enc cm).toArray⟩) (by decide)
  have k11 : lk ((12, Value.string ⟨(Csv.enc cm).toArray⟩) :: l4) (fun _ => undef) 11 = .string ⟨(rows.flatten ++ (bf ++ [field])).flatten.toArray⟩ := by
    rw [lk_ne _ _ _ _ _ rfl, K4 11 rfl rfl]; simp only [lk, if_true]
  have k12 : lk ((12, Value.string ⟨(Csv.enc cm).toArray⟩) :: l4) (fun _ => undef) 12 = .string ⟨(Csv.enc cm).toArray⟩ := by simp only [lk, if_true]
  have hob4 := hob3.below hb4 hob3.lt
  have hb04 := hb03.trans (hb4.mono hb03.size)
  clear K3 K4 F2 F3 hob2 hob3 hb3 hb4 hb02 hb03
  revert F4 k11 k12
  generalize (12, Value.string ⟨(Csv.enc cm).toArray⟩) :: l4 = l5
  intro F4 k11 k12
  refine wp_seq_mid (fun a w' => ∃ l', a = Fr 135 l' (fun _ => undef) ∧ WqF l' (fun _ => undef) (.slice A rows.length c) (.slice A1 bf.length c1) field rest w.heap.size ∧ lk l' (fun _ => undef) 12 = .string ⟨(Csv.enc cm).toArray⟩ ∧ ((∀ s ∈ bf, Csv.CR ∉ s) ∧ (rest ≠ [] → Wrong (Csv.enc cm) rest)) ∧ w' = w4)
    (seq_part (wq_p5 w4 l5 _ _ _ _ _ _ _ _ _ k11 F4.h3 k12 (Contains_any w4 ⟨(rows.flatten ++ (bf ++ [field])).flatten.toArray⟩ ⟨#[13]⟩ (hL.next hb04).maxAt (by rw [size_mk]; exact hall)) (HasPrefix_any w4 ⟨rest.toArray⟩ ⟨#[34]⟩) (HasPrefix_any w4 ⟨rest.toArray⟩ ⟨#[10]⟩) (HasPrefix_any w4 ⟨rest.toArray⟩ ⟨#[13]⟩) (HasPrefix_any w4 ⟨rest.toArray⟩ ⟨(Csv.enc cm).toArray⟩)) ?_) ?_
  · rintro x w5 ⟨l6, b, rfl, K6, hb, rfl⟩
    cases b
    · refine wp_if_false rfl (by simp [lk]) (wp_skip ?_)
      simp only [Exit.then]
      obtain ⟨t1, t2, t3, t4, t5⟩ := hb rfl
      have t1' : Lib.contains (rows.flatten ++ (bf ++ [field])).flatten [13] = false := t1
      rw [contains_one] at t1'
      refine ⟨_, rfl, (F4.keep K6 rfl rfl rfl rfl rfl).put (by decide), by rw [lk_ne _ _ _ _ _ rfl, K6 12 rfl rfl, k12], ⟨mem_all t1', fun h => ⟨h, hasPrefix_one rest 34 t2, hasPrefix_one rest 10 t3, hasPrefix_one rest 13 t4, fun hp => ?_⟩⟩, trivial⟩
      have t5' : (Csv.enc cm).isPrefixOf rest = false := t5
      rw [List.isPrefixOf_iff_prefix.2 hp] at t5'
      cases t5'
    · refine wp_if_true rfl (by simp [lk]) (seq_part (wq_p6 w5 _ _ (awake_any G w5 m (hL.next hb04))) ?_)
      rintro x w6 ⟨l7, rfl, hb6⟩
      refine wp_ret ?_
      simp only [Exit.then]
      exact ret1 rfl rfl ⟨by simp [lk], hb04.trans (hb6.mono hb04.size)⟩
  rintro x w5 ⟨l6, rfl, F6, q12, ⟨hcr, hwr⟩, rfl⟩
  clear F4 k11 k12
  refine seq_part (wq_p7 w5 l6 _ w.heap.size comma comment expect lz tr re F6.h9 hob4) ?_
  rintro x w6 ⟨l7, rfl, K7, hO7, hob7⟩
  have hb06 := hb04.trans (hO7.below hb04.size (fun k e => by omega))
  have F7 := F6.keep K7 rfl rfl rfl rfl rfl
  have r12 := (K7 12 rfl rfl).trans q12
  clear K7 hO7 F6 q12 hob4 hb04
  refine seq_part (wq_p8 w6 l7 _ w.heap.size rows.length c A ⟨(tableL (Csv.enc cm) [Csv.NL] rows).toArray⟩ comma comment (-1) false false re cm hcm F7.h0 F7.h9 hob7 ?_) ?_
  · intro w8 hb8
    have hb08 := hb06.trans (hb8.mono hb06.size)
    exact table_any w8 (.slice A rows.length c) rows cm [Csv.NL] (hrows.next hb08) hvc (by simp) (hL.next hb08).maxAt hs (by omega)
  rintro x w7 ⟨l8, rfl, K8, hb7⟩
  have hb07 := hb06.trans (hb7.mono hb06.size)
  have hob8 := hob7.below hb7 hob7.lt
  have F8 := (F7.keep K8 rfl rfl rfl rfl rfl).put (k := 13) (u := .string ⟨(tableL (Csv.enc cm) [Csv.NL] rows).toArray⟩) (by decide)
  refine seq_part (wq_p9 w7 _ _ ⟨field.toArray⟩ ⟨(quoteL field).toArray⟩ _ F8.h2 (Quoted_any w7 field (hL.next hb07).maxAt hsf)) ?_
  rintro x w8 ⟨l9, rfl, K9, hb8⟩
  have hb08 := hb07.trans (hb8.mono hb07.size)
  have hob9 := hob8.below hb8 hob8.lt
  have F9 := (F8.keep K9 rfl rfl rfl rfl rfl).put (k := 14) (u := .string ⟨(quoteL field).toArray⟩) (by decide)
  have s12 : lk ((14, Value.string ⟨(quoteL field).toArray⟩) :: l9) (fun _ => undef) 12 = .string ⟨(Csv.enc cm).toArray⟩ := by
    rw [lk_ne _ _ _ _ _ rfl, K9 12 rfl rfl, lk_ne _ _ _ _ _ rfl, K8 12 rfl rfl, r12]
  have s13 : lk ((14, Value.string ⟨(quoteL field).toArray⟩) :: l9) (fun _ => undef) 13 = .string ⟨(tableL (Csv.enc cm) [Csv.NL] rows).toArray⟩ := by
    rw [lk_ne _ _ _ _ _ rfl, K9 13 rfl rfl]; simp only [lk, if_true]
  have s14 : lk ((14, Value.string ⟨(quoteL field).toArray⟩) :: l9) (fun _ => undef) 14 = .string ⟨(quoteL field).toArray⟩ := by simp only [lk, if_true]
  clear K8 K9 F7 F8 r12 hb7 hb8 hob7 hob8 hb06 hb07
  revert F9 s12 s13 s14
  generalize (14, Value.string ⟨(quoteL field).toArray⟩) :: l9 = l10
  intro F9 s12 s13 s14
  refine seq_part (R := fun a w' => ∃ l', a = Fr 135 l' (fun _ => undef) ∧ VKeeps wV [14] l10 (fun _ => undef) l' ∧ lk l' (fun _ => undef) 14 = .string ⟨(L0 field rest).toArray⟩ ∧ w' = w8) (seq_part (wq_p10 w8 l10 _ ⟨rest.toArray⟩ (decide (rest = [])) (isEmpty_bytes rest) F9.h3) ?_) ?_
  · rintro x w9 ⟨l11, rfl, K11, rfl⟩
    by_cases h0 : rest = []
    · refine wp_if_true rfl (by simp [lk, h0]) (last_part (wq_p11 w9 _ _ ⟨(quoteL field).toArray⟩ (Csv.QU :: dbl field).length (by rw [size_mk]; simp [quoteL]) ?_ (by rw [lk_ne _ _ _ _ _ rfl, K11 14 rfl rfl, s14])) ?_)
      · have := dbl_len field
        simp only [List.length_cons]
        omega
      · rintro x w10 ⟨l12, rfl, K12, rfl⟩
        refine NPost.mk ⟨_, rfl, VKeeps.set (by decide) (fun k a b => (K12 k a rfl).trans ((VKeeps.far (V := wV) (S := []) (by decide) K11) k a rfl)), ?_, rfl⟩
        rw [quoteL_cut]
        unfold L0
        rw [if_pos h0]
        simp only [lk, if_true]
    · refine wp_if_false rfl (by simp [lk, h0]) (wp_skip (NPost.mk ⟨_, rfl, fun k a b => (VKeeps.far (V := wV) (S := []) (by decide) K11) k a rfl, ?_, rfl⟩))
      unfold L0
      rw [if_neg h0, lk_ne _ _ _ _ _ rfl, K11 14 rfl rfl, s14]
  rintro x w9 ⟨l11, rfl, K11, t14, rfl⟩
  have F11 := F9.keep K11 rfl rfl rfl rfl rfl
  have t12 := (K11 12 rfl rfl).trans s12
  have t13 := (K11 13 rfl rfl).trans s13
  clear K11 F9 s12 s13 s14
  refine seq_part (R := fun a w' => ∃ l', a = Fr 135 l' (fun _ => undef) ∧ WqF l' (fun _ => undef) (.slice A rows.length c) (.slice A1 bf.length c1) field rest w.heap.size ∧ lk l' (fun _ => undef) 13 = .string ⟨(tableL (Csv.enc cm) [Csv.NL] rows).toArray⟩ ∧ lk l' (fun _ => undef) 14 = .string ⟨(wrongL (Csv.enc cm) bf (L0 field rest)).toArray⟩ ∧ Below w9.heap.size w9 w') (seq_part (wq_p12 w9 l11 _ A1 bf.length c1 (by omega) F11.h1) ?_) ?_
  · rintro x w10 ⟨l12, rfl, K12, rfl⟩
    have F12 := (F11.keep K12 rfl rfl rfl rfl rfl).put (k := 15) (u := .int .i64 ((bf.length : Int) - 1)) (by decide)
    refine last_part (wq_loop bf (Csv.enc cm) (L0 field rest) A1 c1 F12.h1 (by rw [lk_ne _ _ _ _ _ rfl, K12 12 rfl rfl, t12]) (by rw [lk_ne _ _ _ _ _ rfl, K12 14 rfl rfl, t14]) (by simp only [lk, if_true]) (hbf.next hb08) (hL.next hb08).maxAt hsb (by omega) (by omega)) ?_
    rintro x w11 ⟨l13, rfl, K13, u14, hb11⟩
    exact NPost.mk ⟨l13, rfl, F12.keep K13 rfl rfl rfl rfl rfl, by rw [K13 13 rfl rfl, lk_ne _ _ _ _ _ rfl, K12 13 rfl rfl, t13], u14, hb11⟩
  rintro x w10 ⟨l12, rfl, F12, u13, u14, hb10⟩
  have hb010 := hb08.trans (hb10.mono hb08.size)
  have hob10 := hob9.below hb10 hob9.lt
  clear F11 t12 t13 t14 hb10 hob9 hb08
  have htxt : (⟨(tableL (Csv.enc cm) [Csv.NL] rows).toArray⟩ : ByteArray) ++ ⟨(wrongL (Csv.enc cm) bf (L0 field rest)).toArray⟩ ++ ⟨rest.toArray⟩ = ⟨(badText (Csv.enc cm) rows bf field rest).toArray⟩ := by rw [bytes_app3, hBt]
  have hwr' : rest ≠ [] → Wrong (Csv.enc (optOf comma comment false false).comma) rest := by rw [hocm]; exact hwr
  have hsw := scan_wrong (rows := rows) (before := bf) (field := field) hval rfl hne hwr' re
  have htame := tame_wrong (before := bf) (field := field) hval rfl hwr' re rows hne (Csv.Ses.start (badText (Csv.enc cm) rows bf field rest) (-1)) (by rw [hocm]; rfl) rfl
  rw [hocm] at hsw
  obtain ⟨sl, a, sa, sr, sk, ss⟩ := hsw
  refine seq_part (wq_p16 w10 l12 _ w.heap.size rows.length c _ _ _ A comma comment (-1) false false re (fun av w' => ∃ B, AnsRow B w' av (Csv.scan (badText (Csv.enc cm) rows bf field rest) (optOf comma comment false false) (-1) re (readsL (rows.length + 1)))) u13 u14 F12.h3 F12.h0 F12.h9 hob10 (by omega) (by rw [size_mk, size_mk, size_mk]; omega) ?_) ?_
  · intro w11 sv hb11 hsv
    have hL11 := hL.next (hb010.trans (hb11.mono hb010.size))
    rw [htxt]
    refine (Scan_tame G w11 (badText (Csv.enc cm) rows bf field rest) (.slice none 0 0) [] false comma comment (-1) false false re sv (readsL (rows.length + 1)) m hL11.glob hL11.ety ⟨none, 0, rfl, Nat.le_refl _, by decide, fun h => absurd rfl h⟩ hsv hL11.max hL11.maxB (by simp only [readsL, List.length_replicate]; exact hB) htame).mono ?_
    rintro e w12 ⟨av, rfl, hb12, hrow⟩
    exact ⟨av, rfl, ⟨_, hrow⟩, hb12⟩
  rintro x w11 ⟨l13, av, rfl, K13, ⟨B, hrow⟩, hb11⟩
  have hb011 := hb010.trans (hb11.mono hb010.size)
  have F13 := (F12.keep K13 rfl rfl rfl rfl rfl).put (k := 16) (u := av) (by decide)
  obtain ⟨g7, c7, rv, lv, sv, vs, hav, hg7, p1, p2, p3, pc, _⟩ := hrow.parts sa
  rw [sl] at hav
  have v13 : lk ((16, av) :: l13) (fun _ => undef) 13 = .string ⟨(tableL (Csv.enc cm) [Csv.NL] rows).toArray⟩ := by rw [lk_ne _ _ _ _ _ rfl, K13 13 rfl rfl, u13]
  have v16 : lk ((16, av) :: l13) (fun _ => undef) 16 = .slice (some ⟨g7, 0, none⟩) (rows.length + 1) c7 := by rw [hav]; simp only [lk, if_true]
  clear K13 F12 u13 u14 hb11 hb010 hob10 htame hrow
  revert F13 v13 v16
  generalize (16, av) :: l13 = l14
  intro F13 v13 v16
  refine seq_part (R := fun a w' => ∃ l', a = Fr 135 l' (fun _ => undef) ∧ WqF l' (fun _ => undef) (.slice A rows.length c) (.slice A1 bf.length c1) field rest w.heap.size ∧ lk l' (fun _ => undef) 13 = .string ⟨(tableL (Csv.enc cm) [Csv.NL] rows).toArray⟩ ∧ lk l' (fun _ => undef) 16 = .slice (some ⟨g7, 0, none⟩) (rows.length + 1) c7 ∧ w' = w11) (seq_part (wq_p17 w11 l14 _ A _ rows.length c c7 (by omega) F13.h0 v16) ?_) ?_
  · rintro x w12 ⟨l15, rfl, K15, rfl⟩
    exact wp_if_false rfl (by simp [lk]) (wp_skip (NPost.mk ⟨_, rfl, (F13.keep K15 rfl rfl rfl rfl rfl).put (by decide), by rw [lk_ne _ _ _ _ _ rfl, K15 13 rfl rfl, v13], by rw [lk_ne _ _ _ _ _ rfl, K15 16 rfl rfl, v16], rfl⟩))
  rintro x w12 ⟨l15, rfl, F15, x13, x16, rfl⟩
  clear F13 v13 v16
  obtain ⟨A2, d2, e2, _⟩ := p1.form
  obtain ⟨A3, d3, e3, _⟩ := p2.form
  obtain ⟨A4, d4, e4, _⟩ := ownsRow_form p3.row
  have hrec : a.record = bf := sr.trans (map_unixL_noCR hcr)
  have pc0 := pc 0 _ rfl
  have pc1 := pc 1 _ rfl
  have pc2 := pc 2 _ rfl
  rw [e2] at pc0
  rw [e3] at pc1
  rw [e4] at pc2
  refine seq_part (wq_p19 w12 l15 _ g7 c7 rows.length c A A2 A3 A4 _ d2 _ d3 _ d4 _ _ _ _ _ _ _ _ F15.h0 x16 (by omega) pc0 pc1 pc2 (pc 3 _ rfl) (pc 4 _ rfl) (pc 5 _ rfl) (pc 6 _ rfl) (pc 7 _ rfl) (pc 8 _ rfl) (pc 9 _ rfl) (pc 10 _ rfl)) ?_
  rintro x w13 ⟨l16, rfl, K16, hb13, hbl13⟩
  have F16 := (F15.keep K16 rfl rfl rfl rfl rfl).put (k := 17) (u := .pointer (some ⟨w12.heap.size, 0, none⟩)) (by decide)
  have hb013 := hb011.trans (hb13.mono hb011.size)
  rw [sk, ss] at hbl13
  rw [e2] at p1
  have hcnt : (tableL (Csv.enc cm) [Csv.NL] rows).count Csv.NL ≤ (tableL (Csv.enc cm) [Csv.NL] rows).length := List.count_le_length
  refine seq_part (wq_p20 w13 _ _ w12.heap.size bf.length c1 ((tableL (Csv.enc cm) [Csv.NL] rows).count Csv.NL) ⟨(tableL (Csv.enc cm) [Csv.NL] rows).toArray⟩ A1 A2 A3 A4 _ d2 _ d3 _ d4 _ _ _ _ _ _ (by simp only [lk, if_true]) F16.h1 (by rw [lk_ne _ _ _ _ _ rfl, K16 13 rfl rfl, x13]) hbl13 (by omega) ?_ (fun w1 => Count_any w1 _)) ?_
  · have i1 := (p1.isIn.next hb13).next (drew_below w13)
    have i2 := (hbf.next hb013).next (drew_below w13)
    rw [hrec] at i1 ⊢
    exact Equal_in w13.drew _ _ bf i1 i2
  rintro x w14 ⟨l17, rfl, hb14⟩
  exact wp_ret (ret1 rfl rfl ⟨by simp [lk], hb013.trans (hb14.mono hb013.size)⟩)
end Go.Proofs.YtfadgnopfjajbaaGreatDoor
namespace Go.Proofs.YtfadgnopfjajbaaGreatDoor
open Go.ChangeShapes Go.WideShapes Go.ChangeAt Go.RowKit
set_option maxRecDepth 100000
theorem flat_wt : ∀ (t : List (List (List UInt8))), t.flatten.length ≤ wtT t
  | [] => Nat.le_refl _
  | r :: t => by
    have h1 := flat_wt t
    have h2 := wtR_len r
    simp only [List.flatten_cons, List.length_append, wtT]
    omega
theorem rowflat_wt : ∀ (r : List (List UInt8)), r.flatten.length ≤ wtR r
  | [] => Nat.zero_le _
  | s :: t => by
    have h1 := rowflat_wt t
    simp only [List.flatten_cons, List.length_append, wtR]
    omega
theorem flatflat_wt : ∀ (t : List (List (List UInt8))), t.flatten.flatten.length ≤ wtT t
  | [] => Nat.zero_le _
  | r :: t => by
    have h1 := flatflat_wt t
    have h2 := rowflat_wt r
    simp only [List.flatten_cons, List.flatten_append, List.length_append, wtT]
    omega
theorem wrongL_wt (c T : List UInt8) (hc : c.length ≤ 4) : ∀ (r : List (List UInt8)), (wrongL c r T).length ≤ 6 * wtR r + T.length
  | [] => by simp only [wrongL]; omega
  | s :: t => by
    have h1 := wrongL_wt c T hc t
    have h2 := dbl_len s
    simp only [wrongL, wtR, quoteL, List.length_append, List.length_cons, List.length_nil]
    omega
theorem lastL_wt (field rest : List UInt8) : (lastL field rest).length ≤ 2 * field.length + 2 + rest.length := by
  have h2 := dbl_len field
  unfold lastL
  split
  · simp only [List.length_cons]; omega
  · simp only [quoteL, List.length_append, List.length_cons, List.length_nil]; omega
theorem badText_wt (c : List UInt8) (hc : c.length ≤ 4) (rows : List (List (List UInt8))) (bf : List (List UInt8)) (field rest : List UInt8) : (badText c rows bf field rest).length ≤ 6 * wtT rows + 6 * wtR bf + (2 * field.length + 2 + rest.length) := by
  have h1 := tableL_wt c [Csv.NL] hc (by decide) rows
  have h2 := wrongL_wt c (lastL field rest) hc bf
  have h3 := lastL_wt field rest
  unfold badText
  rw [List.length_append]
  omega
section
variable {H : Type} {enc : TypeId × Value → H} {W : World}
theorem open_Strs {r : Go.Reach} {base : Nat} {v : Value} {d : DataW H} {ps : List MemPlace} (hv : Value.okWide Tryz.prog W r base 36 v) (h : DataW.Trod enc Tryz.prog W 0 (fun _ => true) true 36 v d ps) : ∃ r, StrIn W v r ∧ wtR r ≤ Rows.uptoBulk d := by
  obtain ⟨a0, len0, cap0, rfl⟩ := okWide_slice Tryz.underlying36 hv
  obtain ⟨fuel, hf⟩ := h
  have hcells : (Value.slice a0 len0 cap0).cells.toList = [Value.slice a0 len0 cap0] := rfl
  rw [hcells] at hf
  exact open_strs_in hf
theorem open_Str {r : Go.Reach} {base : Nat} {v : Value} {d : DataW H} {ps : List MemPlace} (hv : Value.okWide Tryz.prog W r base 9 v) (h : DataW.Trod enc Tryz.prog W 0 (fun _ => true) true 9 v d ps) : ∃ s : List UInt8, v = .string ⟨s.toArray⟩ ∧ s.length ≤ Rows.uptoBulk d := by
  obtain ⟨s0, rfl⟩ := okWide_string Tryz.underlying9 hv
  obtain ⟨fuel, hf⟩ := h
  have hcells : (Value.string s0).cells.toList = [Value.string s0] := rfl
  rw [hcells] at hf
  obtain ⟨s, e0, e1, _⟩ := DataW.trod_string Tryz.underlying9 hf
  simp only [List.cons.injEq, and_true, Value.string.injEq] at e0
  subst e0
  simp only [Prod.mk.injEq] at e1
  obtain ⟨rfl, _⟩ := e1
  exact ⟨s0.data.toList, rfl, by simp only [Rows.uptoBulk]; omega⟩
theorem trodAll_five {P : Program} {base : Nat} {spare : Nat → Bool} {held : Bool} {t1 t2 t3 t4 t5 : TypeId} {args : Array Value} {ds : List (DataW H)} {ps : List MemPlace} (h : DataW.TrodAll enc P W base spare held [t1, t2, t3, t4, t5] args.toList ds ps) :
    ∃ v1 v2 v3 v4 v5 d1 d2 d3 d4 d5 p1 p2 p3 p4 p5, args = #[v1, v2, v3, v4, v5] ∧ ds = [d1, d2, d3, d4, d5] ∧ ps = p1 ++ (p2 ++ (p3 ++ (p4 ++ p5))) ∧ DataW.Trod enc P W base spare held t1 v1 d1 p1 ∧ DataW.Trod enc P W base spare held t2 v2 d2 p2 ∧ DataW.Trod enc P W base spare held t3 v3 d3 p3 ∧ DataW.Trod enc P W base spare held t4 v4 d4 p4 ∧ DataW.Trod enc P W base spare held t5 v5 d5 p5 := by
  obtain ⟨v1, vs1, d1, ds1, p1, q1, hargs, rfl, rfl, h1, r1⟩ := trodAll_cons h
  obtain ⟨v2, vs2, d2, ds2, p2, q2, rfl, rfl, rfl, h2, r2⟩ := trodAll_cons r1
  obtain ⟨v3, vs3, d3, ds3, p3, q3, rfl, rfl, rfl, h3, r3⟩ := trodAll_cons r2
  obtain ⟨v4, vs4, d4, ds4, p4, q4, rfl, rfl, rfl, h4, r4⟩ := trodAll_cons r3
  obtain ⟨v5, vs5, d5, ds5, p5, q5, rfl, rfl, rfl, h5, r5⟩ := trodAll_cons r4
  obtain ⟨rfl, rfl, rfl⟩ := trodAll_nil r5
  exact ⟨v1, v2, v3, v4, v5, d1, d2, d3, d4, d5, p1, p2, p3, p4, p5, by cases args; simp_all, rfl, by simp, h1, h2, h3, h4, h5⟩
theorem trodAll_mk5 {P : Program} {base : Nat} {spare : Nat → Bool} {held : Bool} {t1 t2 t3 t4 t5 : TypeId} {v1 v2 v3 v4 v5 : Value} {d1 d2 d3 d4 d5 : DataW H} {p1 p2 p3 p4 p5 : List MemPlace} (h1 : DataW.Trod enc P W base spare held t1 v1 d1 p1) (h2 : DataW.Trod enc P W base spare held t2 v2 d2 p2) (h3 : DataW.Trod enc P W base spare held t3 v3 d3 p3) (h4 : DataW.Trod enc P W base spare held t4 v4 d4 p4) (h5 : DataW.Trod enc P W base spare held t5 v5 d5 p5) :
    DataW.TrodAll enc P W base spare held [t1, t2, t3, t4, t5] [v1, v2, v3, v4, v5] [d1, d2, d3, d4, d5] (p1 ++ (p2 ++ (p3 ++ (p4 ++ p5)))) := ⟨p1, p2 ++ (p3 ++ (p4 ++ p5)), h1, ⟨p2, p3 ++ (p4 ++ p5), h2, trodAll_mk3 h3 h4 h5, rfl⟩, rfl⟩
end
theorem lists_wq : Lists Rows.fnWrongQuoteFoundUptoRow.laid :=
  ⟨List.mem_of_getElem? (i := 2) rfl, List.mem_of_getElem? (i := 7) rfl, List.mem_of_getElem? (i := 8) rfl, List.mem_of_getElem? (i := 9) rfl, List.mem_of_getElem? (i := 5) rfl, List.mem_of_getElem? (i := 10) rfl, List.mem_of_getElem? (i := 1) rfl, List.mem_of_getElem? (i := 11) rfl, List.mem_of_getElem? (i := 0) rfl, List.mem_of_getElem? (i := 4) rfl⟩
namespace fnWrongQuoteFound
noncomputable def wArgs : Array Value := #[.slice none 0 0, .slice none 0 0, .string ⟨#[]⟩, .string ⟨#[]⟩, .agg #[.int .i32 0, .int .i32 0, .int .i64 0, .bool false, .bool false, .bool false]]
theorem laid_met (os : Os) : laidMetH Tryz.prog Rows.fnWrongQuoteFoundUptoRow.laid ((laidWorld os).forCall (fun _ _ => 0) ⟨#[], wArgs, []⟩).memory :=
  laidMetH_of_parts (laidMet_of_run' 8 (by kernel_rfl) (by kernel_rfl)) (by kernel_rfl)
theorem reads (os : Os) {H : Type} (enc : TypeId × Value → H) : ∃ places, DataW.whole enc Tryz.prog ((laidWorld os).forCall (fun _ _ => 0) ⟨#[], wArgs, []⟩).memory Tryz.f5.params.toList Rows.fnWrongQuoteFoundSpec.vars false wArgs.toList 8 =
    some ([.nil, .nil, .lit (.string []), .lit (.string []), .agg [.lit (.int .i32 0), .lit (.int .i32 0), .lit (.int .i64 0), .lit (.bool false), .lit (.bool false), .lit (.bool false)]], [], places) :=
  ⟨[], by kernel_rfl⟩
theorem contract (H : Type) (enc : TypeId × Value → H) (F : Stop.Interp) (W : World) (base : Nat) (args : Array Value) (ds gs : List (DataW H)) (before : List MemPlace)
    (hval : ∀ (j : Nat) t v, Tryz.f5.params[j]? = some t → args[j]? = some v → Value.okWide Tryz.prog W .any base t v)
    (hW : DataW.Whole enc Tryz.prog Tryz.f5.params.toList Rows.fnWrongQuoteFoundSpec.vars false W args.toList ds gs before) (hk : Rows.uptoSmall H (ds ++ gs) = true) (hL : laidMetH Tryz.prog Rows.fnWrongQuoteFoundUptoRow.laid W) (hsh : W.ShapedOpen Tryz.prog) :
    Calls Tryz.prog 5 args W fun e W' => ∃ v, e = .returned v ∧ ((Rows.OpenSpec.upto Rows.fnWrongQuoteFoundSpec).at F).post enc Tryz.prog Tryz.f5 false true false false W args v W' := by
  have hW' := hW
  obtain ⟨p, q, hA0, hV0, rfl, _, _⟩ := hW
  have hA : DataW.TrodAll enc Tryz.prog W 0 (fun _ => true) true Tryz.f5.params.toList args.toList ds p := hA0
  rw [Tryz.params5] at hA hval
  obtain ⟨v0, v1, v2, v3, v4, d0, d1, d2, d3, d4, p0, p1, p2, p3, p4, rfl, rfl, rfl, h0, h1, h2, h3, h4⟩ := trodAll_five hA
  obtain ⟨rfl, rfl⟩ := trodVars_none hV0
  clear hA0 hV0 hA
  simp only [List.append_nil] at hW' hk
  have hb : Rows.uptoBulkAll [d0, d1, d2, d3, d4] ≤ 1048576 := of_decide_eq_true hk
  simp only [Rows.uptoBulkAll] at hb
  have hlt : ∀ x ∈ p0 ++ (p1 ++ (p2 ++ (p3 ++ p4))), x.block < W.heap.size := fun x hx => hW'.lt x hx
  obtain ⟨rows, hrows, b0⟩ := open_Table (hval 0 33 v0 rfl rfl) h0
  obtain ⟨bf, hbf, b1⟩ := open_Strs (hval 1 36 v1 rfl rfl) h1
  obtain ⟨field, rfl, b2⟩ := open_Str (hval 2 9 v2 rfl rfl) h2
  obtain ⟨rest, rfl, b3⟩ := open_Str (hval 3 9 v3 rfl rfl) h3
  obtain ⟨comma, comment, expect, lz, tr, re, rfl, _, _⟩ := open_Options (hval 4 26 v4 rfl rfl) h4
  obtain ⟨G, m, hLaid⟩ := laid_of lists_wq hL hsh
  have hwt : wtT rows + wtR bf + field.length + rest.length ≤ 1048576 := by omega
  have w1 := wtT_len rows
  have w2 := flat_wt rows
  have w3 := flatflat_wt rows
  have w4 := rowflat_wt bf
  have w5 := wtR_len bf
  refine (FnWrongQuoteFound_any G W m hLaid v0 v1 rows bf field rest comma comment expect lz tr re hrows hbf (fun r hr s hs => by have := wtT_mem r hr; have := wtR_mem s hs; omega) (fun s hs => by have := wtR_mem s hs; omega) (by omega) (by omega) (by omega)
    (by simp only [List.flatten_append, List.length_append, List.flatten_cons, List.flatten_nil, List.append_nil]; omega) (fun c hc => by have := badText_wt c hc rows bf field rest; omega)).mono ?_
  rintro e W' ⟨rfl, bel⟩
  have e1 : ((Rows.OpenSpec.upto Rows.fnWrongQuoteFoundSpec).at F).fn H ([d0, d1, d2, d3, d4] ++ []) = { results := [.lit (.bool true)], args := [d0, d1, d2, d3, d4] } := rfl
  refine ⟨_, rfl, _, _, _, [], p0 ++ (p1 ++ (p2 ++ (p3 ++ p4))), [], hW', ?_, ?_, ?_, bel.frame _, fun h => by cases h⟩
  · rw [e1]; exact trodAll_mk1 (shut_bool Tryz.underlying4 true)
  · rw [e1]
    exact trodAll_mk5 (Below.trod laidOut (by kernel_rfl) (of_decide_eq_true (by kernel_rfl)) h0 bel (fun x hx => hlt x (by simp [hx]))) (Below.trod laidOut (by kernel_rfl) (of_decide_eq_true (by kernel_rfl)) h1 bel (fun x hx => hlt x (by simp [hx]))) (Below.trod laidOut (by kernel_rfl) (of_decide_eq_true (by kernel_rfl)) h2 bel (fun x hx => hlt x (by simp [hx]))) (Below.trod laidOut (by kernel_rfl) (of_decide_eq_true (by kernel_rfl)) h3 bel (fun x hx => hlt x (by simp [hx]))) (Below.trod laidOut (by kernel_rfl) (of_decide_eq_true (by kernel_rfl)) h4 bel (fun x hx => hlt x (by simp [hx])))
  · rw [e1]; rfl
theorem lifted (os : Os) (started : os.Started) (H : Type) (enc : TypeId × Value → H) (F : Stop.Interp) :
    ReturnsInHanded {} Tryz.checked os 5 .any ((Rows.OpenSpec.upto Rows.fnWrongQuoteFoundSpec).preRow enc Tryz.prog Tryz.f5 Rows.fnWrongQuoteFoundUptoRow.domain false Rows.fnWrongQuoteFoundUptoRow.laid) (((Rows.OpenSpec.upto Rows.fnWrongQuoteFoundSpec).at F).post enc Tryz.prog Tryz.f5 false true false false) := by
  obtain ⟨places, hx⟩ := reads os enc
  refine returnsInHanded_of_row (C := Tryz.checked) (s := Rows.OpenSpec.upto Rows.fnWrongQuoteFoundSpec) own started (by kernel_rfl) Tryz.func5
    (witness_row_atRef (enc := enc) (C := Tryz.checked) false (laidWorld os) wArgs rfl (by kernel_rfl) (by kernel_rfl) (by kernel_rfl)
      (OpenSpec.preRow_of_cond 8 hx (by kernel_rfl) (fun k hk => by cases hk; kernel_rfl) (by kernel_rfl) (laid_met os))) ?_
  intro W base args ds gs before hval hW _ hcond _ hL hsh _
  exact contract H enc F W base args ds gs before hval hW (hcond _ rfl) hL hsh
theorem saidUpto : Rows.FnWrongQuoteFoundUptoSaid :=
  OpenClaim.holds_of_cond 5 Tryz.f5 rfl rfl rfl rfl rfl rfl rfl ⟨rfl, rfl, rfl, rfl, rfl⟩ rfl rfl rfl rfl rfl (by kernel_rfl) Tryz.func5 (by kernel_rfl)
    (of_decide_eq_true (by kernel_rfl)) (by unfold Func.isWrapper; first | (rw [if_pos (by decide +kernel)]; kernel_rfl) | (rw [if_neg (by decide +kernel)]; exact ⟨rfl, rfl⟩))
    (fun os started H enc _ F => by rw [OpenClaim.pre_eq_preRow]; exact lifted os started H enc F)
theorem plain (f : FuncId) (fn : Func) (hf : Tryz.pinned.checked.prog.funcNamed "lib-commaleaf/laws.FnWrongQuoteFound" = some f) (hfn : Tryz.pinned.checked.prog.funcs[f]? = some fn) :
    true = Tryz.pinned.checked.prog.looks [] ∧ ∀ (j : Nat) t, fn.params[j]? = some t → Tryz.pinned.checked.prog.wantsStandIn t = false := by
  obtain rfl : f = 5 := Option.some.inj ((show Tryz.prog.funcNamed "lib-commaleaf/laws.FnWrongQuoteFound" = some 5 by kernel_rfl).symm.trans hf) |>.symm
  obtain rfl : fn = Tryz.f5 := (Option.some.inj (Tryz.func5.symm.trans hfn)).symm
  refine ⟨by kernel_rfl, fun j t ht => ?_⟩
  rw [Tryz.params5] at ht
  have hm := Array.mem_of_getElem? ht
  have hd : t = 33 ∨ t = 36 ∨ t = 9 ∨ t = 26 := by simpa using hm
  rcases hd with rfl | rfl | rfl | rfl
  · exact (show Tryz.prog.wantsStandIn 33 = false by kernel_rfl)
  · exact (show Tryz.prog.wantsStandIn 36 = false by kernel_rfl)
  · exact (show Tryz.prog.wantsStandIn 9 = false by kernel_rfl)
  · exact (show Tryz.prog.wantsStandIn 26 = false by kernel_rfl)
end fnWrongQuoteFound
/-- FnWrongQuoteFound holds for every input of bulk at most 2^20. -/
theorem FnWrongQuoteFound_card : Rows.FnWrongQuoteFoundUptoCardSaid :=
  Claim7.holds_tied_plain_at .later [] _ _ _ _ fnWrongQuoteFound.saidUpto (fun _ h => by cases h) (by kernel_rfl) (fun _ h => by cases h) fnWrongQuoteFoundUpto_row_tie rfl ⟨rfl, rfl⟩ (by kernel_rfl) rfl fnWrongQuoteFound.plain (by kernel_rfl)
end Go.Proofs.YtfadgnopfjajbaaGreatDoor
