/- A part of the proof: laws.FnQuotedTables. Tables as they come in; the row and the card of FnQuotedTables. A row of quoted fields whose last one is wrong: what the parser makes of it. slices.Grow at nil, slices.Concat. -/
import Derived.Test.YtfadgnopfjajbaaGreatDoorP20
import Derived.Lib.AppendZeros
namespace Go.Proofs.YtfadgnopfjajbaaGreatDoor
open Go.RowKit
theorem WInv.only {B : Nat} {w w' : World} {wb ob : Nat} {ws : List Value} {wr : List (List (List UInt8))} (h : WInv B w wb ws wr) (hO : Only (fun k => k = ob) w w') (hob : ob < B) : WInv B w' wb ws wr :=
  ⟨h.blk.only hO (by have := h.wbB; omega), h.wbB, h.len, fun k u r h1 h2 => (h.each k u r h1 h2).only hO (fun g hg e => by have := (own_lt (h.each k u r h1 h2) hg).1; omega), h.apart⟩
theorem legal_valid {comma comment : Int} {lz tr : Bool} (h : LegalO (if comma = 0 then 44 else comma) comment) : (optOf comma comment lz tr).valid = true := by
  obtain ⟨⟨h1, _⟩, h2⟩ := h
  unfold Csv.Opt.valid
  show (!((if comma = 0 then 44 else comma) == comment) && Csv.validDelim (if comma = 0 then 44 else comma) && (comment == 0 || Csv.validDelim comment)) = true
  rw [h1]
  rcases h2 with rfl | ⟨⟨h3, _⟩, h4⟩
  · have : ((if comma = 0 then (44 : Int) else comma) == 0) = false := by
      rw [beq_eq_false_iff_ne]
      split
      · decide
      · assumption
    rw [this]; rfl
  · have : ((if comma = 0 then (44 : Int) else comma) == comment) = false := by
      rw [beq_eq_false_iff_ne]; exact fun e => h4 e.symm
    rw [this, h3]; simp
/-- All rows. -/
theorem qt_outer {G : Glob} {m : Int} {w0 w3 w : World} {l : List (Nat × Value)} {f : Nat → Value} {crlf : Bool} {ob wb c : Nat} {A : Option Addr} {rows : List (List (List UInt8))} {ws : List Value} {Q : Exit → Act → World → Prop} (hF : UF l f (.slice A rows.length c) crlf ob wb rows.length) (h27 : lk l f 27 = .int .i64 ((0 : Nat) : Int))
    (hrows : RowsIn w0 (.slice A rows.length c) rows) (hb03 : Below w0.heap.size w0 w3) (hL : Laid w3 G m) (hb : Below w3.heap.size w3 w) (hW : WInv w3.heap.size w wb ws (wantO rows 0)) (hs : ∀ r ∈ rows, ∀ s ∈ r, s.length < 4294967281) (hlen : ∀ r ∈ rows, r.length < 1000000000)
    (hN : ∀ l' w' ws', UF l' f (.slice A rows.length c) crlf ob wb rows.length → Below w3.heap.size w3 w' → WInv w3.heap.size w' wb ws' (rows.map (·.map unixL)) → Q .normal (Fr 65 l' f) w')
    (hR : ∀ l' w', Below w3.heap.size w3 w' → Q .ret (Fr 65 ((6, .bool true) :: l') f) w') :
    qtOut.wp Tryz.prog Q (Fr 65 l f) w := by
  unfold qtOut
  obtain ⟨_, _, _, hrl, _⟩ := id hrows
  refine wp_block ?_
  refine wp_loop_n (fun k a w' => ∃ l' ws', a = Fr 65 l' f ∧ UF l' f (.slice A rows.length c) crlf ob wb rows.length ∧ lk l' f 27 = .int .i64 ((rows.length - k : Nat) : Int) ∧ k ≤ rows.length ∧ Below w3.heap.size w3 w' ∧ WInv w3.heap.size w' wb ws' (wantO rows (rows.length - k))) rows.length ⟨l, ws, rfl, hF, by rw [Nat.sub_self]; exact h27, Nat.le_refl _, hb, by rw [Nat.sub_self]; exact hW⟩ ?_
  rintro k a w1 ⟨l1, ws1, rfl, hF1, g27, hk, hb1, hW1⟩
  refine seq_part (qt_p5 w1 l1 f (rows.length - k) rows.length g27 hF1.h26) ?_
  rintro x w2 ⟨l2, rfl, K2, rfl⟩
  have hF2 : UF ((28, .bool (decide (rows.length - k < rows.length))) :: l2) f (.slice A rows.length c) crlf ob wb rows.length := (hF1.keep (K2.mono (S' := uS) (fun _ _ => rfl))).put (by decide)
  have q28 : lk ((28, .bool (decide (rows.length - k < rows.length))) :: l2) f 28 = .bool (decide (rows.length - k < rows.length)) := by simp [lk]
  have q27 : lk ((28, .bool (decide (rows.length - k < rows.length))) :: l2) f 27 = .int .i64 ((rows.length - k : Nat) : Int) := by rw [lk_ne _ _ _ _ _ rfl, K2 27 rfl rfl, g27]
  revert hF2 q28 q27
  generalize (28, Value.bool (decide (rows.length - k < rows.length))) :: l2 = l3
  intro hF2 q28 q27
  by_cases hlt : rows.length - k < rows.length
  · rw [decide_eq_true hlt] at q28
    refine seq_part (R := fun a w => a = Fr 65 l3 f ∧ w = w2) (wp_if_true rfl q28 (wp_skip (NPost.mk ⟨rfl, rfl⟩))) ?_
    rintro a w4 ⟨rfl, rfl⟩
    obtain ⟨rb, ro, rc, u, A', uc, hv', hcell, hstr, hu, hrb⟩ := (hrows.next hb03).at hlt
    injection hv' with e1 _ e2
    subst e1 e2 hu
    have hcell4 := (hb1.cell (p := ⟨rb, ro + (rows.length - k), none⟩) hrb).trans hcell
    refine wp_seq_mid (fun a w' => ∃ l' ws', a = Fr 65 l' f ∧ UF l' f (.slice (some ⟨rb, ro, none⟩) rows.length c) crlf ob wb rows.length ∧ lk l' f 27 = .int .i64 ((rows.length - k : Nat) : Int) ∧ Below w3.heap.size w3 w' ∧ WInv w3.heap.size w' wb ws' (wantO rows (rows.length - k + 1))) ?_ ?_
    · refine wp_block ?_
      refine seq_part (qt_p6 w4 l3 f rb ro (rows.length - k) rows.length c A' _ uc q27 hF2.h25 hlt hcell4) ?_
      rintro x w5 ⟨l5, rfl, K5, k8, k9, rfl⟩
      have hF5 := hF2.keep (K5.mono (S' := uS) (by intro k; simp <;> omega))
      refine seq_part (qt_p7 w5 l5 f A' _ uc k9) ?_
      rintro x w6 ⟨l6, rfl, K6, k32, k33, k34, rfl⟩
      have hF6 := hF5.keep (K6.mono (S' := uS) (by intro k; simp <;> omega))
      have hWn := hW1
      rw [wantO_nil hlt] at hWn
      refine qt_inner (ws := ws1) (G := G) (m := m) hlt hF6 (by rw [K6 27 rfl rfl, K5 27 rfl rfl, q27]) (by rw [K6 8 rfl rfl, k8]) k32 k33 k34 hstr hL hb1 hWn (hs _ (List.getElem_mem hlt)) (hlen _ (List.getElem_mem hlt)) ?_ ?_
      · intro l' w' ws' h1 h2 h3 h4
        simp only [Exit.then, Exit.inBlock]
        exact ⟨l', ws', rfl, h1, h2, h3, h4⟩
      · intro l' w' h1
        simp only [Exit.then, Exit.inBlock]
        exact hR l' w' h1
    · rintro x w5 ⟨l5, ws5, rfl, hF5, t27, hb5, hW5⟩
      refine last_part (qt_p14 w5 l5 f (rows.length - k) t27 (by omega)) ?_
      rintro x w6 ⟨l6, rfl, K6, rfl⟩
      have e5 := sub_pred hlt hk
      refine ⟨k - 1, pred_lt hlt, _, ws5, rfl, (hF5.keep (K6.mono (S' := uS) (fun _ _ => rfl))).put (by decide), ?_, pred_le hk, hb5, by rw [e5]; exact hW5⟩
      rw [e5]; simp only [lk, if_true]
  · rw [decide_eq_false hlt] at q28
    have e := sub_same hlt
    rw [e, wantO_end] at hW1
    refine wp_seq (wp_if_false rfl q28 (wp_exit ?_))
    simp only [Exit.then, Exit.inBlock, if_true]
    exact hN l3 w2 ws1 hF2 hb1 hW1
/-- FnQuotedTables holds. -/
theorem FnQuotedTables_any (G : Glob) (w : World) (m : Int) (hL : Laid w G m) (v : Value) (rows : List (List (List UInt8))) (comma comment expect : Int) (lz tr re crlf : Bool) (hrows : RowsIn w v rows) (hs : ∀ r ∈ rows, ∀ s ∈ r, s.length < 4294967281) (hlen : ∀ r ∈ rows, r.length < 1000000000) (hn : rows.length < 100000000)
    (hbig : ∀ c e : List UInt8, c.length ≤ 4 → e.length ≤ 2 → 2 * (tableL c e rows).length + (rows.length + 2) < 268435450) :
    Calls Tryz.prog 4 [v, .agg (optCells comma comment expect lz tr re).toArray, .bool crlf].toArray w fun x w' => x = .returned (.bool true) ∧ Below w.heap.size w w' := by
  obtain ⟨A, c, hvv, hrl, _⟩ := id hrows
  rw [hvv] at hrows ⊢
  refine enter 65 Tryz.func4 rfl rfl (by simp) ?_
  show qtBody.wp _ _ _ _
  rw [qt_eq]
  refine seq_part (qt_p0 w _ _ comma comment expect lz tr re rfl) ?_
  rintro x w1 ⟨l1, rfl, K1, k4, hb1, hob1⟩
  have k0 : lk l1 (fun _ => undef) 0 = .slice A rows.length c := (K1 0 rfl rfl).trans rfl
  have k2 : lk l1 (fun _ => undef) 2 = .bool crlf := (K1 2 rfl rfl).trans rfl
  refine wp_seq_mid (fun a w' => ∃ l', a = Fr 65 l' (fun _ => undef) ∧ VKeeps uV [] l1 (fun _ => undef) l' ∧ (LegalO (if comma = 0 then 44 else comma) comment ∧ ∀ r ∈ rows, r ≠ []) ∧ Below w1.heap.size w1 w') (seq_part (qt_p1 w1 l1 _ w.heap.size rows.length c A rows comma comment expect lz tr re _ rfl k0 k4 hob1 (hL.next hb1).maxAt (hrows.next hb1)) ?_) ?_
  · rintro x w2 ⟨l2, b, rfl, K2, hb, hb2⟩
    cases b
    · refine wp_if_false rfl (by simp [lk]) (wp_skip ?_)
      simp only [Exit.then]
      exact ⟨_, rfl, VKeeps.far rfl K2, hb rfl, hb2⟩
    · have hb02 := hb1.trans (hb2.mono hb1.size)
      refine wp_if_true rfl (by simp [lk]) (seq_part (qt_p2 w2 _ _ (awake_any G w2 m (hL.next hb02))) ?_)
      rintro x w3 ⟨l3, rfl, hb3⟩
      refine wp_ret ?_
      simp only [Exit.then]
      exact ret1 rfl rfl ⟨by simp [lk], hb02.trans (hb3.mono hb02.size)⟩
  rintro x w2 ⟨l2, rfl, K2, ⟨hLeg, hne⟩, hb2⟩
  have hb02 := hb1.trans (hb2.mono hb1.size)
  have hob2 := hob1.below hb2 hob1.lt
  refine seq_part (qt_p3 w2 l2 _ A rows.length c ((K2 0 rfl rfl).trans k0) (by omega)) ?_
  rintro x w3 ⟨l3, rfl, K3, hb3, hbk3⟩
  refine wp_seq_mid (fun a w' => ∃ l' ws', a = Fr 65 l' (fun _ => undef) ∧ UF l' (fun _ => undef) (.slice A rows.length c) crlf w.heap.size w2.heap.size rows.length ∧ Below w2.heap.size w2 w' ∧ WInv w2.heap.size w' w2.heap.size ws' (rows.map (·.map unixL))) (seq_part (qt_p4 w3 _ _ A rows.length c (by rw [lk_ne _ _ _ _ _ rfl, K3 0 rfl rfl, K2 0 rfl rfl, k0])) ?_) ?_
  · rintro x w4 ⟨l4, rfl, K4, k25, k26, k27, rfl⟩
    have hF4 : UF l4 (fun _ => undef) (.slice A rows.length c) crlf w.heap.size w2.heap.size rows.length :=
      ⟨by rw [K4 0 rfl rfl, lk_ne _ _ _ _ _ rfl, K3 0 rfl rfl, K2 0 rfl rfl, k0], by rw [K4 2 rfl rfl, lk_ne _ _ _ _ _ rfl, K3 2 rfl rfl, K2 2 rfl rfl, k2], by rw [K4 4 rfl rfl, lk_ne _ _ _ _ _ rfl, K3 4 rfl rfl, K2 4 rfl rfl, k4], by rw [K4 7 rfl rfl]; simp [lk], k25, k26⟩
    refine qt_outer (G := G) (m := m) (w0 := w) (w3 := w2) (ws := List.replicate rows.length (.slice none 0 0)) hF4 k27 hrows hb02 (hL.next hb02) hb3 (by rw [wantO_start]; exact WInv.start hbk3 (Nat.le_refl _)) hs hlen ?_ ?_
    · intro l' w' ws' g1 g2 g3
      simp only [Exit.then]
      exact ⟨l', ws', rfl, g1, g2, g3⟩
    · intro l' w' g1
      simp only [Exit.then]
      exact ret1 rfl rfl ⟨by simp [lk], hb02.trans (g1.mono hb02.size)⟩
  rintro x w4 ⟨l4, ws4, rfl, hF4, hb4, hW4⟩
  have hob4 := hob2.below hb4 hob2.lt
  refine seq_part (qt_p15 w4 l4 _) ?_
  rintro x w5 ⟨rfl, rfl⟩
  have hF5 := hF4.put (k := 12) (u := .string ⟨#[10]⟩) (by decide)
  refine seq_part (R := fun a w' => ∃ l' e, a = Fr 65 l' (fun _ => undef) ∧ UF l' (fun _ => undef) (.slice A rows.length c) crlf w.heap.size w2.heap.size rows.length ∧ lk l' (fun _ => undef) 12 = .string ⟨e.toArray⟩ ∧ (e = [Csv.NL] ∨ e = [Csv.CR, Csv.NL]) ∧ w' = w5) (seq_part (qt_p16 w5 _ _ crlf hF5.h2) ?_) ?_
  · rintro x w6 ⟨rfl, rfl⟩
    have hF6 := hF5.put (k := 54) (u := .bool crlf) (by decide)
    cases crlf
    · exact wp_if_false rfl (by simp [lk]) (wp_skip (NPost.mk ⟨_, [Csv.NL], rfl, hF6, by simp [lk], .inl rfl, rfl⟩))
    · refine wp_if_true rfl (by simp [lk]) (last_part (qt_p17 w6 _ _) ?_)
      rintro x w7 ⟨rfl, rfl⟩
      exact NPost.mk ⟨_, [Csv.CR, Csv.NL], rfl, hF6.put (by decide), by simp [lk], .inr rfl, rfl⟩
  rintro x w6 ⟨l6, e, rfl, hF6, k12, he, rfl⟩
  refine seq_part (qt_p18 w6 l6 _ w.heap.size comma comment expect lz tr re hF6.h4 hob4) ?_
  rintro x w7 ⟨l7, rfl, K7, hO7, hob7⟩
  have hsz2 := hob2.lt
  have hW7 := hW4.only hO7 hsz2
  have hb06 := hb02.trans (hb4.mono hb02.size)
  have hb07 := hb06.trans (hO7.below hb06.size (fun k e => by omega))
  have hF7 := hF6.keep (K7.mono (S' := uS) (fun _ _ => rfl))
  have hel : e.length ≤ 2 := by rcases he with rfl | rfl <;> decide
  have hen : e ≠ [] := by rcases he with rfl | rfl <;> decide
  have hval := legal_valid (lz := lz) (tr := tr) hLeg
  have hvc : Utf8.valid (optOf comma comment lz tr).comma = true := hLeg.1.2
  have hTs := hbig (Csv.enc (optOf comma comment lz tr).comma) e (enc_le hvc) hel
  have hwl : (rows.map (·.map unixL)).length = rows.length := by simp
  refine seq_part (qt_p19 w7 l7 _ w.heap.size rows.length c rows.length rows.length A (some ⟨w2.heap.size, 0, none⟩) ⟨e.toArray⟩ ⟨(tableL (Csv.enc (optOf comma comment lz tr).comma) e rows).toArray⟩ comma comment (-1) lz tr re (optOf comma comment lz tr).comma rfl hF7.h0 hF7.h7 ((K7 12 rfl rfl).trans k12) hF7.h4 hob7 ?_ ?_) ?_
  · intro w8 hb8
    have hb08 := hb07.trans (hb8.mono hb07.size)
    exact table_any w8 (.slice A rows.length c) rows _ e (hrows.next hb08) hvc hen (hL.next hb08).maxAt hs (by omega)
  · intro w8 hb8
    have hb08 := hb07.trans (hb8.mono hb07.size)
    have hin := (hW7.isIn (by rw [hwl]; omega)).next hb8
    rw [hwl] at hin
    exact found_any G w8 m (hL.next hb08) comma comment lz tr re e rows _ hval he hne hin hTs
  rintro x w8 ⟨l8, rfl, hb8⟩
  exact wp_ret (ret1 rfl rfl ⟨by simp [lk], hb07.trans (hb8.mono hb07.size)⟩)
end Go.Proofs.YtfadgnopfjajbaaGreatDoor
namespace Go.Proofs.YtfadgnopfjajbaaGreatDoor
open Go.ChangeShapes Go.WideShapes Go.ChangeAt Go.RowKit
set_option maxRecDepth 100000
theorem cells_strs : Tryz.prog.cellsOf 36 = 1 := by kernel_rfl
/-- What a row, a table weighs. -/
def wtR : List (List UInt8) → Nat
  | [] => 1
  | s :: t => (s.length + 1) + wtR t
def wtT : List (List (List UInt8)) → Nat
  | [] => 0
  | r :: t => wtR r + wtT t
theorem wtR_mem {r : List (List UInt8)} : ∀ s ∈ r, s.length ≤ wtR r := by
  induction r with
  | nil => intro s h; cases h
  | cons x t ih =>
    intro s h
    rcases List.mem_cons.1 h with rfl | h
    · simp only [wtR]; omega
    · have := ih s h; simp only [wtR]; omega
theorem wtR_len (r : List (List UInt8)) : r.length + 1 ≤ wtR r := by
  induction r with
  | nil => simp [wtR]
  | cons x t ih => simp only [wtR, List.length_cons]; omega
theorem wtT_mem {t : List (List (List UInt8))} : ∀ r ∈ t, wtR r ≤ wtT t := by
  induction t with
  | nil => intro s h; cases h
  | cons x t ih =>
    intro s h
    rcases List.mem_cons.1 h with rfl | h
    · simp only [wtT]; omega
    · have := ih s h; simp only [wtT]; omega
theorem wtT_len (t : List (List (List UInt8))) : t.length ≤ wtT t := by
  induction t with
  | nil => simp [wtT]
  | cons x t ih => have := wtR_len x; simp only [wtT, List.length_cons]; omega
theorem rowL_wt (c e : List UInt8) (hc : c.length ≤ 4) (he : e.length ≤ 2) : ∀ (r : List (List UInt8)), (rowL c e r).length ≤ 6 * wtR r
  | [] => by simp only [rowL, wtR]; omega
  | s :: t => by
    obtain ⟨d, hd, h3⟩ : ∃ d : List UInt8, rowL c e (s :: t) = quoteL s ++ (d ++ rowL c e t) ∧ d.length ≤ 4 := by
      cases t
      · exact ⟨[], rfl, Nat.zero_le _⟩
      · exact ⟨c, rfl, hc⟩
    have h1 := rowL_wt c e hc he t
    have h2 := dbl_len s
    rw [hd]
    simp only [wtR, quoteL, List.length_append, List.length_cons, List.length_nil]
    omega
theorem tableL_wt (c e : List UInt8) (hc : c.length ≤ 4) (he : e.length ≤ 2) : ∀ (t : List (List (List UInt8))), (tableL c e t).length ≤ 6 * wtT t
  | [] => by simp [tableL]
  | r :: t => by
    have h1 := rowL_wt c e hc he r
    have h2 := tableL_wt c e hc he t
    rw [tableL_cons]
    simp only [wtT, List.length_append]
    omega
section
variable {H : Type} {enc : TypeId × Value → H} {W : World}
theorem bulk_strs (ss : List ByteArray) : Rows.uptoBulkAll (H := H) (strs ss) + 1 = wtR (ss.map fun s => s.data.toList) := by
  induction ss with
  | nil => rfl
  | cons s t ih =>
    simp only [strs, List.map_cons, Rows.uptoBulkAll, Rows.uptoBulk, wtR] at ih ⊢
    omega
/-- A slice of strings that came in. -/
theorem open_strs_in {fuel : Nat} {v : Value} {x : DataW H × List MemPlace} (h : DataW.trod enc Tryz.prog W 0 (fun _ => true) true fuel 36 [v] = some x) : ∃ r, StrIn W v r ∧ wtR r ≤ Rows.uptoBulk x.1 := by
  rcases open_strings Tryz.underlying36 Tryz.underlying9 cells_string h with ⟨hcs, rfl⟩ | ⟨a, len, cap, ss, hcs, _, hl, hm, hz, rfl, hcell, _⟩
  · simp at hcs
    subst hcs
    exact ⟨[], ⟨none, 0, rfl, by decide, fun h => absurd h (by decide)⟩, by simp [wtR, Rows.uptoBulk]⟩
  · simp at hcs
    subst hcs
    simp only [if_true] at hz
    have hlen : (ss.take len).length = len := by rw [List.length_take]; omega
    refine ⟨(ss.take len).map fun s => s.data.toList, ⟨some a, cap, by rw [List.length_map, hlen], by rw [List.length_map, hlen]; unfold maxLen at hm; omega, fun hpos => ?_⟩, ?_⟩
    · rw [List.length_map, hlen] at hpos
      obtain ⟨b, off, spot⟩ := a
      have h0 := hcell 0 (by omega)
      have hspot : spot = none := by simpa [Addr.add] using World.cell?_spot h0
      subst hspot
      refine ⟨b, off, rfl, by have := block_lt h0; simpa [Addr.add] using this, fun j u hj => ?_⟩
      have hjl : j < len := by have := (List.getElem?_eq_some_iff.1 hj).1; rw [List.length_map] at this; omega
      have hc := hcell j (by omega)
      rw [List.getElem?_map, List.getElem?_take_of_lt hjl, List.getElem?_eq_getElem (show j < ss.length by omega)] at hj
      simp only [Option.map_some, Option.some.injEq] at hj
      subst hj
      rw [Addr.add_mk] at hc
      rw [hc]
      simp only [List.getD, List.getElem?_eq_getElem (show j < ss.length by omega), Option.getD_some]
      rfl
    · rw [← bulk_strs (H := H)]
      simp only [Rows.uptoBulk]
      omega
theorem bulk_range (D : Nat → DataW H) (R : Nat → List (List UInt8)) : ∀ (n s : Nat), (∀ i, s ≤ i → i < s + n → wtR (R i) ≤ Rows.uptoBulk (D i)) → wtT ((List.range' s n).map R) ≤ Rows.uptoBulkAll ((List.range' s n).map D)
  | 0, s, _ => Nat.le_refl _
  | n + 1, s, h => by
    have h1 := bulk_range D R n (s + 1) (fun i a b => h i (by omega) (by omega))
    have h2 := h s (by omega) (by omega)
    simp only [List.range'_succ, List.map_cons, wtT, Rows.uptoBulkAll]
    omega
/-- A table that came in. -/
theorem open_Table {r : Go.Reach} {base : Nat} {v : Value} {d : DataW H} {ps : List MemPlace} (hv : Value.okWide Tryz.prog W r base 33 v) (h : DataW.Trod enc Tryz.prog W 0 (fun _ => true) true 33 v d ps) :
    ∃ rows, RowsIn W v rows ∧ wtT rows ≤ Rows.uptoBulk d := by
  obtain ⟨a0, len0, cap0, rfl⟩ := okWide_slice Tryz.underlying33 hv
  obtain ⟨fuel, hf⟩ := h
  have hcells : (Value.slice a0 len0 cap0).cells.toList = [Value.slice a0 len0 cap0] := rfl
  rw [hcells] at hf
  rcases Deep.open_slice1 Tryz.underlying33 cells_strs hf with ⟨hcs, hx⟩ | ⟨a, len, cap, m, n, V, D, P, hcs, _, hl, hm, hmm, hx, hcell⟩
  · simp at hcs
    obtain ⟨rfl, rfl, rfl⟩ := hcs
    exact ⟨[], ⟨none, 0, rfl, by decide, fun h => absurd h (by decide)⟩, Nat.zero_le _⟩
  · simp at hcs
    obtain ⟨rfl, rfl, rfl⟩ := hcs
    simp only [if_true] at hmm
    simp only [Prod.mk.injEq] at hx
    obtain ⟨rfl, _⟩ := hx
    obtain ⟨R, hR⟩ := Deep.choose_lt (α := List (List UInt8)) (n := len0) (p := fun i r => StrIn W (V i) r ∧ wtR r ≤ Rows.uptoBulk (D i)) (fun i hi => open_strs_in (hcell i (by omega)).2)
    refine ⟨(List.range len0).map R, ⟨some a, cap0, by simp, by simp only [List.length_map, List.length_range]; unfold maxLen at hm; omega, fun hpos => ?_⟩, ?_⟩
    · rw [List.length_map, List.length_range] at hpos
      obtain ⟨b, off, spot⟩ := a
      have h0 := (hcell 0 (by omega)).1
      have hspot : spot = none := by simpa [Addr.add] using World.cell?_spot h0
      subst hspot
      refine ⟨b, off, rfl, by have := block_lt h0; simpa [Addr.add] using this, fun j u hj => ?_⟩
      have hjl : j < len0 := by have := (List.getElem?_eq_some_iff.1 hj).1; simpa using this
      rw [List.getElem?_map, List.getElem?_range hjl] at hj
      simp only [Option.map_some, Option.some.injEq] at hj
      subst hj
      have hc := (hcell j (by omega)).1
      rw [Addr.add_mk] at hc
      exact ⟨V j, hc, (hR j hjl).1⟩
    · have := bulk_range D R len0 0 (fun i _ hi => (hR i (by omega)).2)
      rw [← List.range_eq_range'] at this
      simp only [Rows.uptoBulk]
      omega
end
theorem lists_qt : Lists Rows.fnQuotedTablesUptoRow.laid :=
  ⟨List.mem_of_getElem? (i := 2) rfl, List.mem_of_getElem? (i := 7) rfl, List.mem_of_getElem? (i := 8) rfl, List.mem_of_getElem? (i := 9) rfl, List.mem_of_getElem? (i := 5) rfl, List.mem_of_getElem? (i := 10) rfl, List.mem_of_getElem? (i := 1) rfl, List.mem_of_getElem? (i := 11) rfl, List.mem_of_getElem? (i := 0) rfl, List.mem_of_getElem? (i := 4) rfl⟩
namespace fnQuotedTables
noncomputable def wArgs : Array Value := #[.slice none 0 0, .agg #[.int .i32 0, .int .i32 0, .int .i64 0, .bool false, .bool false, .bool false], .bool false]
theorem laid_met (os : Os) : laidMetH Tryz.prog Rows.fnQuotedTablesUptoRow.laid ((laidWorld os).forCall (fun _ _ => 0) ⟨#[], wArgs, []⟩).memory :=
  laidMetH_of_parts (laidMet_of_run' 8 (by kernel_rfl) (by kernel_rfl)) (by kernel_rfl)
theorem reads (os : Os) {H : Type} (enc : TypeId × Value → H) : ∃ places, DataW.whole enc Tryz.prog ((laidWorld os).forCall (fun _ _ => 0) ⟨#[], wArgs, []⟩).memory Tryz.f4.params.toList Rows.fnQuotedTablesSpec.vars false wArgs.toList 8 =
    some ([.nil, .agg [.lit (.int .i32 0), .lit (.int .i32 0), .lit (.int .i64 0), .lit (.bool false), .lit (.bool false), .lit (.bool false)], .lit (.bool false)], [], places) :=
  ⟨[], by kernel_rfl⟩
set_option maxRecDepth 100000 in
theorem contract (H : Type) (enc : TypeId × Value → H) (F : Stop.Interp) (W : World) (base : Nat) (args : Array Value) (ds gs : List (DataW H)) (before : List MemPlace)
    (hval : ∀ (j : Nat) t v, Tryz.f4.params[j]? = some t → args[j]? = some v → Value.okWide Tryz.prog W .any base t v)
    (hW : DataW.Whole enc Tryz.prog Tryz.f4.params.toList Rows.fnQuotedTablesSpec.vars false W args.toList ds gs before) (hk : Rows.uptoSmall H (ds ++ gs) = true) (hL : laidMetH Tryz.prog Rows.fnQuotedTablesUptoRow.laid W) (hsh : W.ShapedOpen Tryz.prog) :
    Calls Tryz.prog 4 args W fun e W' => ∃ v, e = .returned v ∧ ((Rows.OpenSpec.upto Rows.fnQuotedTablesSpec).at F).post enc Tryz.prog Tryz.f4 false true false false W args v W' := by
  have hW' := hW
  obtain ⟨p, q, hA0, hV0, rfl, _, _⟩ := hW
  have hA : DataW.TrodAll enc Tryz.prog W 0 (fun _ => true) true Tryz.f4.params.toList args.toList ds p := hA0
  rw [Tryz.params4] at hA hval
  obtain ⟨v0, v1, v2, d0, d1, d2, p0, p1, p2, rfl, rfl, rfl, h0, h1, h2⟩ := trodAll_three hA
  obtain ⟨rfl, rfl⟩ := trodVars_none hV0
  clear hA0 hV0 hA
  simp only [List.append_nil] at hW' hk
  have hb : Rows.uptoBulkAll [d0, d1, d2] ≤ 1048576 := of_decide_eq_true hk
  simp only [Rows.uptoBulkAll] at hb
  have hlt : ∀ x ∈ p0 ++ p1 ++ p2, x.block < W.heap.size := fun x hx => hW'.lt x hx
  obtain ⟨rows, hrows, b0⟩ := open_Table (hval 0 33 v0 rfl rfl) h0
  obtain ⟨comma, comment, expect, lz, tr, re, rfl, _, _⟩ := open_Options (hval 1 26 v1 rfl rfl) h1
  obtain ⟨crlf, rfl⟩ : ∃ b, v2 = .bool b := okWide_bool Tryz.underlying4 (hval 2 4 v2 rfl rfl)
  obtain ⟨G, m, hLaid⟩ := laid_of lists_qt hL hsh
  have hwt : wtT rows ≤ 1048576 := by omega
  have hrl := wtT_len rows
  refine (FnQuotedTables_any G W m hLaid v0 rows comma comment expect lz tr re crlf hrows (fun r hr s hs => by have := wtT_mem r hr; have := wtR_mem s hs; omega) (fun r hr => by have := wtT_mem r hr; have := wtR_len r; omega) (by omega) (fun c e hc he => by have := tableL_wt c e hc he rows; omega)).mono ?_
  rintro e W' ⟨rfl, bel⟩
  have e1 : ((Rows.OpenSpec.upto Rows.fnQuotedTablesSpec).at F).fn H ([d0, d1, d2] ++ []) = { results := [.lit (.bool true)], args := [d0, d1, d2] } := rfl
  refine ⟨_, rfl, _, _, _, [], p0 ++ (p1 ++ p2), [], hW', ?_, ?_, ?_, bel.frame _, fun h => by cases h⟩
  · rw [e1]; exact trodAll_mk1 (shut_bool Tryz.underlying4 true)
  · rw [e1]
    exact trodAll_mk3 (Below.trod laidOut (by kernel_rfl) (of_decide_eq_true (by kernel_rfl)) h0 bel (fun x hx => hlt x (by simp [hx]))) (Below.trod laidOut (by kernel_rfl) (of_decide_eq_true (by kernel_rfl)) h1 bel (fun x hx => hlt x (by simp [hx]))) (Below.trod laidOut (by kernel_rfl) (of_decide_eq_true (by kernel_rfl)) h2 bel (fun x hx => hlt x (by simp [hx])))
  · rw [e1]; rfl
set_option maxRecDepth 100000 in
theorem lifted (os : Os) (started : os.Started) (H : Type) (enc : TypeId × Value → H) (F : Stop.Interp) :
    ReturnsInHanded {} Tryz.checked os 4 .any ((Rows.OpenSpec.upto Rows.fnQuotedTablesSpec).preRow enc Tryz.prog Tryz.f4 Rows.fnQuotedTablesUptoRow.domain false Rows.fnQuotedTablesUptoRow.laid) (((Rows.OpenSpec.upto Rows.fnQuotedTablesSpec).at F).post enc Tryz.prog Tryz.f4 false true false false) := by
  obtain ⟨places, hx⟩ := reads os enc
  refine returnsInHanded_of_row (C := Tryz.checked) (s := Rows.OpenSpec.upto Rows.fnQuotedTablesSpec) own started (by kernel_rfl) Tryz.func4
    (witness_row_atRef (enc := enc) (C := Tryz.checked) false (laidWorld os) wArgs rfl (by kernel_rfl) (by kernel_rfl) (by kernel_rfl)
      (OpenSpec.preRow_of_cond 8 hx (by kernel_rfl) (fun k hk => by cases hk; kernel_rfl) (by kernel_rfl) (laid_met os))) ?_
  intro W base args ds gs before hval hW _ hcond _ hL hsh _
  exact contract H enc F W base args ds gs before hval hW (hcond _ rfl) hL hsh
theorem saidUpto : Rows.FnQuotedTablesUptoSaid :=
  OpenClaim.holds_of_cond 4 Tryz.f4 rfl rfl rfl rfl rfl rfl rfl ⟨rfl, rfl, rfl, rfl, rfl⟩ rfl rfl rfl rfl rfl (by kernel_rfl) Tryz.func4 (by kernel_rfl)
    (of_decide_eq_true (by kernel_rfl)) (by unfold Func.isWrapper; first | (rw [if_pos (by decide +kernel)]; kernel_rfl) | (rw [if_neg (by decide +kernel)]; exact ⟨rfl, rfl⟩))
    (fun os started H enc _ F => by rw [OpenClaim.pre_eq_preRow]; exact lifted os started H enc F)
theorem plain (f : FuncId) (fn : Func) (hf : Tryz.pinned.checked.prog.funcNamed "lib-commaleaf/laws.FnQuotedTables" = some f) (hfn : Tryz.pinned.checked.prog.funcs[f]? = some fn) :
    true = Tryz.pinned.checked.prog.looks [] ∧ ∀ (j : Nat) t, fn.params[j]? = some t → Tryz.pinned.checked.prog.wantsStandIn t = false := by
  obtain rfl : f = 4 := Option.some.inj ((show Tryz.prog.funcNamed "lib-commaleaf/laws.FnQuotedTables" = some 4 by kernel_rfl).symm.trans hf) |>.symm
  obtain rfl : fn = Tryz.f4 := (Option.some.inj (Tryz.func4.symm.trans hfn)).symm
  refine ⟨by kernel_rfl, fun j t ht => ?_⟩
  rw [Tryz.params4] at ht
  have hm := Array.mem_of_getElem? ht
  have hd : t = 33 ∨ t = 26 ∨ t = 4 := by simpa using hm
  rcases hd with rfl | rfl | rfl
  · exact (show Tryz.prog.wantsStandIn 33 = false by kernel_rfl)
  · exact (show Tryz.prog.wantsStandIn 26 = false by kernel_rfl)
  · exact (show Tryz.prog.wantsStandIn 4 = false by kernel_rfl)
end fnQuotedTables
/-- FnQuotedTables holds for every input of bulk at most 2^20. -/
theorem FnQuotedTables_card : Rows.FnQuotedTablesUptoCardSaid :=
  Claim7.holds_tied_plain_at .later [] _ _ _ _ fnQuotedTables.saidUpto (fun _ h => by cases h) (by kernel_rfl) (fun _ h => by cases h) fnQuotedTablesUpto_row_tie rfl ⟨rfl, rfl⟩ (by kernel_rfl) rfl fnQuotedTables.plain (by kernel_rfl)
end Go.Proofs.YtfadgnopfjajbaaGreatDoor
namespace Go.Proofs.YtfadgnopfjajbaaGreatDoor
open Csv
/-- The outcome of a row that cannot be parsed. -/
structure BadOut (fs : List Bytes) (rec : Nat) (q : Out) : Prop where
  fields : q.fields = fs
  kind : q.fail.kind = 3
  start : q.fail.start = rec
/-- Fields ahead of a text. -/
def wrongL (c : Bytes) : List Bytes → Bytes → Bytes
  | [], T => T
  | s :: t, T => quoteL s ++ (c ++ wrongL c t T)
theorem unixL_noCR {s : Bytes} (h : CR ∉ s) : unixL s = s := by
  induction s with
  | nil => rfl
  | cons b t ih =>
    rw [List.mem_cons, not_or] at h
    rw [unixL, if_neg (fun e => h.1 e.1.symm), ih h.2]
theorem map_unixL_noCR {fs : List Bytes} (h : ∀ s ∈ fs, CR ∉ s) : fs.map unixL = fs := by
  induction fs with
  | nil => rfl
  | cons s t ih => rw [List.map_cons, unixL_noCR (h s (List.mem_cons_self ..)), ih (fun x hx => h x (List.mem_cons_of_mem _ hx))]
theorem pre_norm {c x : Bytes} (hc : NL ∉ c) (h : c <+: normLine x) : c <+: x := by
  have hdl : ∀ y : Bytes, y.dropLast <+: y := fun y => List.dropLast_prefix y
  unfold normLine at h
  split at h
  · split at h
    · have h1 : c <+: x.dropLast.dropLast := by
        obtain ⟨t, ht⟩ := h
        rcases List.eq_nil_or_concat t with rfl | ⟨t, b, rfl⟩
        · rw [List.append_nil] at ht
          exact absurd (by rw [ht]; simp) hc
        · rw [List.concat_eq_append, ← List.append_assoc] at ht
          exact ⟨t, (List.append_inj' ht rfl).1⟩
      exact h1.trans ((hdl _).trans (hdl _))
    · exact h
  · split at h
    · exact h.trans (hdl _)
    · exact h
theorem raw_pre : ∀ (T : Bytes), (rawLine T).1 <+: T
  | [] => List.prefix_refl _
  | b :: t => by
    unfold rawLine
    split
    · exact ⟨t, rfl⟩
    · obtain ⟨u, hu⟩ := raw_pre t
      exact ⟨u, by show b :: ((rawLine t).1 ++ u) = _; rw [hu]⟩
theorem rawLine_noNL {s : Bytes} (h : NL ∉ s) : rawLine s = (s, []) := by
  have := rawLine_app h []
  simpa [rawLine] using this
/-- A quoted field that has no end. -/
theorem noend_goes {o : Opt} {rec : Nat} (hz : o.lazy = false) (p : Nat × Nat) : ∀ (n : Nat) (s : Bytes), s.length ≤ n → ∀ (st : St), st.quoted = some p → At (dbl s) st → Goes o rec (BadOut st.fields rec) st := by
  have hend : ∀ st : St, st.quoted = some p → st.line = [] → Goes o rec (BadOut st.fields rec) st := by
    intro st hq hl
    refine Goes.done (Meek.quoted hq) (u := st.out ⟨3, rec, st.pl, st.pc⟩) ?_ ⟨rfl, rfl, rfl⟩
    simp only [St.step, hq, St.stepOpen, hl, indexByte, hz, if_true, Bool.false_eq_true, if_false]
  intro n
  induction n with
  | zero =>
    intro s hs st hq hat
    obtain rfl : s = [] := by cases s; rfl; simp at hs
    exact hend st hq (by rw [hat.line]; rfl)
  | succ n ih =>
    intro s hs st hq hat
    rcases cut_at s with ⟨h1, h2⟩ | ⟨x, b, t, rfl, h1, h2, hb⟩
    · rw [dbl_none h2] at hat
      have hl : st.line = normLine s := by rw [hat.line, rawLine_noNL h1]
      have hleft : st.src.left = [] := by rw [hat.left, rawLine_noNL h1]
      by_cases hne : normLine s = []
      · exact hend st hq (hl.trans hne)
      · refine Goes.next (t := { st with src := st.src.next, cur := st.cur ++ st.line, line := st.src.line, pl := if st.src.line = [] then st.pl else st.pl + 1, pc := if st.src.line = [] then st.pc + st.line.length else 1 }) (Meek.quoted hq) ?_ (hend { st with src := st.src.next, cur := st.cur ++ st.line, line := st.src.line, pl := if st.src.line = [] then st.pl else st.pl + 1, pc := if st.src.line = [] then st.pc + st.line.length else 1 } hq ?_)
        · simp only [St.step, hq, St.stepOpen, hl, indexByte_not (normLine_noQ h2)]
          rw [if_neg hne]
        · show normLine (rawLine st.src.left).1 = _; rw [hleft]; rfl
    · rw [dbl_app, dbl_none h2] at hat
      rcases hb with rfl | rfl
      · have hd : dbl (NL :: t) = NL :: dbl t := by simp [dbl, ndv]
        rw [hd] at hat
        have hl : st.line = normLine (x ++ [NL]) := by rw [hat.line, raw_nl h1]
        have hleft : st.src.left = dbl t := by rw [hat.left, raw_nl h1]
        have hnq : QU ∉ normLine (x ++ [NL]) := normLine_noQ (by simp [h2, ndv])
        have hne : normLine (x ++ [NL]) ≠ [] := by
          intro e
          unfold normLine at e
          rw [List.getLast?_concat, if_pos rfl] at e
          split at e <;> simp at e
        refine Goes.next (t := { st with src := st.src.next, cur := st.cur ++ st.line, line := st.src.line, pl := if st.src.line = [] then st.pl else st.pl + 1, pc := if st.src.line = [] then st.pc + st.line.length else 1 }) (Meek.quoted hq) ?_ ?_
        · simp only [St.step, hq, St.stepOpen, hl, indexByte_not hnq]
          rw [if_neg hne]
        · refine ih t (by simp at hs; omega) { st with src := st.src.next, cur := st.cur ++ st.line, line := st.src.line, pl := if st.src.line = [] then st.pl else st.pl + 1, pc := if st.src.line = [] then st.pc + st.line.length else 1 } hq ⟨?_, ?_⟩
          · show normLine (rawLine st.src.left).1 = _; rw [hleft]
          · show (rawLine st.src.left).2 = _; rw [hleft]
      · have hd : dbl (QU :: t) = QU :: QU :: dbl t := by simp [dbl]
        rw [hd] at hat
        have hsp : x ++ QU :: QU :: dbl t = (x ++ [QU, QU]) ++ dbl t := by simp
        rw [hsp] at hat
        have hnl : NL ∉ x ++ [QU, QU] := by simp [h1, ndv]
        have hl : st.line = x ++ QU :: QU :: normLine (rawLine (dbl t)).1 := by
          rw [hat.line, norm_raw_app hnl (by simp [ndv])]; simp
        have hleft : st.src.left = (rawLine (dbl t)).2 := by rw [hat.left, rawLine_app hnl]
        refine Goes.next (t := { st with cur := st.cur ++ x ++ [QU], line := normLine (rawLine (dbl t)).1, pc := st.pc + x.length + 1 + 1 }) (Meek.quoted hq) ?_ ?_
        · have e1 : List.drop (x.length + 1) (x ++ QU :: QU :: normLine (rawLine (dbl t)).1) = QU :: normLine (rawLine (dbl t)).1 := by
            rw [show x ++ QU :: QU :: normLine (rawLine (dbl t)).1 = (x ++ [QU]) ++ QU :: normLine (rawLine (dbl t)).1 by simp, List.drop_left' (by simp)]
          simp only [St.step, hq, St.stepOpen, hl, indexByte_at h2, e1, St.stepQuote, List.head?_cons, if_true, List.drop_succ_cons, List.drop_zero, List.take_left']
        · exact ih t (by simp at hs; omega) { st with cur := st.cur ++ x ++ [QU], line := normLine (rawLine (dbl t)).1, pc := st.pc + x.length + 1 + 1 } hq ⟨rfl, hleft⟩
/-- What may not follow a field. -/
structure Wrong (c rest : Bytes) : Prop where
  ne : rest ≠ []
  qu : rest.head? ≠ some QU
  nl : rest.head? ≠ some NL
  cr : rest.head? ≠ some CR
  comma : ¬ c <+: rest
/-- The last field's text, and what follows. -/
def lastL (field rest : Bytes) : Bytes := if rest = [] then QU :: dbl field else quoteL field ++ rest
theorem last_goes {o : Opt} {rec : Nat} (hz : o.lazy = false) (hc : Calm (enc o.comma)) (field rest : Bytes) (hr : rest ≠ [] → Wrong (enc o.comma) rest) (st : St) (hq : st.quoted = none) (hat : At (lastL field rest) st) : Goes o rec (BadOut st.fields rec) st := by
  unfold lastL at hat
  by_cases h0 : rest = []
  · rw [if_pos h0] at hat
    refine open_goes _ st hq hat ?_
    intro st1 p e1 e2 _ _ hat1
    rw [← e1]
    exact noend_goes hz p field.length field (Nat.le_refl _) st1 e2 hat1
  · rw [if_neg h0] at hat
    have hw := hr h0
    have hT : quoteL field ++ rest = QU :: (dbl field ++ QU :: rest) := by simp [quoteL]
    rw [hT] at hat
    refine open_goes _ st hq hat ?_
    intro st1 p e1 e2 _ _ hat1
    refine field_goes p _ field.length field (Nat.le_refl _) st1 e2 hat1 ?_
    intro st2 pc f1 f2 _ _ f5
    obtain ⟨b, r, rfl⟩ := List.exists_cons_of_ne_nil h0
    have b1 : b ≠ QU := fun e => hw.qu (by rw [e]; rfl)
    have b2 : b ≠ NL := fun e => hw.nl (by rw [e]; rfl)
    have b3 : b ≠ CR := fun e => hw.cr (by rw [e]; rfl)
    have hl : normLine (rawLine (b :: r)).1 = b :: normLine (rawLine r).1 := norm_raw_app (x := [b]) (by simpa using fun e => b2 e.symm) (by simpa using b3) r
    have hcp : ¬ (enc o.comma) <+: b :: normLine (rawLine r).1 := by
      rw [← hl]
      exact fun h => hw.comma ((pre_norm hc.nl h).trans (raw_pre _))
    rw [hl] at f5
    refine Goes.done (Meek.quoted f2) (u := st2.out ⟨3, rec, st2.src.numLine, pc - 1⟩) ?_ ⟨f1.trans e1, rfl, rfl⟩
    rw [f5, St.stepQuote, if_neg (by simpa using b1), if_neg (by rw [List.isPrefixOf_iff_prefix]; exact hcp), if_neg, if_neg (by rw [hz]; decide)]
    unfold nlLen
    intro e
    split at e
    · rename_i hg
      rw [List.length_cons] at e
      have : normLine (rawLine r).1 = [] := List.eq_nil_of_length_eq_zero (by omega)
      rw [this] at hg
      simp at hg
      exact b2 hg
    · rw [List.length_cons] at e; omega
theorem wrong_goes {o : Opt} {rec : Nat} (hz : o.lazy = false) (hc : Calm (enc o.comma)) (field rest : Bytes) (hr : rest ≠ [] → Wrong (enc o.comma) rest) : ∀ (before : List Bytes) (st : St), st.quoted = none → At (wrongL (enc o.comma) before (lastL field rest)) st → Goes o rec (BadOut (st.fields ++ before.map unixL) rec) st
  | [], st, hq, hat => by
    rw [List.map_nil, List.append_nil]
    exact last_goes hz hc field rest hr st hq hat
  | s :: t, st, hq, hat => by
    refine comma_goes hc s _ st hq hat ?_
    intro st1 e1 e2 _ hat1
    have := wrong_goes (rec := rec) hz hc field rest hr t st1 e2 hat1
    rw [e1] at this
    simpa using this
theorem last_qu (field rest : Bytes) : ∃ T, lastL field rest = QU :: T := by
  unfold lastL
  split
  · exact ⟨_, rfl⟩
  · exact ⟨_, rfl⟩
theorem wrong_qu (c : Bytes) (before : List Bytes) (field rest : Bytes) : ∃ T, wrongL c before (lastL field rest) = QU :: T := by
  cases before with
  | nil => exact last_qu field rest
  | cons s t => exact ⟨_, rfl⟩
section
variable {o : Opt} {rows : List (List Bytes)} {before : List Bytes} {field rest : Bytes}
theorem goes_wrong (hv : o.valid = true) (hz : o.lazy = false) (hr : rest ≠ [] → Wrong (enc o.comma) rest) {s : Src} (hl : s.left = wrongL (enc o.comma) before (lastL field rest)) :
    Goes o (s.numLine + 1) (BadOut (before.map unixL) (s.numLine + 1)) (St.init s.next s.line) := by
  have := wrong_goes (rec := s.numLine + 1) hz (calm_valid hv).1 field rest hr before (St.init s.next s.line) rfl (by rw [← hl]; exact init_at s)
  simpa [St.init] using this
theorem read_wrong (hv : o.valid = true) (hz : o.lazy = false) (hr : rest ≠ [] → Wrong (enc o.comma) rest) {rd : Rd} (hl : rd.src.left = wrongL (enc o.comma) before (lastL field rest)) :
    ∃ f rd', rd.read o = (some (before.map unixL), f, rd') ∧ f.kind = 3 ∧ f.start = rd.src.numLine + 1 := by
  obtain ⟨T, hT⟩ := wrong_qu (enc o.comma) before field rest
  obtain ⟨q, hq, hread⟩ := read_qu hv (hl.trans hT) (goes_wrong hv hz hr hl)
  rw [hread]
  have : counted rd.expect (rd.src.numLine + 1) q.fields.length q.fail = q.fail := by
    unfold counted
    rw [if_neg (by rw [hq.kind]; intro h; exact absurd h.2.2 (by decide))]
  rw [this, hq.fields]
  exact ⟨_, _, rfl, hq.kind, hq.start⟩
/-- The reader's text. -/
def badText (c : Bytes) (rows : List (List Bytes)) (before : List Bytes) (field rest : Bytes) : Bytes := tableL c [NL] rows ++ wrongL c before (lastL field rest)
theorem readsL_succ (n : Nat) : readsL (n + 1) = readsL n ++ [⟨0, 0⟩] := List.replicate_succ'
/-- Rows one after another, then the row that cannot be parsed. -/
theorem scan_wrong (hv : o.valid = true) (hz : o.lazy = false) (hrows : ∀ r ∈ rows, r ≠ []) (hr : rest ≠ [] → Wrong (enc o.comma) rest) (reuse : Bool) :
    (scan (badText (enc o.comma) rows before field rest) o (-1) reuse (readsL (rows.length + 1))).length = rows.length + 1 ∧
    ∃ a, (scan (badText (enc o.comma) rows before field rest) o (-1) reuse (readsL (rows.length + 1)))[rows.length]? = some a ∧ a.record = before.map unixL ∧ a.fail.kind = 3 ∧ a.fail.start = (tableL (enc o.comma) [NL] rows).count NL + 1 := by
  obtain ⟨s1, h1, a1, k1, l1, x1, n1⟩ := fold_rows hv (e := [NL]) (.inl rfl) reuse (wrongL (enc o.comma) before (lastL field rest)) rows hrows (Ses.start (badText (enc o.comma) rows before field rest) (-1)) rfl rfl
  obtain ⟨f, rd', hread, hk3, hst⟩ := read_wrong hv hz hr l1
  obtain ⟨c1, c2, c3⟩ := call_row (reuse := reuse) hread
  have hfold : (readsL (rows.length + 1)).foldl (Ses.call o reuse) (Ses.start (badText (enc o.comma) rows before field rest) (-1)) = s1.call o reuse ⟨0, 0⟩ := by
    rw [readsL_succ, List.foldl_append]
    unfold readsL
    rw [h1]
    rfl
  have hans : (s1.call o reuse ⟨0, 0⟩).answers = rows.map rowAns ++ [{ record := before.map unixL, fail := f }] := by
    rw [c2, a1]; rfl
  have hk : (s1.call o reuse ⟨0, 0⟩).kept.length = (s1.call o reuse ⟨0, 0⟩).answers.length := by
    rw [c3, k1, hans]
    have := (start_kept (badText (enc o.comma) rows before field rest) (-1)).1
    rw [this]; simp
  have hsc : scan (badText (enc o.comma) rows before field rest) o (-1) reuse (readsL (rows.length + 1)) = (s1.call o reuse ⟨0, 0⟩).finish := by unfold scan; rw [hfold]
  rw [hsc]
  refine ⟨by rw [finish_length hk, hans]; simp, ?_⟩
  obtain ⟨b, g1, g2, _, g4⟩ := finish_get hk (i := rows.length) (a := { record := before.map unixL, fail := f }) (by rw [hans, List.getElem?_append_right (by simp)]; simp)
  refine ⟨b, g1, g2, by rw [g4]; exact hk3, ?_⟩
  rw [g4]
  show f.start = _
  rw [hst, n1]
  show 0 + _ + 1 = _
  omega
/-- Only quoted fields are met. -/
theorem tame_wrong (hv : o.valid = true) (hz : o.lazy = false) (hr : rest ≠ [] → Wrong (enc o.comma) rest) (reuse : Bool) : ∀ (rows : List (List Bytes)), (∀ r ∈ rows, r ≠ []) → ∀ (s : Ses), s.rd.src.left = tableL (enc o.comma) [NL] rows ++ wrongL (enc o.comma) before (lastL field rest) → s.rd.expect = -1 → TameFor o reuse s (readsL (rows.length + 1))
  | [], _, s, hl, _ => by
    have hl' : s.rd.src.left = wrongL (enc o.comma) before (lastL field rest) := by simpa [tableL] using hl
    obtain ⟨T, hT⟩ := wrong_qu (enc o.comma) before field rest
    exact ⟨⟨fun _ => .inr (tame_qu hv (hl'.trans hT) (goes_wrong hv hz hr hl')), fun h => absurd h (by decide)⟩, trivial⟩
  | r :: rs, hrows, s, hl, hx => by
    rw [tableL_cons, List.append_assoc] at hl
    obtain ⟨T, hT⟩ := rowL_qu (enc o.comma) [NL] (hrows r (List.mem_cons_self ..)) (tableL (enc o.comma) [NL] rs ++ wrongL (enc o.comma) before (lastL field rest))
    refine ⟨⟨fun _ => .inr (tame_qu hv (hl.trans hT) (goes_row hv (.inl rfl) (hrows r (List.mem_cons_self ..)) hl)), fun h => absurd h (by decide)⟩, ?_⟩
    obtain ⟨rd', hread, h1, h2, _⟩ := read_row hv (.inl rfl) (hrows r (List.mem_cons_self ..)) hl hx
    obtain ⟨c1, _, _⟩ := call_row (reuse := reuse) hread
    exact tame_wrong hv hz hr reuse rs (fun x hx => hrows x (List.mem_cons_of_mem _ hx)) _ (by rw [c1]; exact h1) (by rw [c1]; exact h2)
end
end Go.Proofs.YtfadgnopfjajbaaGreatDoor
namespace Go.Proofs.YtfadgnopfjajbaaGreatDoor
open Go.RowKit
noncomputable def grBody : Code := (Tryz.f46.body).getD .skip
noncomputable def gr0 : Code := part [false] grBody
noncomputable def gr1 : Code := part [true, false, false] grBody
noncomputable def gr2 : Code := part [true, false, true, false] grBody
noncomputable def gr3 : Code := part [true, true, false, false] grBody
noncomputable def gr4 : Code := part [true, true, false, true, false] grBody
noncomputable def gr5 : Code := part [true, true, false, true, true, false] grBody
noncomputable def gr6 : Code := part [true, true, true, false] grBody
set_option maxRecDepth 100000 in
theorem gr_eq : grBody = Code.seq gr0 (.seq (.seq gr1 (.cond (.tmp 6) gr2 .skip)) (.seq (.seq gr3 (.seq gr4 (.cond (.tmp 16) gr5 .skip))) (.seq gr6 .ret))) := by kernel_rfl
abbrev gV : List Nat := [0, 1, 4]
set_option maxRecDepth 100000 in
theorem gr_p0 (w : World) (l : List (Nat × Value)) (f : Nat → Value) : gr0.wp Tryz.prog (NPost fun a w' => ∃ l', a = Fr 27 l' f ∧ VKeeps gV [4] l f l' ∧ w' = w) (Fr 27 l f) w := by
  dsimp only [gr0, grBody, part, part.sub2', sub1, sub2, Tryz.f46, Option.getD]
  go_wp
  exact NPost.mk ⟨_, rfl, (by repeat first | exact VKeeps.refl _ _ _ _ | refine VKeeps.far (by decide) ?_ | refine VKeeps.set (by decide) ?_), rfl⟩
set_option maxRecDepth 100000 in
theorem gr_p1 (w : World) (l : List (Nat × Value)) (f : Nat → Value) (n : Nat) (h1 : lk l f 1 = .int .i64 (n : Int)) : gr1.wp Tryz.prog (NPost fun a w' => ∃ l', a = Fr 27 ((6, .bool false) :: l') f ∧ VKeeps gV [] l f l' ∧ w' = w) (Fr 27 l f) w := by
  dsimp only [gr1, grBody, part, part.sub2', sub1, sub2, Tryz.f46, Option.getD]
  have hn : ¬ ((n : Int) < 0) := by omega
  go_wp
  exact NPost.mk ⟨_, rfl, (by repeat first | exact VKeeps.refl _ _ _ _ | refine VKeeps.far (by decide) ?_ | refine VKeeps.set (by decide) ?_), rfl⟩
set_option maxRecDepth 100000 in
theorem gr_p3 (w : World) (l : List (Nat × Value)) (f : Nat → Value) (n : Nat) (h0 : lk l f 0 = .slice none 0 0) (h1 : lk l f 1 = .int .i64 (n : Int)) (hn : n < 4611686018427387904) : gr3.wp Tryz.prog (NPost fun a w' => ∃ l', a = Fr 27 ((1, .int .i64 (n : Int)) :: l') f ∧ VKeeps gV [] l f l' ∧ w' = w) (Fr 27 l f) w := by
  dsimp only [gr3, grBody, part, part.sub2', sub1, sub2, Tryz.f46, Option.getD]
  have hw : wrap64 ((n : Int) - 0) = (n : Int) := by unfold wrap64; omega
  have hw' : wrap64 (n : Int) = (n : Int) := by unfold wrap64; omega
  go_wp
  exact NPost.mk ⟨_, rfl, (by repeat first | exact VKeeps.refl _ _ _ _ | refine VKeeps.far (by decide) ?_ | refine VKeeps.set (by decide) ?_), rfl⟩
set_option maxRecDepth 100000 in
theorem gr_p4 (w : World) (l : List (Nat × Value)) (f : Nat → Value) (n : Nat) (b : Bool) (hb : decide (0 < n) = b) (h1 : lk l f 1 = .int .i64 (n : Int)) : gr4.wp Tryz.prog (NPost fun a w' => ∃ l', a = Fr 27 ((16, .bool b) :: l') f ∧ VKeeps gV [] l f l' ∧ w' = w) (Fr 27 l f) w := by
  dsimp only [gr4, grBody, part, part.sub2', sub1, sub2, Tryz.f46, Option.getD]
  go_wp
  subst hb
  exact NPost.mk ⟨_, rfl, (by repeat first | exact VKeeps.refl _ _ _ _ | refine VKeeps.far (by decide) ?_ | refine VKeeps.set (by decide) ?_), rfl⟩
theorem grow_zeros (w : World) (n : Nat) (h0 : 0 < n) (hn : n < 1099511627776) : ∃ cap w', (Builtin.append_ #[36, 3] 36 #[.slice none 0 0, .int .i64 (n : Int)]).run Tryz.prog w = .ok (.slice (some ⟨w.heap.size, 0, none⟩) n cap) w' ∧ StrS w.heap.size w' (.slice (some ⟨w.heap.size, 0, none⟩) 0 cap) [] ∧ Below w.heap.size w w' := by
  cases hi : Tryz.prog.info? 9 with
  | none => have := info_string; rw [hi] at this; cases this
  | some i =>
    have h := info_string
    rw [hi] at h
    simp only [Option.map_some, Option.some.injEq, Prod.mk.injEq] at h
    obtain ⟨hz, hs, hb⟩ := h
    have hr := Lib.run_append_nil_zeros (P := Tryz.prog) w 36 3 36 9 i _ .i64 .i64 Tryz.underlying36 Tryz.underlying3 hi hz n h0 (by omega) (by omega) (by rw [hb]; omega)
    have hge := grownCap_ge w n 0 9
    have hle := grownCap_le_maxLen w n 0 9 (by unfold maxLen; omega)
    refine ⟨_, _, hr, ?_, (drew_below w).trans ((Below.refl _ w.drew).alloc (Nat.le_refl _) _)⟩
    refine World.ownsRow_made (base := w.heap.size) (size := 1) (e := 9) w.drew _ _ (Nat.le_refl _) hle ?_
    rw [Array.size_append, size_zeroCells, size_zeroCells]
    show n * 1 + (grownCap w n 0 9 - n) * 1 = _
    omega
set_option maxRecDepth 100000 in
theorem gr_p5 (w w' : World) (l : List (Nat × Value)) (f : Nat → Value) (n cap : Nat) (h0 : lk l f 0 = .slice none 0 0) (h1 : lk l f 1 = .int .i64 (n : Int)) (hr : (Builtin.append_ #[36, 3] 36 #[.slice none 0 0, .int .i64 (n : Int)]).run Tryz.prog w = .ok (.slice (some ⟨w.heap.size, 0, none⟩) n cap) w') :
    gr5.wp Tryz.prog (NPost fun a w2 => ∃ l', a = Fr 27 ((0, .slice (some ⟨w.heap.size, 0, none⟩) 0 cap) :: l') f ∧ w2 = w') (Fr 27 l f) w := by
  dsimp only [gr5, grBody, part, part.sub2', sub1, sub2, Tryz.f46, Option.getD]
  refine region_split 5 ?_
  simp only [List.take_succ_cons, List.take_zero, List.drop_succ_cons, List.drop_zero]
  go_wp
  refine Stop.mk (Lib.wpList_append_run _ rfl _ _ _ _ rfl _ _ (by rw [Fr_eval _ _ _ _ rfl]; simp only [lk]; rfl) (by rw [Fr_eval _ _ _ _ rfl]; simp only [lk]; rfl) _ _ hr ?_)
  rw [Fr_put]
  clear hr
  go_wp
  exact NPost.mk ⟨_, rfl, rfl⟩
set_option maxRecDepth 100000 in
theorem gr_p6 (w : World) (l : List (Nat × Value)) (f : Nat → Value) (A : Option Addr) (n c : Nat) (h0 : lk l f 0 = .slice A n c) : gr6.wp Tryz.prog (NPost fun a w' => ∃ l', a = Fr 27 ((4, .slice A n c) :: l') f ∧ w' = w) (Fr 27 l f) w := by
  dsimp only [gr6, grBody, part, part.sub2', sub1, sub2, Tryz.f46, Option.getD]
  go_wp
  exact NPost.mk ⟨_, rfl, rfl⟩
/-- slices.Grow of nil: an empty slice, its own. -/
theorem Grow_any (w : World) (n : Nat) (hn : n < 1099511627776) : Calls Tryz.prog 46 [.slice none 0 0, .int .i64 (n : Int)].toArray w fun x w' => ∃ A c, x = .returned (.slice A 0 c) ∧ StrS w.heap.size w' (.slice A 0 c) [] ∧ Below w.heap.size w w' := by
  refine enter 27 Tryz.func46 rfl rfl (by simp) ?_
  show grBody.wp _ _ _ _
  rw [gr_eq]
  refine seq_part (gr_p0 w _ _) ?_
  rintro x w1 ⟨l1, rfl, K1, rfl⟩
  have a0 : lk l1 (fun _ => undef) 0 = .slice none 0 0 := (K1 0 rfl rfl).trans rfl
  have a1 : lk l1 (fun _ => undef) 1 = .int .i64 (n : Int) := (K1 1 rfl rfl).trans rfl
  refine seq_part (R := fun a w' => ∃ l', a = Fr 27 l' (fun _ => undef) ∧ lk l' (fun _ => undef) 0 = .slice none 0 0 ∧ lk l' (fun _ => undef) 1 = .int .i64 (n : Int) ∧ w' = w1) (seq_part (gr_p1 w1 l1 _ n a1) ?_) ?_
  · rintro x w2 ⟨l2, rfl, K2, rfl⟩
    exact wp_if_false rfl (by simp [lk]) (wp_skip (NPost.mk ⟨_, rfl, by rw [lk_ne _ _ _ _ _ rfl, K2 0 rfl rfl, a0], by rw [lk_ne _ _ _ _ _ rfl, K2 1 rfl rfl, a1], rfl⟩))
  rintro x w2 ⟨l2, rfl, b0, b1, rfl⟩
  refine seq_part (R := fun a w' => ∃ l' A c, a = Fr 27 l' (fun _ => undef) ∧ lk l' (fun _ => undef) 0 = .slice A 0 c ∧ StrS w2.heap.size w' (.slice A 0 c) [] ∧ Below w2.heap.size w2 w') (seq_part (gr_p3 w2 l2 _ n b0 b1 (by omega)) ?_) ?_
  · rintro x w3 ⟨l3, rfl, K3, rfl⟩
    by_cases h0 : 0 < n
    · refine seq_part (gr_p4 w3 _ _ n true (decide_eq_true h0) (by simp [lk])) ?_
      rintro x w4 ⟨l4, rfl, K4, rfl⟩
      obtain ⟨cap, w5, hr, hS, hb⟩ := grow_zeros w4 n h0 hn
      refine wp_if_true rfl (by simp [lk]) (last_part (gr_p5 w4 w5 _ _ n cap ?_ ?_ hr) ?_)
      · rw [lk_ne _ _ _ _ _ rfl, K4 0 rfl rfl, lk_ne _ _ _ _ _ rfl, K3 0 rfl rfl, b0]
      · rw [lk_ne _ _ _ _ _ rfl, K4 1 rfl rfl]; simp [lk]
      · rintro x w6 ⟨l6, rfl, rfl⟩
        exact NPost.mk ⟨_, _, _, rfl, by simp only [lk, if_true], hS, hb⟩
    · refine seq_part (gr_p4 w3 _ _ n false (decide_eq_false h0) (by simp [lk])) ?_
      rintro x w4 ⟨l4, rfl, K4, rfl⟩
      refine wp_if_false rfl (by simp [lk]) (wp_skip (NPost.mk ⟨_, none, 0, rfl, ?_, StrS.nil _ _, Below.refl _ _⟩))
      rw [lk_ne _ _ _ _ _ rfl, K4 0 rfl rfl, lk_ne _ _ _ _ _ rfl, K3 0 rfl rfl, b0]
  rintro x w3 ⟨l3, A, c, rfl, c0, hS, hb⟩
  refine seq_part (gr_p6 w3 l3 _ A 0 c c0) ?_
  rintro x w4 ⟨l4, rfl, rfl⟩
  exact wp_ret (ret1 rfl rfl ⟨A, c, by simp [lk], hS, hb⟩)
end Go.Proofs.YtfadgnopfjajbaaGreatDoor
