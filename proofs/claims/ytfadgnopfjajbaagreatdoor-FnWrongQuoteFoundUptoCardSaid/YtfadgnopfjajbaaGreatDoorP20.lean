/- A part of the proof: Scripts over tables of quoted fields: what Scan answers; only quoted fields are met. laws.found of a quoted table. laws.FnQuotedTables: its regions. laws.FnQuotedTables: what is wanted, row by row. laws.FnQuotedTables: its loops. -/
import Derived.Test.YtfadgnopfjajbaaGreatDoorP19
namespace Go.Proofs.YtfadgnopfjajbaaGreatDoor
open Csv
theorem finish_length {s : Ses} (h : s.kept.length = s.answers.length) : s.finish.length = s.answers.length := by
  unfold Ses.finish
  rw [List.length_zipWith]; omega
theorem finish_get {s : Ses} (h : s.kept.length = s.answers.length) {i : Nat} {a : Ans} (ha : s.answers[i]? = some a) : ∃ b, s.finish[i]? = some b ∧ b.record = a.record ∧ b.records = a.records ∧ b.fail = a.fail := by
  unfold Ses.finish
  have hi : i < s.answers.length := (List.getElem?_eq_some_iff.1 ha).1
  have hk : s.kept[i]? = some s.kept[i] := List.getElem?_eq_getElem (by omega)
  rw [List.getElem?_zipWith, ha, hk]
  exact ⟨_, rfl, rfl, rfl, rfl⟩
section
variable {o : Opt} {e : Bytes} {rows : List (List Bytes)}
theorem start_kept (data : Bytes) (x : Int) : (Ses.start data x).kept = [] ∧ (Ses.start data x).answers = [] := ⟨rfl, rfl⟩
/-- Rows one after another, the end, and ReadAll behind it. -/
theorem scan_found (hv : o.valid = true) (he : e = [NL] ∨ e = [CR, NL]) (hr : ∀ r ∈ rows, r ≠ []) (reuse : Bool) :
    (scan (tableL (enc o.comma) e rows) o (-1) reuse (readsL (rows.length + 1) ++ [⟨1, 0⟩])).length = rows.length + 2 ∧
    (∀ (i : Nat) (r : List Bytes), rows[i]? = some r → ∃ a, (scan (tableL (enc o.comma) e rows) o (-1) reuse (readsL (rows.length + 1) ++ [⟨1, 0⟩]))[i]? = some a ∧ a.record = r.map unixL ∧ a.fail = Fail.none) ∧
    (∃ a, (scan (tableL (enc o.comma) e rows) o (-1) reuse (readsL (rows.length + 1) ++ [⟨1, 0⟩]))[rows.length]? = some a ∧ a.record = [] ∧ a.fail = ⟨1, 0, 0, 0⟩) ∧
    (∃ a, (scan (tableL (enc o.comma) e rows) o (-1) reuse (readsL (rows.length + 1) ++ [⟨1, 0⟩]))[rows.length + 1]? = some a ∧ a.records = []) := by
  obtain ⟨s1, h1, a1, k1, l1, x1, _⟩ := fold_rows hv he reuse [] rows hr (Ses.start (tableL (enc o.comma) e rows) (-1)) (by rw [List.append_nil]; rfl) rfl
  have hread := read_end hv l1
  obtain ⟨c1, c2, c3⟩ := call_none (reuse := reuse) hread
  have l2 : (s1.call o reuse ⟨0, 0⟩).rd.src.left = [] := by rw [c1]; exact next_left l1
  obtain ⟨rd3, h3⟩ := all_rows (e := e) hv he [] (fun r h => by cases h) ((s1.call o reuse ⟨0, 0⟩).rd.src.left.length + 2) (s1.call o reuse ⟨0, 0⟩).rd [] (by rw [l2]; rfl) (by rw [c1]; exact x1) (by simp)
  obtain ⟨d1, d2⟩ := call_all (reuse := reuse) h3
  have hfold : (readsL (rows.length + 1) ++ [(⟨1, 0⟩ : Cal)]).foldl (Ses.call o reuse) (Ses.start (tableL (enc o.comma) e rows) (-1)) = (s1.call o reuse ⟨0, 0⟩).call o reuse ⟨1, 0⟩ := by
    have : readsL (rows.length + 1) = List.replicate rows.length (⟨0, 0⟩ : Cal) ++ [⟨0, 0⟩] := by
      unfold readsL
      exact List.replicate_succ'
    rw [this, List.foldl_append, List.foldl_append, h1]
    rfl
  have hans : ((s1.call o reuse ⟨0, 0⟩).call o reuse ⟨1, 0⟩).answers = rows.map rowAns ++ [{ fail := ⟨1, 0, 0, 0⟩ }] ++ [{ records := [], fail := Fail.none }] := by
    rw [d1, c2, a1]; rfl
  have hk : ((s1.call o reuse ⟨0, 0⟩).call o reuse ⟨1, 0⟩).kept.length = ((s1.call o reuse ⟨0, 0⟩).call o reuse ⟨1, 0⟩).answers.length := by
    rw [d2, c3, k1, hans]
    have := (start_kept (tableL (enc o.comma) e rows) (-1)).1
    rw [this]; simp
  have hsc : scan (tableL (enc o.comma) e rows) o (-1) reuse (readsL (rows.length + 1) ++ [⟨1, 0⟩]) = ((s1.call o reuse ⟨0, 0⟩).call o reuse ⟨1, 0⟩).finish := by unfold scan; rw [hfold]
  rw [hsc]
  refine ⟨by rw [finish_length hk, hans]; simp, fun i r hi => ?_, ?_, ?_⟩
  · have hlt := (List.getElem?_eq_some_iff.1 hi).1
    obtain ⟨b, g1, g2, _, g4⟩ := finish_get hk (i := i) (a := rowAns r) (by rw [hans, List.getElem?_append_left (by simp; omega), List.getElem?_append_left (by simpa using hlt), List.getElem?_map, hi]; rfl)
    exact ⟨b, g1, g2, g4⟩
  · obtain ⟨b, g1, g2, _, g4⟩ := finish_get hk (i := rows.length) (a := { fail := ⟨1, 0, 0, 0⟩ }) (by rw [hans, List.getElem?_append_left (by simp), List.getElem?_append_right (by simp)]; simp)
    exact ⟨b, g1, g2, g4⟩
  · obtain ⟨b, g1, _, g3, _⟩ := finish_get hk (i := rows.length + 1) (a := { records := [], fail := Fail.none }) (by rw [hans, List.getElem?_append_right (by simp)]; simp)
    exact ⟨b, g1, g3⟩
/-- ReadAll alone. -/
theorem scan_all (hv : o.valid = true) (he : e = [NL] ∨ e = [CR, NL]) (hr : ∀ r ∈ rows, r ≠ []) (reuse : Bool) :
    (scan (tableL (enc o.comma) e rows) o (-1) reuse [⟨1, 0⟩]).length = 1 ∧ ∃ a, (scan (tableL (enc o.comma) e rows) o (-1) reuse [⟨1, 0⟩])[0]? = some a ∧ a.records = rows.map (·.map unixL) ∧ a.fail = Fail.none := by
  have hlen := tableL_len (enc o.comma) e rows hr
  obtain ⟨rd3, h3⟩ := all_rows (e := e) hv he rows hr ((Ses.start (tableL (enc o.comma) e rows) (-1)).rd.src.left.length + 2) (Ses.start (tableL (enc o.comma) e rows) (-1)).rd [] rfl rfl (by show _ < (tableL (enc o.comma) e rows).length + 2; omega)
  obtain ⟨d1, d2⟩ := call_all (s := Ses.start (tableL (enc o.comma) e rows) (-1)) (reuse := reuse) h3
  have hans : ((Ses.start (tableL (enc o.comma) e rows) (-1)).call o reuse ⟨1, 0⟩).answers = [{ records := rows.map (·.map unixL), fail := Fail.none }] := by rw [d1]; rfl
  have hk : ((Ses.start (tableL (enc o.comma) e rows) (-1)).call o reuse ⟨1, 0⟩).kept.length = ((Ses.start (tableL (enc o.comma) e rows) (-1)).call o reuse ⟨1, 0⟩).answers.length := by
    rw [d2, hans]; rfl
  have hsc : scan (tableL (enc o.comma) e rows) o (-1) reuse [⟨1, 0⟩] = ((Ses.start (tableL (enc o.comma) e rows) (-1)).call o reuse ⟨1, 0⟩).finish := rfl
  rw [hsc]
  refine ⟨by rw [finish_length hk, hans]; rfl, ?_⟩
  obtain ⟨b, g1, _, g3, g4⟩ := finish_get hk (i := 0) (a := { records := rows.map (·.map unixL), fail := Fail.none }) (by rw [hans]; rfl)
  exact ⟨b, g1, g3, g4⟩
/-- A reader ahead of rows of quoted fields. -/
def Ahead (o : Opt) (e : Bytes) (rd : Rd) : Prop := ∃ rows', (∀ r ∈ rows', r ≠ []) ∧ rd.src.left = tableL (enc o.comma) e rows' ∧ rd.expect = -1
theorem tame_end {s : Src} (hl : s.left = []) : ∀ n l s1, skip o n s = (some l, s1) → ∀ t, Reach o s1.numLine (St.init s1 l) t → t.quoted = none → (t.trimmed o).line.head? = some 34 := by
  intro n l s1 hs
  cases n with
  | zero => cases hs
  | succ n =>
    have : skip o (n + 1) s = (none, s.next) := by simp only [skip, hl, List.isEmpty_nil, if_true]
    rw [this] at hs
    cases hs
theorem Ahead.tame (hv : o.valid = true) (he : e = [NL] ∨ e = [CR, NL]) {rd : Rd} (h : Ahead o e rd) : TameS o rd.src := by
  obtain ⟨rows', h1, h2, h3⟩ := h
  cases rows' with
  | nil => exact .inr (tame_end (by simpa [tableL] using h2))
  | cons r rs =>
    rw [tableL_cons] at h2
    obtain ⟨T, hT⟩ := rowL_qu (enc o.comma) e (h1 r (List.mem_cons_self ..)) (tableL (enc o.comma) e rs)
    exact .inr (tame_qu hv (h2.trans hT) (goes_row hv he (h1 r (List.mem_cons_self ..)) h2))
theorem Ahead.next (hv : o.valid = true) (he : e = [NL] ∨ e = [CR, NL]) {rd : Rd} (h : Ahead o e rd) : Ahead o e (rd.read o).2.2 := by
  obtain ⟨rows', h1, h2, h3⟩ := h
  cases rows' with
  | nil =>
    have hl : rd.src.left = [] := by simpa [tableL] using h2
    rw [read_end hv hl]
    exact ⟨[], (fun r h => by cases h), by show rd.src.next.left = _; rw [next_left hl]; rfl, h3⟩
  | cons r rs =>
    rw [tableL_cons] at h2
    obtain ⟨rd', g1, g2, g3, _⟩ := read_row hv he (h1 r (List.mem_cons_self ..)) h2 h3
    rw [g1]
    exact ⟨rs, fun x hx => h1 x (List.mem_cons_of_mem _ hx), g2, g3⟩
theorem Ahead.tames (hv : o.valid = true) (he : e = [NL] ∨ e = [CR, NL]) {rd : Rd} (h : Ahead o e rd) : Tames o rd := by
  have key : ∀ k (rd : Rd), Ahead o e rd → Ahead o e (Nat.repeat (fun rd => (rd.read o).2.2) k rd) := by
    intro k
    induction k with
    | zero => exact fun _ h => h
    | succ k ih => exact fun rd h => (ih rd h).next hv he
  exact fun k => (key k rd h).tame hv he
theorem tames_table (hv : o.valid = true) (he : e = [NL] ∨ e = [CR, NL]) (hr : ∀ r ∈ rows, r ≠ []) : Tames o (Ses.start (tableL (enc o.comma) e rows) (-1)).rd :=
  Ahead.tames hv he ⟨rows, hr, rfl, rfl⟩
end
end Go.Proofs.YtfadgnopfjajbaaGreatDoor
namespace Go.Proofs.YtfadgnopfjajbaaGreatDoor
open Go.RowKit
theorem Equal_in (w : World) (v1 v2 : Value) (fs : List (List UInt8)) (h1 : StrIn w v1 fs) (h2 : StrIn w v2 fs) : Calls Tryz.prog 23 #[v1, v2] w fun e w' => e = .returned (.bool true) ∧ Below w.heap.size w w' := by
  obtain ⟨_, _, _, hl, _⟩ := id h1
  refine (Equal_any w v1 v2 fs h1.read h2.read hl).mono ?_
  rintro e w' ⟨he, q, rfl⟩
  exact ⟨he, drewN_below w q⟩
/-- An answer's cells. -/
theorem AnsRow.parts {B : Nat} {w : World} {av : Value} {xs : List Csv.Ans} (h : AnsRow B w av xs) {j : Nat} {a : Csv.Ans} (hj : xs[j]? = some a) : ∃ g c rv lv sv vs, av = .slice (some ⟨g, 0, none⟩) xs.length c ∧ g < w.heap.size ∧ StrS B w rv a.record ∧ StrS B w lv a.later ∧ RecsS B w sv a.records vs ∧
    (∀ (k : Nat) (u : Value), (ansCells rv lv sv a.fail.kind a.fail.start a.fail.line a.fail.col a.line a.col a.panicked a.n)[k]? = some u → w.cell? ⟨g, j * 11 + k, none⟩ = some u) ∧ AnsAt B w (fun k => av.ownBlock = some k) (ansCells rv lv sv a.fail.kind a.fail.start a.fail.line a.fail.col a.line a.col a.panicked a.n) a := by
  obtain ⟨hlt, he⟩ := List.getElem?_eq_some_iff.1 hj
  obtain ⟨g, c, cs, hv, hg, hl, hcell, hat⟩ := h.at hlt
  rw [he] at hat
  obtain ⟨rv, lv, sv, vs, hcs, r1, r2, r3, r4, r5, r6, r7⟩ := id hat.form
  rw [hcs] at hcell hat
  exact ⟨g, c, rv, lv, sv, vs, hv, hg, r1, r3, r5, hcell, hat⟩
theorem found_any (G : Glob) (w : World) (m : Int) (hL : Laid w G m) (comma comment : Int) (lz tr re : Bool) (e : List UInt8) (rows : List (List (List UInt8))) (v : Value) (hv : (optOf comma comment lz tr).valid = true) (he : e = [Csv.NL] ∨ e = [Csv.CR, Csv.NL]) (hr : ∀ r ∈ rows, r ≠ []) (hw : RowsIn w v (rows.map (·.map unixL)))
    (hsmall : 2 * (tableL (Csv.enc (optOf comma comment lz tr).comma) e rows).length + (rows.length + 2) < 268435450) :
    Calls Tryz.prog 13 [.string ⟨(tableL (Csv.enc (optOf comma comment lz tr).comma) e rows).toArray⟩, .agg (optCells comma comment (-1) lz tr re).toArray, v].toArray w fun x w' => x = .returned (.bool true) ∧ Below w.heap.size w w' := by
  obtain ⟨f1, f2, f3, f4⟩ := scan_found hv he hr re
  obtain ⟨p1, p2⟩ := scan_all hv he hr re
  have htm := tames_table (o := optOf comma comment lz tr) hv he hr
  obtain ⟨T, hT⟩ : ∃ T, T = tableL (Csv.enc (optOf comma comment lz tr).comma) e rows := ⟨_, rfl⟩
  rw [← hT] at f1 f2 f3 f4 p1 p2 htm hsmall ⊢
  have hscan : ∀ (w1 : World) (sv : Value) (script : List Csv.Cal), Below w.heap.size w w1 → ScriptIn w1 script sv → script.length ≤ rows.length + 2 → Calls Tryz.prog 6 [.agg #[.string ⟨T.toArray⟩, .slice none 0 0, .bool false], .agg (optCells comma comment (-1) lz tr re).toArray, sv].toArray w1 fun x w' => ∃ av, x = .returned av ∧ Below w1.heap.size w1 w' ∧ AnsRow w1.heap.size w' av (Csv.scan T (optOf comma comment lz tr) (-1) re script) := by
    intro w1 sv script hb hsc hlen
    have hL1 := hL.next hb
    exact Scan_any G w1 T (.slice none 0 0) [] false comma comment (-1) lz tr re sv script m hL1.glob hL1.ety ⟨none, 0, rfl, Nat.le_refl _, by decide, fun h => absurd rfl h⟩ hsc hL1.max hL1.maxB (by omega) htm
  obtain ⟨xs, hxs⟩ : ∃ xs, xs = Csv.scan T (optOf comma comment lz tr) (-1) re (readsL (rows.length + 1) ++ [⟨1, 0⟩]) := ⟨_, rfl⟩
  obtain ⟨ys, hys⟩ : ∃ ys, ys = Csv.scan T (optOf comma comment lz tr) (-1) re [⟨1, 0⟩] := ⟨_, rfl⟩
  rw [← hxs] at f1 f2 f3 f4
  rw [← hys] at p1 p2
  clear hT
  obtain ⟨A, cv, hvv, hvl, _⟩ := id hw
  rw [List.length_map] at hvv hvl
  have hnw : (rows.map (·.map unixL)).length = rows.length := by simp
  rw [hvv]
  refine enter 114 Tryz.func13 rfl rfl (by simp) ?_
  show fdBody.wp _ _ _ _
  rw [fd_eq]
  refine seq_part (fd_p0 w _ _ comma comment (-1) lz tr re rfl) ?_
  rintro x w1 ⟨l1, rfl, K1, k4, hb1, hob1⟩
  have k0 : lk l1 (fun _ => undef) 0 = .string ⟨T.toArray⟩ := (K1 0 rfl rfl).trans rfl
  have k2 : lk l1 (fun _ => undef) 2 = .slice A rows.length cv := (K1 2 rfl rfl).trans rfl
  refine seq_part (fd_p1 w1 l1 _ w.heap.size rows.length cv ⟨T.toArray⟩ A comma comment (-1) lz tr re (fun av w' => AnsRow w.heap.size w' av xs) k0 k2 k4 hob1 (by omega) ?_) ?_
  · intro w2 sv hb2 hsc
    refine (hscan w2 sv _ (hb1.trans (hb2.mono hb1.size)) hsc (by simp [readsL])).mono ?_
    rintro y w3 ⟨av, hy, hb3, hrow⟩
    rw [← hxs] at hrow
    exact ⟨av, hy, hrow.mono (Nat.le_trans hb1.size hb2.size), hb3⟩
  rintro x w2 ⟨l2, av, rfl, K2, hrow2, hob2, hb2⟩
  have hb02 := hb1.trans (hb2.mono hb1.size)
  have q : ∀ k, fV.contains k = true → [7].contains k = false → lk ((7, av) :: l2) (fun _ => undef) k = lk l1 (fun _ => undef) k := fun k a b => (VKeeps.set (V := fV) (S := [7]) rfl (K2.mono (fun _ _ => rfl))) k a b
  have q7 : lk ((7, av) :: l2) (fun _ => undef) 7 = av := by simp [lk]
  have q0 := (q 0 rfl rfl).trans k0
  have q2 := (q 2 rfl rfl).trans k2
  have q4 := (q 4 rfl rfl).trans k4
  clear q
  revert q0 q2 q4 q7
  generalize (7, av) :: l2 = l3
  intro q7 q0 q2 q4
  refine seq_part (fd_p2 w2 l3 _ w.heap.size ⟨T.toArray⟩ comma comment (-1) lz tr re (fun av' w' => Below w2.heap.size w2 w' ∧ AnsRow w.heap.size w' av' ys) q0 q4 hob2 ?_) ?_
  · intro w3 hb3 hk3
    have hsc : ScriptIn w3 [⟨1, 0⟩] (.slice (some ⟨w2.heap.size, 0, none⟩) 1 1) := by
      refine ⟨_, _, rfl, fun _ => ⟨w2.heap.size, 0, rfl, hk3.lt, fun i cal hi => ?_⟩⟩
      rcases i with _ | i
      · simp at hi; subst hi
        exact ⟨by rw [hk3.cell]; rfl, by rw [hk3.cell]; rfl⟩
      · simp at hi
    refine (hscan w3 _ _ (hb02.trans (hb3.mono hb02.size)) hsc (by simp)).mono ?_
    rintro y w4 ⟨av', hy, hb4, hrow⟩
    rw [← hys] at hrow
    exact ⟨av', hy, hb3.trans (hb4.mono hb3.size), hrow.mono (Nat.le_trans hb02.size hb3.size)⟩
  rintro x w3 ⟨l4, av', rfl, K4, hb3, hrow3'⟩
  have hb03 := hb02.trans (hb3.mono hb02.size)
  have hrow3 := hrow2.lt hb3
  have r8 : lk ((8, av') :: l4) (fun _ => undef) 8 = av' := by simp [lk]
  have r7 : lk ((8, av') :: l4) (fun _ => undef) 7 = av := by rw [lk_ne _ _ _ _ _ rfl, K4 7 rfl rfl, q7]
  have r2 : lk ((8, av') :: l4) (fun _ => undef) 2 = .slice A rows.length cv := by rw [lk_ne _ _ _ _ _ rfl, K4 2 rfl rfl, q2]
  revert r2 r7 r8
  generalize (8, av') :: l4 = l5
  intro r8 r7 r2
  -- the looks
  obtain ⟨an, hn1, hn2, hn3⟩ := f3
  obtain ⟨ae, he1, he2⟩ := f4
  obtain ⟨aa, ha1, ha2, ha3⟩ := p2
  obtain ⟨g7, c7, rv, lv, sv, vs, hav, hg7, t1, t2, t3, tc, tat⟩ := hrow3.parts hn1
  obtain ⟨g7', c7', rve, lve, sve, vse, hav', _, u1, u2, u3, uc, _⟩ := hrow3.parts he1
  obtain ⟨g8, c8, rva, lva, sva, vsa, hav8, hg8, s1, s2, s3, sc, _⟩ := hrow3'.parts ha1
  have hgg : g7' = g7 := by rw [hav] at hav'; injection hav' with e1; injection e1 with e1; injection e1 with e1; exact e1.symm
  rw [hgg] at uc
  rw [f1] at hav
  rw [p1] at hav8
  have hend := ended_any w3 _ _ an tat hn2 hn3
  obtain ⟨B1, b1, eB1, _⟩ := t1.form
  obtain ⟨B2, b2, eB2, _⟩ := t2.form
  obtain ⟨B3, b3, eB3, _⟩ := ownsRow_form t3.row
  obtain ⟨A9, c9', eA9, _⟩ := ownsRow_form u3.row
  obtain ⟨A8, c8', eA8, _, _, zA8, sA8⟩ := ownsRow_form s3.row
  rw [he2] at eA9
  rw [ha2, hnw] at eA8
  rw [eB1, eB2, eB3] at tc hend
  have hz2 := uc 2 _ rfl
  rw [eA9] at hz2
  have hy2 := sc 2 _ rfl
  rw [eA8] at hy2
  have hy3 := sc 3 _ rfl
  rw [ha3] at hy3
  have hy2' : w3.cell? ⟨g8, 2, none⟩ = some (.slice A8 rows.length c8') := by simpa using hy2
  have hy3' : w3.cell? ⟨g8, 3, none⟩ = some (.int .i64 0) := by simpa [i64v, Csv.Fail.none] using hy3
  refine seq_part (R := fun a w' => ∃ l', a = Fr 114 l' (fun _ => undef) ∧ lk l' (fun _ => undef) 2 = .slice A rows.length cv ∧ lk l' (fun _ => undef) 7 = av ∧ lk l' (fun _ => undef) 8 = av' ∧ Below w3.heap.size w3 w') (seq_part (fd_p3 w3 l5 _ g7 c7 g8 c8 rows.length cv A A8 A9 B1 B2 B3 c8' c9' _ b1 _ b2 _ b3 _ _ _ _ _ _ _ _ r2 (r7.trans hav) (r8.trans hav8) (by omega) hg7 hy2' hy3' (tc 0 _ rfl) (tc 1 _ rfl) (tc 2 _ rfl) (tc 3 _ rfl) (tc 4 _ rfl) (tc 5 _ rfl) (tc 6 _ rfl) (tc 7 _ rfl) (tc 8 _ rfl) (tc 9 _ rfl) (tc 10 _ rfl) hz2 hend) ?_) ?_
  · rintro x w4 ⟨l6, rfl, K6, hb4⟩
    exact wp_if_false rfl (by simp [lk]) (wp_skip (NPost.mk ⟨_, rfl, by rw [lk_ne _ _ _ _ _ rfl, K6 2 rfl rfl, r2], by rw [lk_ne _ _ _ _ _ rfl, K6 7 rfl rfl, r7], by rw [lk_ne _ _ _ _ _ rfl, K6 8 rfl rfl, r8], hb4⟩))
  rintro x w4 ⟨l6, rfl, m2, m7, m8, hb4⟩
  have hb04 := hb03.trans (hb4.mono hb03.size)
  refine seq_part (R := fun a w' => ∃ l', a = Fr 114 l' (fun _ => undef) ∧ Below w.heap.size w w') ?_ ?_
  · refine seq_part (fd_p5 w4 l6 _ A rows.length cv m2) ?_
    rintro x w5 ⟨l7, rfl, K7, n77, n78, n79, rfl⟩
    refine wp_block ?_
    refine wp_loop_n (fun k a w' => ∃ l', a = Fr 114 l' (fun _ => undef) ∧ lk l' (fun _ => undef) 7 = av ∧ lk l' (fun _ => undef) 8 = av' ∧ lk l' (fun _ => undef) 77 = .slice A rows.length cv ∧ lk l' (fun _ => undef) 78 = .int .i64 (rows.length : Int) ∧ lk l' (fun _ => undef) 79 = .int .i64 ((rows.length - k : Nat) : Int) ∧ k ≤ rows.length ∧ Below w3.heap.size w3 w') rows.length ⟨l7, rfl, (K7 7 rfl rfl).trans m7, (K7 8 rfl rfl).trans m8, n77, n78, by rw [Nat.sub_self]; exact n79, Nat.le_refl _, hb4⟩ ?_
    rintro k a w6 ⟨l8, rfl, o7, o8, o77, o78, o79, hk, hb6⟩
    refine seq_part (fd_p6 w6 l8 _ (rows.length - k) rows.length o79 o78) ?_
    rintro x w7 ⟨l9, rfl, K9, rfl⟩
    have s7 : lk ((80, .bool (decide (rows.length - k < rows.length))) :: l9) (fun _ => undef) 7 = av := by rw [lk_ne _ _ _ _ _ rfl, K9 7 rfl rfl, o7]
    have s8 : lk ((80, .bool (decide (rows.length - k < rows.length))) :: l9) (fun _ => undef) 8 = av' := by rw [lk_ne _ _ _ _ _ rfl, K9 8 rfl rfl, o8]
    have s77 : lk ((80, .bool (decide (rows.length - k < rows.length))) :: l9) (fun _ => undef) 77 = .slice A rows.length cv := by rw [lk_ne _ _ _ _ _ rfl, K9 77 rfl rfl, o77]
    have s78 : lk ((80, .bool (decide (rows.length - k < rows.length))) :: l9) (fun _ => undef) 78 = .int .i64 (rows.length : Int) := by rw [lk_ne _ _ _ _ _ rfl, K9 78 rfl rfl, o78]
    have s79 : lk ((80, .bool (decide (rows.length - k < rows.length))) :: l9) (fun _ => undef) 79 = .int .i64 ((rows.length - k : Nat) : Int) := by rw [lk_ne _ _ _ _ _ rfl, K9 79 rfl rfl, o79]
    have s80 : lk ((80, .bool (decide (rows.length - k < rows.length))) :: l9) (fun _ => undef) 80 = .bool (decide (rows.length - k < rows.length)) := by simp [lk]
    revert s7 s8 s77 s78 s79 s80
    generalize (80, Value.bool (decide (rows.length - k < rows.length))) :: l9 = l10
    intro s7 s8 s77 s78 s79 s80
    by_cases hlt : rows.length - k < rows.length
    · rw [decide_eq_true hlt] at s80
      refine seq_part (R := fun a w => a = Fr 114 l10 (fun _ => undef) ∧ w = w7) (wp_if_true rfl s80 (wp_skip (NPost.mk ⟨rfl, rfl⟩))) ?_
      rintro a w8 ⟨rfl, rfl⟩
      have hb08 := hb03.trans (hb6.mono hb03.size)
      have hi' : rows.length - k < (rows.map (·.map unixL)).length := by rw [hnw]; exact hlt
      obtain ⟨wb, wo, wc, uw, Aw, cw, hvv', hcellw, hstrw, huw, hwb⟩ := (hw.next hb08).at hi'
      rw [hvv, hnw] at hvv'
      injection hvv' with ev1 _ ev2
      subst ev1 ev2
      have hwi : (rows.map (·.map unixL))[rows.length - k] = rows[rows.length - k].map unixL := by simp
      rw [hwi] at hstrw huw
      obtain ⟨ai, hi1, hi2, hi3⟩ := f2 (rows.length - k) _ (List.getElem?_eq_getElem hlt)
      obtain ⟨g7i, c7i, rvi, lvi, svi, vsi, havi, hg7i, t1i, _, _, tci, _⟩ := (hrow3.lt hb6).parts hi1
      have hgi : g7i = g7 := by
        have := r7.symm.trans r7
        rw [f1] at havi
        rw [hav] at havi
        injection havi with e1; injection e1 with e1; injection e1 with e1; exact e1.symm
      subst hgi
      rw [hi2] at t1i
      rw [hi3] at tci
      obtain ⟨Ai, di, eAi, _⟩ := t1i.form
      have hposn : 0 < rows.length := Nat.lt_of_le_of_lt (Nat.zero_le _) hlt
      have hA8 : ∃ rb, A8 = some ⟨rb, 0, none⟩ ∧ rb < w3.heap.size := by
        cases hA : A8 with
        | none => have := (zA8 hA).1; rw [ha2, hnw] at this; omega
        | some a => obtain ⟨g, e, _, hl⟩ := sA8 a hA; exact ⟨g, by rw [e], hl⟩
      obtain ⟨rb, rfl, hrb⟩ := hA8
      obtain ⟨u, hu1, hu2⟩ := s3.each (rows.length - k) _ (by rw [ha2]; exact List.getElem?_eq_getElem hi')
      rw [hwi] at hu2
      have hur : w3.cell? ⟨rb, rows.length - k, none⟩ = some u := by
        have hr3 := s3.row
        rw [eA8] at hr3
        have := World.ownsRow.cells hr3 (g := rb) rfl (rows.length - k) u hu1
        rw [Addr.add_mk] at this
        simpa using this
      obtain ⟨Au, du, eAu, _⟩ := hu2.form
      have hu8 := hu2.isIn.next hb6
      refine seq_part (R := fun a w' => ∃ l', a = Fr 114 l' (fun _ => undef) ∧ lk l' (fun _ => undef) 7 = av ∧ lk l' (fun _ => undef) 8 = av' ∧ lk l' (fun _ => undef) 77 = .slice (some ⟨wb, wo, none⟩) rows.length cv ∧ lk l' (fun _ => undef) 78 = .int .i64 (rows.length : Int) ∧ lk l' (fun _ => undef) 79 = .int .i64 ((rows.length - k : Nat) : Int) ∧ Below w8.heap.size w8 w') (block_part (seq_part (fd_p7 w8 l10 _ wb wo (rows.length - k) rows.length cv Aw _ cw s79 s77 hlt (by rw [hcellw, huw])) ?_)) ?_
      · rintro x w9 ⟨l11, rfl, K11, y9, y10, rfl⟩
        have c3 := tci 3 _ rfl
        have c0 := tci 0 _ rfl
        rw [eAi] at c0 t1i
        rw [eAu] at hur hu8
        have hur8 := (hb6.cell (p := ⟨rb, rows.length - k, none⟩) hrb).trans hur
        have hy28 := (hb6.cell (p := ⟨g8, 2, none⟩) hg8).trans hy2'
        refine seq_part (fd_p8 w9 l11 _ g7i c7 (rows.length + 2) g8 c8 rb rows.length (rows.length - k) Ai Au Aw c8' _ di _ du _ cw (by rw [K11 7 rfl rfl, s7, hav]) (by rw [K11 8 rfl rfl, s8, hav8]) y9 y10 (by omega) hlt c3 c0 hy28 hur8 (Nat.lt_of_lt_of_le hg8 hb6.size) (Nat.lt_of_lt_of_le hrb hb6.size) ?_ ?_) ?_
        · rw [huw] at hstrw
          exact Equal_in w9 _ _ _ t1i.isIn hstrw
        · intro w10 hb10
          rw [huw] at hstrw
          refine (Equal_in w10 _ _ _ (hu8.next hb10) (hstrw.next hb10)).mono ?_
          rintro y w11 ⟨hy, hb11⟩
          exact ⟨hy, hb10.trans (hb11.mono hb10.size)⟩
        · rintro x w10 ⟨l12, rfl, K12, hb10⟩
          refine wp_if_false rfl (by simp [lk]) (wp_skip (NPost.mk ⟨_, rfl, ?_, ?_, ?_, ?_, ?_, hb10⟩))
          · rw [lk_ne _ _ _ _ _ rfl, K12 7 rfl rfl, K11 7 rfl rfl, s7]
          · rw [lk_ne _ _ _ _ _ rfl, K12 8 rfl rfl, K11 8 rfl rfl, s8]
          · rw [lk_ne _ _ _ _ _ rfl, K12 77 rfl rfl, K11 77 rfl rfl, s77]
          · rw [lk_ne _ _ _ _ _ rfl, K12 78 rfl rfl, K11 78 rfl rfl, s78]
          · rw [lk_ne _ _ _ _ _ rfl, K12 79 rfl rfl, K11 79 rfl rfl, s79]
      · rintro x w9 ⟨l11, rfl, z7, z8, z77, z78, z79, hb9⟩
        refine last_part (fd_p10 w9 l11 _ (rows.length - k) z79 (by omega)) ?_
        rintro x w10 ⟨l12, rfl, K12, rfl⟩
        have e5 := sub_pred hlt hk
        refine ⟨k - 1, pred_lt hlt, _, rfl, ?_, ?_, ?_, ?_, ?_, pred_le hk, hb6.trans (hb9.mono hb6.size)⟩
        · rw [lk_ne _ _ _ _ _ rfl, K12 7 rfl rfl, z7]
        · rw [lk_ne _ _ _ _ _ rfl, K12 8 rfl rfl, z8]
        · rw [lk_ne _ _ _ _ _ rfl, K12 77 rfl rfl, z77]
        · rw [lk_ne _ _ _ _ _ rfl, K12 78 rfl rfl, z78]
        · rw [e5]; simp only [lk, if_true]
    · rw [decide_eq_false hlt] at s80
      refine wp_seq (wp_if_false rfl s80 (wp_exit ?_))
      simp only [Exit.then, Exit.inBlock, if_true]
      exact NPost.mk ⟨l10, rfl, hb03.trans (hb6.mono hb03.size)⟩
  rintro x w5 ⟨l7, rfl, hb5⟩
  refine seq_part (fd_p11 w5 l7 _) ?_
  rintro x w6 ⟨rfl, rfl⟩
  exact wp_ret (ret1 rfl rfl ⟨by simp [lk], hb5⟩)
end Go.Proofs.YtfadgnopfjajbaaGreatDoor
namespace Go.Proofs.YtfadgnopfjajbaaGreatDoor
open Go.RowKit
noncomputable def qtBody : Code := (Tryz.f4.body).getD .skip
noncomputable def qt0 : Code := part [false] qtBody
noncomputable def qt1 : Code := part [true, false, false] qtBody
noncomputable def qt2 : Code := part [true, false, true, false, false] qtBody
noncomputable def qt3 : Code := part [true, true, false] qtBody
noncomputable def qt4 : Code := part [true, true, true, false, false] qtBody
noncomputable def qt5 : Code := part [true, true, true, false, true, false, false, false] qtBody
noncomputable def qt6 : Code := part [true, true, true, false, true, false, false, true, true, false, false, false] qtBody
noncomputable def qt7 : Code := part [true, true, true, false, true, false, false, true, true, false, false, true, false] qtBody
noncomputable def qt8 : Code := part [true, true, true, false, true, false, false, true, true, false, false, true, true, false, false, false] qtBody
noncomputable def qt9 : Code := part [true, true, true, false, true, false, false, true, true, false, false, true, true, false, false, true, true, false, false, false] qtBody
noncomputable def qt10 : Code := part [true, true, true, false, true, false, false, true, true, false, false, true, true, false, false, true, true, false, false, true, false, false] qtBody
noncomputable def qt11 : Code := part [true, true, true, false, true, false, false, true, true, false, false, true, true, false, false, true, true, false, false, true, false, true, false, false] qtBody
noncomputable def qt12 : Code := part [true, true, true, false, true, false, false, true, true, false, false, true, true, false, false, true, true, false, false, true, true] qtBody
noncomputable def qt13 : Code := part [true, true, true, false, true, false, false, true, true, false, false, true, true, false, false, true, true, true] qtBody
noncomputable def qt14 : Code := part [true, true, true, false, true, false, false, true, true, true] qtBody
noncomputable def qt15 : Code := part [true, true, true, true, false] qtBody
noncomputable def qt16 : Code := part [true, true, true, true, true, false, false] qtBody
noncomputable def qt17 : Code := part [true, true, true, true, true, false, true, false] qtBody
noncomputable def qt18 : Code := part [true, true, true, true, true, true, false] qtBody
noncomputable def qt19 : Code := part [true, true, true, true, true, true, true, false] qtBody
noncomputable def qtRow : Code := Code.block 3 (.seq qt9 (.seq (.seq qt10 (.cond (.tmp 39) (.seq qt11 .ret) .skip)) qt12))
noncomputable def qtIn : Code := Code.block 2 (.loop (.seq qt8 (.seq (.cond (.tmp 35) .skip (.exit 2)) (.seq qtRow qt13))))
noncomputable def qtOut : Code := Code.block 0 (.loop (.seq qt5 (.seq (.cond (.tmp 28) .skip (.exit 0)) (.seq (.block 1 (.seq qt6 (.seq qt7 qtIn))) qt14))))
set_option maxRecDepth 100000 in
theorem qt_eq : qtBody = Code.seq qt0 (.seq (.seq qt1 (.cond (.tmp 20) (.seq qt2 .ret) .skip)) (.seq qt3 (.seq (.seq qt4 qtOut) (.seq qt15 (.seq (.seq qt16 (.cond (.tmp 54) qt17 .skip)) (.seq qt18 (.seq qt19 .ret))))))) := by kernel_rfl
theorem field_comma (comma comment expect : Int) (lz tr : Bool) : ∀ w, (Instr.field 42 (.agg #[.int .i32 comma, .int .i32 comment, .int .i64 expect, .bool lz, .bool tr]) 0).run Tryz.prog w = .ok (.int .i32 comma) w := fun w => by kernel_rfl
abbrev uV : List Nat := [0, 2, 4, 7, 8, 9, 11, 12, 25, 26, 27, 32, 33, 34]
set_option maxRecDepth 100000 in
theorem qt_p0 (w : World) (l : List (Nat × Value)) (f : Nat → Value) (comma comment expect : Int) (lz tr re : Bool) (h1 : lk l f 1 = .agg (optCells comma comment expect lz tr re).toArray) :
    qt0.wp Tryz.prog (NPost fun a w' => ∃ l', a = Fr 65 l' f ∧ VKeeps uV [4] l f l' ∧ lk l' f 4 = .pointer (some ⟨w.heap.size, 0, none⟩) ∧ Below w.heap.size w w' ∧ Blk w' w.heap.size 26 (optCells comma comment expect lz tr re)) (Fr 65 l f) w := by
  dsimp only [qt0, qtBody, part, part.sub2', sub1, sub2, Tryz.f4, Option.getD]
  dsimp only [optCells] at h1
  go_wp
  exact NPost.mk ⟨_, rfl, (by repeat first | exact VKeeps.refl _ _ _ _ | refine VKeeps.far (by decide) ?_ | refine VKeeps.set (by decide) ?_), by simp [lk], (Below.refl _ w).alloc (Nat.le_refl _) _, Blk.new_arr w _ _⟩
set_option maxRecDepth 100000 in
set_option maxHeartbeats 1000000 in
theorem qt_p1 (w : World) (l : List (Nat × Value)) (f : Nat → Value) (ob n c : Nat) (A : Option Addr) (rows : List (List (List UInt8))) (comma comment expect : Int) (lz tr re : Bool) (comma' : Int) (hcm : (if comma = 0 then 44 else comma) = comma') (h0 : lk l f 0 = .slice A n c) (h4 : lk l f 4 = .pointer (some ⟨ob, 0, none⟩)) (hob : Blk w ob 26 (optCells comma comment expect lz tr re)) (hm : MaxAt w) (hrows : RowsIn w (.slice A n c) rows) :
    qt1.wp Tryz.prog (NPost fun a w' => ∃ l' b, a = Fr 65 ((20, .bool b) :: l') f ∧ VKeeps uV [] l f l' ∧ (b = false → LegalO comma' comment ∧ ∀ r ∈ rows, r ≠ []) ∧ Below w.heap.size w w') (Fr 65 l f) w := by
  dsimp only [qt1, qtBody, part, part.sub2', sub1, sub2, Tryz.f4, Option.getD]
  have hc := hob.cell
  dsimp only [optCells] at hc
  have HL := legal_any w comma comment expect lz tr re hm
  rw [hcm] at HL
  have HL := Lib.hid HL
  have HW := Lib.hid hrows
  clear hob hm hrows hcm
  go_wp
  refine HL.out.mono ?_
  rintro e w1 ⟨b1, rfl, hb1, hbel⟩
  have H1 := Lib.hid (And.intro hb1 hbel)
  clear hb1 hbel hc HL
  dsimp only
  cases b1
  · go_wp
    all_goals first | exact undef_bool (by assumption) | exact NPost.mk ⟨_, _, rfl, (by repeat first | exact VKeeps.refl _ _ _ _ | refine VKeeps.far (by decide) ?_ | refine VKeeps.set (by decide) ?_), (fun h => by simp at h), H1.out.2⟩
  · have HF := Lib.hid (filled_any w1 (.slice A n c) rows (HW.out.next H1.out.2))
    go_wp
    refine HF.out.mono ?_
    rintro e w2 ⟨b2, rfl, hb2, rfl⟩
    have H2 := Lib.hid hb2
    clear hb2 HF
    dsimp only
    cases b2
    · go_wp
      all_goals first | exact undef_bool (by assumption) | exact NPost.mk ⟨_, _, rfl, (by repeat first | exact VKeeps.refl _ _ _ _ | refine VKeeps.far (by decide) ?_ | refine VKeeps.set (by decide) ?_), (fun h => by simp at h), H1.out.2⟩
    · go_wp
      all_goals first | exact undef_bool (by assumption) | exact NPost.mk ⟨_, _, rfl, (by repeat first | exact VKeeps.refl _ _ _ _ | refine VKeeps.far (by decide) ?_ | refine VKeeps.set (by decide) ?_), (fun _ => ⟨H1.out.1 rfl, H2.out rfl⟩), H1.out.2⟩
set_option maxRecDepth 100000 in
theorem qt_p2 (w : World) (l : List (Nat × Value)) (f : Nat → Value) (hawake : Calls Tryz.prog 7 #[] w fun e w' => e = .returned (.bool true) ∧ Below w.heap.size w w') : qt2.wp Tryz.prog (NPost fun a w' => ∃ l', a = Fr 65 ((6, .bool true) :: l') f ∧ Below w.heap.size w w') (Fr 65 l f) w := by
  dsimp only [qt2, qtBody, part, part.sub2', sub1, sub2, Tryz.f4, Option.getD]
  have HA := Lib.hid hawake
  clear hawake
  go_wp
  refine HA.out.mono ?_
  rintro e w1 ⟨rfl, hb1⟩
  have H1 := Lib.hid hb1
  clear hb1 HA
  dsimp only
  go_wp
  exact NPost.mk ⟨_, rfl, H1.out⟩
set_option maxRecDepth 100000 in
theorem qt_p11 (w : World) (l : List (Nat × Value)) (f : Nat → Value) (hawake : Calls Tryz.prog 7 #[] w fun e w' => e = .returned (.bool true) ∧ Below w.heap.size w w') : qt11.wp Tryz.prog (NPost fun a w' => ∃ l', a = Fr 65 ((6, .bool true) :: l') f ∧ Below w.heap.size w w') (Fr 65 l f) w := by
  dsimp only [qt11, qtBody, part, part.sub2', sub1, sub2, Tryz.f4, Option.getD]
  have HA := Lib.hid hawake
  clear hawake
  go_wp
  refine HA.out.mono ?_
  rintro e w1 ⟨rfl, hb1⟩
  have H1 := Lib.hid hb1
  clear hb1 HA
  dsimp only
  go_wp
  exact NPost.mk ⟨_, rfl, H1.out⟩
set_option maxRecDepth 100000 in
theorem qt_p3 (w : World) (l : List (Nat × Value)) (f : Nat → Value) (A : Option Addr) (n cp : Nat) (h0 : lk l f 0 = .slice A n cp) (hn : n < 1099511627776) : qt3.wp Tryz.prog (NPost fun a w' => ∃ l', a = Fr 65 ((7, .slice (some ⟨w.heap.size, 0, none⟩) n n) :: l') f ∧ VKeeps uV [] l f l' ∧ Below w.heap.size w w' ∧ Blk w' w.heap.size 36 (List.replicate n (.slice none 0 0))) (Fr 65 l f) w := by
  dsimp only [qt3, qtBody, part, part.sub2', sub1, sub2, Tryz.f4, Option.getD]
  have hmk := make_kept w n hn
  go_wp
  exact NPost.mk ⟨_, rfl, (by repeat first | exact VKeeps.refl _ _ _ _ | refine VKeeps.far (by decide) ?_ | refine VKeeps.set (by decide) ?_), (Below.refl _ w).alloc (Nat.le_refl _) _, Blk.new w _ _⟩
set_option maxRecDepth 100000 in
theorem qt_p4 (w : World) (l : List (Nat × Value)) (f : Nat → Value) (A : Option Addr) (n c : Nat) (hx : lk l f 0 = .slice A n c) : qt4.wp Tryz.prog (NPost fun a w' => ∃ l', a = Fr 65 l' f ∧ VKeeps uV [25, 26, 27] l f l' ∧ lk l' f 25 = .slice A n c ∧ lk l' f 26 = .int .i64 (n : Int) ∧ lk l' f 27 = .int .i64 ((0 : Nat) : Int) ∧ w' = w) (Fr 65 l f) w := by
  dsimp only [qt4, qtBody, part, part.sub2', sub1, sub2, Tryz.f4, Option.getD]
  go_wp
  exact NPost.mk ⟨_, rfl, (by repeat first | exact VKeeps.refl _ _ _ _ | refine VKeeps.far (by decide) ?_ | refine VKeeps.set (by decide) ?_), by simp [lk], by simp [lk], by simp [lk], rfl⟩
set_option maxRecDepth 100000 in
theorem qt_p7 (w : World) (l : List (Nat × Value)) (f : Nat → Value) (A : Option Addr) (n c : Nat) (hx : lk l f 9 = .slice A n c) : qt7.wp Tryz.prog (NPost fun a w' => ∃ l', a = Fr 65 l' f ∧ VKeeps uV [32, 33, 34] l f l' ∧ lk l' f 32 = .slice A n c ∧ lk l' f 33 = .int .i64 (n : Int) ∧ lk l' f 34 = .int .i64 ((0 : Nat) : Int) ∧ w' = w) (Fr 65 l f) w := by
  dsimp only [qt7, qtBody, part, part.sub2', sub1, sub2, Tryz.f4, Option.getD]
  go_wp
  exact NPost.mk ⟨_, rfl, (by repeat first | exact VKeeps.refl _ _ _ _ | refine VKeeps.far (by decide) ?_ | refine VKeeps.set (by decide) ?_), by simp [lk], by simp [lk], by simp [lk], rfl⟩
set_option maxRecDepth 100000 in
theorem qt_p5 (w : World) (l : List (Nat × Value)) (f : Nat → Value) (i n : Nat) (hx : lk l f 27 = .int .i64 (i : Int)) (hy : lk l f 26 = .int .i64 (n : Int)) : qt5.wp Tryz.prog (NPost fun a w' => ∃ l', a = Fr 65 ((28, .bool (decide (i < n))) :: l') f ∧ VKeeps uV [] l f l' ∧ w' = w) (Fr 65 l f) w := by
  dsimp only [qt5, qtBody, part, part.sub2', sub1, sub2, Tryz.f4, Option.getD]
  go_wp
  exact NPost.mk ⟨_, rfl, (by repeat first | exact VKeeps.refl _ _ _ _ | refine VKeeps.far (by decide) ?_ | refine VKeeps.set (by decide) ?_), rfl⟩
set_option maxRecDepth 100000 in
theorem qt_p8 (w : World) (l : List (Nat × Value)) (f : Nat → Value) (i n : Nat) (hx : lk l f 34 = .int .i64 (i : Int)) (hy : lk l f 33 = .int .i64 (n : Int)) : qt8.wp Tryz.prog (NPost fun a w' => ∃ l', a = Fr 65 ((35, .bool (decide (i < n))) :: l') f ∧ VKeeps uV [] l f l' ∧ w' = w) (Fr 65 l f) w := by
  dsimp only [qt8, qtBody, part, part.sub2', sub1, sub2, Tryz.f4, Option.getD]
  go_wp
  exact NPost.mk ⟨_, rfl, (by repeat first | exact VKeeps.refl _ _ _ _ | refine VKeeps.far (by decide) ?_ | refine VKeeps.set (by decide) ?_), rfl⟩
set_option maxRecDepth 100000 in
theorem qt_p13 (w : World) (l : List (Nat × Value)) (f : Nat → Value) (i : Nat) (hx : lk l f 34 = .int .i64 (i : Int)) (hi : i < 9223372036854775807) : qt13.wp Tryz.prog (NPost fun a w' => ∃ l', a = Fr 65 ((34, .int .i64 ((i + 1 : Nat) : Int)) :: l') f ∧ VKeeps uV [] l f l' ∧ w' = w) (Fr 65 l f) w := by
  dsimp only [qt13, qtBody, part, part.sub2', sub1, sub2, Tryz.f4, Option.getD]
  go_wp
  exact NPost.mk ⟨_, rfl, (by repeat first | exact VKeeps.refl _ _ _ _ | refine VKeeps.far (by decide) ?_ | refine VKeeps.set (by decide) ?_), rfl⟩
set_option maxRecDepth 100000 in
theorem qt_p14 (w : World) (l : List (Nat × Value)) (f : Nat → Value) (i : Nat) (hx : lk l f 27 = .int .i64 (i : Int)) (hi : i < 9223372036854775807) : qt14.wp Tryz.prog (NPost fun a w' => ∃ l', a = Fr 65 ((27, .int .i64 ((i + 1 : Nat) : Int)) :: l') f ∧ VKeeps uV [] l f l' ∧ w' = w) (Fr 65 l f) w := by
  dsimp only [qt14, qtBody, part, part.sub2', sub1, sub2, Tryz.f4, Option.getD]
  go_wp
  exact NPost.mk ⟨_, rfl, (by repeat first | exact VKeeps.refl _ _ _ _ | refine VKeeps.far (by decide) ?_ | refine VKeeps.set (by decide) ?_), rfl⟩
set_option maxRecDepth 100000 in
theorem qt_p6 (w : World) (l : List (Nat × Value)) (f : Nat → Value) (b o i n c : Nat) (A : Option Addr) (un uc : Nat) (h27 : lk l f 27 = .int .i64 (i : Int)) (h25 : lk l f 25 = .slice (some ⟨b, o, none⟩) n c) (hi : i < n) (hc : w.cell? ⟨b, o + i, none⟩ = some (.slice A un uc)) : qt6.wp Tryz.prog (NPost fun a w' => ∃ l', a = Fr 65 l' f ∧ VKeeps uV [8, 9] l f l' ∧ lk l' f 8 = .int .i64 (i : Int) ∧ lk l' f 9 = .slice A un uc ∧ w' = w) (Fr 65 l f) w := by
  dsimp only [qt6, qtBody, part, part.sub2', sub1, sub2, Tryz.f4, Option.getD]
  go_wp
  exact NPost.mk ⟨_, rfl, (by repeat first | exact VKeeps.refl _ _ _ _ | refine VKeeps.far (by decide) ?_ | refine VKeeps.set (by decide) ?_), by simp [lk], by simp [lk], rfl⟩
set_option maxRecDepth 100000 in
theorem qt_p9 (w : World) (l : List (Nat × Value)) (f : Nat → Value) (b o i n c : Nat) (s : ByteArray) (h34 : lk l f 34 = .int .i64 (i : Int)) (h32 : lk l f 32 = .slice (some ⟨b, o, none⟩) n c) (hi : i < n) (hc : w.cell? ⟨b, o + i, none⟩ = some (.string s)) : qt9.wp Tryz.prog (NPost fun a w' => ∃ l', a = Fr 65 ((11, .string s) :: l') f ∧ VKeeps uV [] l f l' ∧ w' = w) (Fr 65 l f) w := by
  dsimp only [qt9, qtBody, part, part.sub2', sub1, sub2, Tryz.f4, Option.getD]
  go_wp
  exact NPost.mk ⟨_, rfl, (by repeat first | exact VKeeps.refl _ _ _ _ | refine VKeeps.far (by decide) ?_ | refine VKeeps.set (by decide) ?_), rfl⟩
set_option maxRecDepth 100000 in
theorem qt_p10 (w : World) (l : List (Nat × Value)) (f : Nat → Value) (s : ByteArray) (h11 : lk l f 11 = .string s) (hm : MaxAt w) (hs : s.size < 4294967281) : qt10.wp Tryz.prog (NPost fun a w' => ∃ l' b, a = Fr 65 ((39, .bool b) :: l') f ∧ VKeeps uV [] l f l' ∧ w' = w) (Fr 65 l f) w := by
  dsimp only [qt10, qtBody, part, part.sub2', sub1, sub2, Tryz.f4, Option.getD]
  have HC := Lib.hid (Contains_any w s ⟨#[13, 13, 10]⟩ hm hs)
  clear hm hs
  go_wp
  refine HC.out.mono ?_
  rintro e w1 ⟨rfl, rfl⟩
  clear HC
  dsimp only
  generalize Lib.contains _ _ = b
  go_wp
  exact NPost.mk ⟨_, b, rfl, (by repeat first | exact VKeeps.refl _ _ _ _ | refine VKeeps.far (by decide) ?_ | refine VKeeps.set (by decide) ?_), rfl⟩
set_option maxRecDepth 100000 in
theorem qt_p15 (w : World) (l : List (Nat × Value)) (f : Nat → Value) : qt15.wp Tryz.prog (NPost fun a w' => a = Fr 65 ((12, .string ⟨#[10]⟩) :: l) f ∧ w' = w) (Fr 65 l f) w := by
  dsimp only [qt15, qtBody, part, part.sub2', sub1, sub2, Tryz.f4, Option.getD]
  go_wp
  exact NPost.mk ⟨rfl, rfl⟩
set_option maxRecDepth 100000 in
theorem qt_p16 (w : World) (l : List (Nat × Value)) (f : Nat → Value) (b : Bool) (h2 : lk l f 2 = .bool b) : qt16.wp Tryz.prog (NPost fun a w' => a = Fr 65 ((54, .bool b) :: l) f ∧ w' = w) (Fr 65 l f) w := by
  dsimp only [qt16, qtBody, part, part.sub2', sub1, sub2, Tryz.f4, Option.getD]
  go_wp
  exact NPost.mk ⟨rfl, rfl⟩
set_option maxRecDepth 100000 in
theorem qt_p17 (w : World) (l : List (Nat × Value)) (f : Nat → Value) : qt17.wp Tryz.prog (NPost fun a w' => a = Fr 65 ((12, .string ⟨#[13, 10]⟩) :: l) f ∧ w' = w) (Fr 65 l f) w := by
  dsimp only [qt17, qtBody, part, part.sub2', sub1, sub2, Tryz.f4, Option.getD]
  go_wp
  exact NPost.mk ⟨rfl, rfl⟩
set_option maxRecDepth 100000 in
theorem qt_p18 (w : World) (l : List (Nat × Value)) (f : Nat → Value) (ob : Nat) (comma comment expect : Int) (lz tr re : Bool) (h4 : lk l f 4 = .pointer (some ⟨ob, 0, none⟩)) (hob : Blk w ob 26 (optCells comma comment expect lz tr re)) :
    qt18.wp Tryz.prog (NPost fun a w' => ∃ l', a = Fr 65 l' f ∧ VKeeps uV [] l f l' ∧ Only (fun k => k = ob) w w' ∧ Blk w' ob 26 (optCells comma comment (-1) lz tr re)) (Fr 65 l f) w := by
  dsimp only [qt18, qtBody, part, part.sub2', sub1, sub2, Tryz.f4, Option.getD]
  have hc := hob.cell
  have hz := hob.frozen
  have H := Lib.hid hob
  dsimp only [optCells] at hc
  clear hob
  go_wp
  exact NPost.mk ⟨_, rfl, (by repeat first | exact VKeeps.refl _ _ _ _ | refine VKeeps.far (by decide) ?_ | refine VKeeps.set (by decide) ?_), (Only.refl (fun k => k = ob) w).setCell (p := ⟨ob, 2, none⟩) (fun _ => rfl) _, H.out.set 2 _⟩
set_option maxRecDepth 100000 in
set_option maxHeartbeats 1000000 in
theorem qt_p19 (w : World) (l : List (Nat × Value)) (f : Nat → Value) (ob n c n7 c7 : Nat) (A A7 : Option Addr) (e T : ByteArray) (comma comment expect : Int) (lz tr re : Bool) (comma' : Int) (hcm : (if comma = 0 then 44 else comma) = comma') (h0 : lk l f 0 = .slice A n c) (h7 : lk l f 7 = .slice A7 n7 c7) (h12 : lk l f 12 = .string e) (h4 : lk l f 4 = .pointer (some ⟨ob, 0, none⟩)) (hob : Blk w ob 26 (optCells comma comment expect lz tr re))
    (hT : ∀ w1, Below w.heap.size w w1 → Calls Tryz.prog 14 #[.slice A n c, .int .i32 comma', .string e, .bool true] w1 fun x w' => x = .returned (.string T) ∧ Below w1.heap.size w1 w')
    (hF : ∀ w1, Below w.heap.size w w1 → Calls Tryz.prog 13 #[.string T, .agg #[.int .i32 comma, .int .i32 comment, .int .i64 expect, .bool lz, .bool tr, .bool re], .slice A7 n7 c7] w1 fun x w' => x = .returned (.bool true) ∧ Below w1.heap.size w1 w') :
    qt19.wp Tryz.prog (NPost fun a w' => ∃ l', a = Fr 65 ((6, .bool true) :: l') f ∧ Below w.heap.size w w') (Fr 65 l f) w := by
  dsimp only [qt19, qtBody, part, part.sub2', sub1, sub2, Tryz.f4, Option.getD]
  have HT := Lib.hid hT
  have HF := Lib.hid hF
  have HC := chosen_any w.drew comma comment expect lz tr re
  rw [hcm] at HC
  have HC := Lib.hid HC
  refine held_start (fun w' => Blk w' ob 26 (optCells comma comment expect lz tr re)) [] mixed ?_
  have hS0 : Blk w.drew ob 26 (optCells comma comment expect lz tr re) := hob
  have hb0 := drew_below w
  clear hT hF hob hcm
  refine take 0 _ _ ?tv1 rfl rfl (by kernel_rfl) hS0 (by intro c a d v w h; cases d <;> exact h) ?th1 ?tn1
  case th1 => intro w' hS K hK; have hc := Blk.cell hS; unfold optCells at hc; go_simp; exact hK
  refine take 1 _ _ ?tv2 rfl rfl (by kernel_rfl) hS0 (by intro c a d v w h; cases d <;> exact h) ?th2 ?tn2
  case th2 => intro w' hS K hK; have hc := Blk.cell hS; unfold optCells at hc; go_simp; exact hK
  refine take 4 _ _ ?tv3 rfl rfl (by kernel_rfl) hS0 (by intro c a d v w h; cases d <;> exact h) ?th3 ?tn3
  case th3 => intro w' hS K hK; have hc := Blk.cell hS; unfold optCells at hc; go_simp; exact hK
  refine take 6 _ _ ?tv4 rfl rfl (by kernel_rfl) hS0 (by intro c a d v w h; cases d <;> exact h) ?th4 ?tn4
  case th4 => intro w' hS K hK; have hc := Blk.cell hS; unfold optCells at hc; go_simp; exact hK
  refine take 7 _ _ ?tv5 rfl rfl (by kernel_rfl) hS0 (by intro c a d v w h; cases d <;> exact h) ?th5 ?tn5
  case th5 => intro w' hS K hK; have hc := Blk.cell hS; unfold optCells at hc; go_simp; exact hK
  refine held_alone 2 _ rfl (by kernel_rfl) ?_
  go_wp
  refine HC.out.mono ?_
  rintro x w1 ⟨rfl, hb1⟩
  have hb01 := hb0.trans (hb1.mono hb0.size)
  have H1 := Lib.hid (And.intro hb01 (hS0.below hb1 hS0.lt))
  clear hb1 hb01 hb0 hS0 HC
  dsimp only [spCells]
  go_wp
  refine ⟨fun _ => H1.out.2, ?_⟩
  refine held_alone 3 _ rfl (by kernel_rfl) ?_
  have hfd := field_comma comma' comment expect lz tr
  go_wp
  refine ⟨fun _ => H1.out.2, ?_⟩
  clear hfd
  have HT1 := Lib.hid (HT.out w1 H1.out.1)
  clear HT
  refine held_alone 5 _ rfl (by kernel_rfl) ?_
  go_wp
  refine HT1.out.mono ?_
  rintro x w2 ⟨rfl, hb2⟩
  have H2 := Lib.hid (And.intro (H1.out.1.trans (hb2.mono H1.out.1.size)) (H1.out.2.below hb2 H1.out.2.lt))
  clear hb2 HT1 H1
  dsimp only
  go_wp
  refine ⟨fun _ => H2.out.2, ?_⟩
  have HF1 := Lib.hid (HF.out w2 H2.out.1)
  clear HF
  refine held_alone 8 _ rfl (by kernel_rfl) ?_
  go_wp
  refine HF1.out.mono ?_
  rintro x w3 ⟨rfl, hb3⟩
  have H3 := Lib.hid (And.intro (H2.out.1.trans (hb3.mono H2.out.1.size)) (H2.out.2.below hb3 H2.out.2.lt))
  clear hb3 HF1 H2
  dsimp only
  go_wp
  refine ⟨fun _ => H3.out.2, ?_⟩
  refine held_alone 9 _ rfl (by kernel_rfl) ?_
  go_wp
  refine ⟨fun _ => H3.out.2, ?_⟩
  refine held_done (by kernel_rfl) ?_
  exact NPost.mk ⟨_, rfl, H3.out.1⟩
end Go.Proofs.YtfadgnopfjajbaaGreatDoor
namespace Go.Proofs.YtfadgnopfjajbaaGreatDoor
open Go.RowKit
/-- The wanted rows so far, in block wb. -/
structure WInv (B : Nat) (w : World) (wb : Nat) (ws : List Value) (wr : List (List (List UInt8))) : Prop where
  blk : Blk w wb 36 ws
  wbB : B ≤ wb
  len : ws.length = wr.length
  each : ∀ (k : Nat) (u : Value) (r : List (List UInt8)), ws[k]? = some u → wr[k]? = some r → StrS B w u r
  apart : ∀ (k k' : Nat) (u u' : Value) (g : Nat), ws[k]? = some u → ws[k']? = some u' → u.ownBlock = some g → u'.ownBlock = some g → k = k'
theorem StrS.far {B : Nat} {w : World} {u : Value} {r : List (List UInt8)} {wb : Nat} {ws : List Value} (h : StrS B w u r) (hb : Blk w wb 36 ws) {g : Nat} (hg : u.ownBlock = some g) : g ≠ wb := by
  rintro rfl
  rcases h.2 with ⟨rfl, _⟩ | ⟨g', cap, cur, rfl, _, hh, _⟩
  · cases hg
  · have e1 : some g' = some g := hg
    injection e1 with e1
    subst e1
    have : w.heap[g']? = _ := hb
    rw [this] at hh
    injection hh with hh
    injection hh with _ hh
    exact absurd hh (by decide)
theorem WInv.next {B : Nat} {w w' : World} {wb : Nat} {ws : List Value} {wr : List (List (List UInt8))} (h : WInv B w wb ws wr) (hb : Below w.heap.size w w') : WInv B w' wb ws wr :=
  ⟨h.blk.below hb h.blk.lt, h.wbB, h.len, fun k u r h1 h2 => (h.each k u r h1 h2).below hb (fun g hg => (own_lt (h.each k u r h1 h2) hg).2), h.apart⟩
theorem WInv.isIn {B : Nat} {w : World} {wb : Nat} {ws : List Value} {wr : List (List (List UInt8))} (h : WInv B w wb ws wr) (hl : wr.length ≤ 9223372036854775807) : RowsIn w (.slice (some ⟨wb, 0, none⟩) wr.length wr.length) wr := by
  refine ⟨_, _, rfl, hl, fun _ => ⟨wb, 0, rfl, h.blk.lt, fun j r hj => ?_⟩⟩
  have hlt : j < ws.length := by rw [h.len]; exact (List.getElem?_eq_some_iff.1 hj).1
  refine ⟨ws[j], ?_, (h.each j _ r (List.getElem?_eq_getElem hlt) hj).isIn⟩
  rw [Nat.zero_add, h.blk.cell j, List.getElem?_eq_getElem hlt]
/-- One more field in row k. -/
theorem WInv.step {B : Nat} {w w1 w2 : World} {wb k : Nat} {ws : List Value} {wr : List (List (List UInt8))} {u u' : Value} {r : List (List UInt8)} {x : List UInt8} (h : WInv B w wb ws wr) (hu : ws[k]? = some u) (hr : wr[k]? = some r) (hb : Below w.heap.size w w1) (hs : StrS B w2 u' (r ++ [x])) (hg : w1.grownBy w2 u.ownBlock) (hu' : u'.ownBlock = u.ownBlock ∨ u'.ownBlock = some w1.heap.size) :
    WInv B (w2.setCell ⟨wb, k, none⟩ u') wb (ws.set k u') (wr.set k (r ++ [x])) := by
  have h1 := h.next hb
  have hO : Only (fun q => u.ownBlock = some q) w1 w2 := (Only.refl (fun q => u.ownBlock = some q) w1).grown hg (fun q hq _ => hq)
  have hblk2 : Blk w2 wb 36 ws := h1.blk.only hO (fun e => (h1.each k u r hu hr).far h1.blk e rfl)
  have hO2 : Only (fun q => q = wb) w2 (w2.setCell ⟨wb, k, none⟩ u') := (Only.refl (fun q => q = wb) w2).setCell (p := ⟨wb, k, none⟩) (fun _ => rfl) _
  refine ⟨hblk2.set k u', h.wbB, by simp [h.len], ?_, ?_⟩
  · intro k' v r' hv hr'
    rw [List.getElem?_set] at hv hr'
    by_cases hk : k = k'
    · subst hk
      rw [if_pos rfl] at hv hr'
      split at hv
      · split at hr'
        · injection hv with hv; injection hr' with hr'
          subst hv hr'
          exact hs.only hO2 (fun q hq e => hs.far hblk2 hq e)
        · cases hr'
      · cases hv
    · rw [if_neg hk] at hv hr'
      have hv1 := h1.each k' v r' hv hr'
      have hv2 : StrS B w2 v r' := hv1.only hO (fun q hq e => hk (h.apart k k' u v q hu hv e hq))
      exact hv2.only hO2 (fun q hq e => hv2.far hblk2 hq e)
  · have key : ∀ (k' : Nat) (v : Value) (g : Nat), k' ≠ k → ws[k']? = some v → v.ownBlock = some g → u'.ownBlock = some g → False := by
      intro k' v g hk hv hg1 hg2
      rcases hu' with e | e
      · exact hk (h.apart k' k v u g hv hu hg1 (e ▸ hg2))
      · rw [e] at hg2
        injection hg2 with hg2
        have hlt : k' < wr.length := by rw [← h.len]; exact (List.getElem?_eq_some_iff.1 hv).1
        have := (own_lt (h1.each k' v _ hv (List.getElem?_eq_getElem hlt)) hg1).2
        omega
    intro a b v v' g hv hv' hg1 hg2
    rw [List.getElem?_set] at hv hv'
    by_cases ha : k = a
    · by_cases hb' : k = b
      · exact ha.symm.trans hb'
      · rw [if_pos ha] at hv
        rw [if_neg hb'] at hv'
        split at hv
        · injection hv with hv; subst hv
          exact (key b v' g (fun e => hb' e.symm) hv' hg2 hg1).elim
        · cases hv
    · rw [if_neg ha] at hv
      by_cases hb' : k = b
      · rw [if_pos hb'] at hv'
        split at hv'
        · injection hv' with hv'; subst hv'
          exact (key a v g (fun e => ha e.symm) hv hg1 hg2).elim
        · cases hv'
      · rw [if_neg hb'] at hv'
        exact h.apart a b v v' g hv hv' hg1 hg2
theorem WInv.start {B : Nat} {w : World} {wb n : Nat} (h : Blk w wb 36 (List.replicate n (.slice none 0 0))) (hB : B ≤ wb) : WInv B w wb (List.replicate n (.slice none 0 0)) (List.replicate n []) := by
  refine ⟨h, hB, by simp, fun k u r h1 h2 => ?_, fun k k' u u' g h1 h2 h3 _ => ?_⟩
  · rw [List.getElem?_replicate] at h1 h2
    split at h1
    · rename_i hk
      rw [if_pos hk] at h2
      injection h1 with h1; injection h2 with h2
      subst h1 h2
      exact StrS.nil _ _
    · cases h1
  · rw [List.getElem?_replicate] at h1
    split at h1
    · injection h1 with h1; subst h1; cases h3
    · cases h1
set_option maxRecDepth 100000 in
set_option maxHeartbeats 1000000 in
/-- want[i] = append(want[i], unix(s)). -/
theorem qt_p12 (B : Nat) (w : World) (l : List (Nat × Value)) (f : Nat → Value) (wb i n : Nat) (ws : List Value) (wr : List (List (List UInt8))) (r : List (List UInt8)) (s : List UInt8) (u : Value) (h7 : lk l f 7 = .slice (some ⟨wb, 0, none⟩) n n) (h8 : lk l f 8 = .int .i64 (i : Int)) (h11 : lk l f 11 = .string ⟨s.toArray⟩) (hW : WInv B w wb ws wr) (hu : ws[i]? = some u) (hr : wr[i]? = some r) (hi : i < n) (hm : MaxAt w) (hs : s.length < 4294967281) (hrl : r.length < 1000000000) (hB : B ≤ w.heap.size) :
    qt12.wp Tryz.prog (NPost fun a w' => ∃ l' ws', a = Fr 65 l' f ∧ VKeeps uV [] l f l' ∧ Below B w w' ∧ WInv B w' wb ws' (wr.set i (r ++ [unixL s]))) (Fr 65 l f) w := by
  dsimp only [qt12, qtBody, part, part.sub2', sub1, sub2, Tryz.f4, Option.getD]
  have hWd : WInv B w.drew wb ws wr := hW.next (drew_below w)
  have HU := Lib.hid (unix_any w.drew s (hm.next (drew_below w)) hs)
  refine held_start (fun w' => Blk w' wb 36 ws) [11] mixed ?_
  have hS0 := hWd.blk
  obtain ⟨A0, c0, hu0, hu1, hu2, _⟩ := (hW.each i u r hu hr).form
  have hcell : ws[i]? = some (.slice A0 r.length c0) := by rw [hu, hu0]
  have H0 := Lib.hid (And.intro hW (And.intro hWd (And.intro hm (And.intro hs (And.intro hrl (And.intro hB (And.intro hu (And.intro hr hu0))))))))
  clear hW hWd hm hs hrl hB hu hr hu0 hu1 hu2
  refine take 0 _ _ ?tv1 rfl rfl (by kernel_rfl) hS0 (by intro c a d v w h; cases d <;> exact h) ?th1 ?tn1
  case th1 => intro w' hS K hK; have hc := Blk.cell hS i; rw [hcell] at hc; go_simp; exact hK
  refine take 1 _ _ ?tv2 rfl rfl (by kernel_rfl) hS0 (by intro c a d v w h; cases d <;> exact h) ?th2 ?tn2
  case th2 => intro w' hS K hK; have hc := Blk.cell hS i; rw [hcell] at hc; go_simp; exact hK
  refine take 2 _ _ ?tv3 rfl rfl (by kernel_rfl) hS0 (by intro c a d v w h; cases d <;> exact h) ?th3 ?tn3
  case th3 => intro w' hS K hK; have hc := Blk.cell hS i; rw [hcell] at hc; go_simp; exact hK
  refine take 3 _ _ ?tv4 rfl rfl (by kernel_rfl) hS0 (by intro c a d v w h; cases d <;> exact h) ?th4 ?tn4
  case th4 => intro w' hS K hK; have hc := Blk.cell hS i; rw [hcell] at hc; go_simp; exact hK
  refine take 6 _ _ ?tv5 rfl rfl (by kernel_rfl) hS0 (by intro c a d v w h; cases d <;> exact h) ?th5 ?tn5
  case th5 => intro w' hS K hK; have hc := Blk.cell hS i; rw [hcell] at hc; go_simp; exact hK
  refine take 4 _ _ ?tv6 rfl rfl (by kernel_rfl) hS0 (by intro c a d v w h; cases d <;> exact h) ?th6 ?tn6
  case th6 => intro w' hS K hK; have hc := Blk.cell hS i; rw [hcell] at hc; go_simp; exact hK
  refine take 5 _ _ ?tv7 rfl rfl (by kernel_rfl) hS0 (by intro c a d v w h; cases d <;> exact h) ?th7 ?tn7
  case th7 => intro w' hS K hK; have hc := Blk.cell hS i; rw [hcell] at hc; go_simp; exact hK
  refine held_alone 7 _ rfl (by kernel_rfl) ?_
  go_wp
  refine HU.out.mono ?_
  rintro e w1 ⟨rfl, hb1⟩
  have hS1 := hS0.below hb1 hS0.lt
  have H1 := Lib.hid (And.intro hb1 hS1)
  clear hb1 HU hS0
  dsimp only [strV]
  go_wp
  refine ⟨fun _ => H1.out.2, ?_⟩
  have hS1 := H1.out.2
  have hS2 : Blk (w1.alloc (.cells #[.string ⟨(unixL s).toArray⟩] 9)) wb 36 ws := hS1.alloc _
  obtain ⟨hW, hWd, hm, hs, hrl, hB, hu, hr, hu0⟩ := H0.out
  have hb2 : Below w1.heap.size w1 (w1.alloc (.cells #[.string ⟨(unixL s).toArray⟩] 9)) := (Below.refl _ w1).alloc (Nat.le_refl _) _
  have hb02 : Below w.heap.size w.drew (w1.alloc (.cells #[.string ⟨(unixL s).toArray⟩] 9)) := H1.out.1.trans (hb2.mono H1.out.1.size)
  have hst : StrS B (w1.alloc (.cells #[.string ⟨(unixL s).toArray⟩] 9)) u r := ((hWd.next hb02).each i u r hu hr)
  have hcl := (Blk.new_arr w1 9 #[.string ⟨(unixL s).toArray⟩]).cell 0
  obtain ⟨v', w3, hrun, g1, g2, g3⟩ := append_strs (w1.alloc (.cells #[.string ⟨(unixL s).toArray⟩] 9)) B 36 u r hst w1.heap.size 0 1 [unixL s] (fun j x hj => by
    rcases j with _ | j
    · simp at hj; subst hj; exact hcl
    · simp at hj) (by simp; omega) (Nat.le_trans hB (Nat.le_trans H1.out.1.size hb2.size))
  rw [hu0] at hrun
  have hrun' : (Builtin.append_ #[36, 36] 36 #[.slice A0 r.length c0, .slice (some ⟨w1.heap.size, 0, none⟩) 1 1]).run Tryz.prog (w1.alloc (.cells #[.string ⟨(unixL s).toArray⟩] 9)) = .ok v' w3 := hrun
  have hfin := hWd.step hu hr hb02 g1 g2 g3
  have hO3 : Only (fun q => u.ownBlock = some q) (w1.alloc (.cells #[.string ⟨(unixL s).toArray⟩] 9)) w3 := (Only.refl (fun q => u.ownBlock = some q) _).grown g2 (fun q hq _ => hq)
  have hS3 : Blk w3 wb 36 ws := hS2.only hO3 (fun e => hst.far hS2 e rfl)
  have hb3 : Below B w (w3.setCell ⟨wb, i, none⟩ v') := by
    have a1 : Below B w (w1.alloc (.cells #[.string ⟨(unixL s).toArray⟩] 9)) := ((drew_below w).mono hB).trans (hb02.mono hB)
    have a2 : Below B (w1.alloc (.cells #[.string ⟨(unixL s).toArray⟩] 9)) w3 := hO3.below (Nat.le_trans hB (Nat.le_trans H1.out.1.size hb2.size)) (fun q hq => (own_lt hst hq).1)
    have a3 : Below B w3 (w3.setCell ⟨wb, i, none⟩ v') := ((Only.refl (fun q => q = wb) w3).setCell (p := ⟨wb, i, none⟩) (fun _ => rfl) v').below (Nat.le_trans a1.size (Nat.le_trans a2.size (Nat.le_refl _)) |> Nat.le_trans hB) (fun q hq => by rw [hq]; exact hW.wbB)
    exact (a1.trans a2).trans a3
  obtain ⟨A3, c3, hv3, _⟩ := g1.form
  have hv3 : v' = .slice A3 (r.length + 1) c3 := by rw [hv3]; simp
  have H3 := Lib.hid (And.intro hfin (And.intro hS3 hb3))
  rw [hv3] at hrun' H3
  clear hfin hS3 hb3 hO3 g1 g2 g3 hrun hst hcl hb02 hb2 hW hWd hm hs hrl hB hu hr hu0 H1 H0 hv3
  refine held_alone 8 _ rfl (by kernel_rfl) ?_
  go_wp
  refine ⟨fun _ => hS2, ?_⟩
  refine held_alone 9 _ rfl (by kernel_rfl) ?_
  refine wl_append _ _ _ rfl rfl (by rw [Fr_eval _ _ _ _ rfl]; simp only [lk]; rfl) (by rw [Fr_eval _ _ _ _ rfl]; simp only [lk]; rfl) hrun' ?_
  rw [Fr_put]
  simp only [wpList, Exit.then]
  refine ⟨fun _ => H3.out.2.1, ?_⟩
  clear hrun'
  refine held_alone 10 _ rfl (by kernel_rfl) ?_
  go_wp
  refine ⟨fun _ => H3.out.2.1, ?_⟩
  have hc3 := H3.out.2.1.cell i
  have hz3 := H3.out.2.1.frozen i
  rw [hcell] at hc3
  refine held_alone 11 _ rfl (by kernel_rfl) ?_
  go_wp
  refine ⟨(fun h => absurd h (by decide)), ?_⟩
  refine held_done (by kernel_rfl) ?_
  exact NPost.mk ⟨_, _, rfl, (by repeat first | exact VKeeps.refl _ _ _ _ | refine VKeeps.far (by decide) ?_ | refine VKeeps.set (by decide) ?_), H3.out.2.2, H3.out.1⟩
end Go.Proofs.YtfadgnopfjajbaaGreatDoor
namespace Go.Proofs.YtfadgnopfjajbaaGreatDoor
open Go.RowKit
/-- What is wanted ahead of row i; within it. -/
def wantO (rows : List (List (List UInt8))) (i : Nat) : List (List (List UInt8)) := (rows.take i).map (·.map unixL) ++ List.replicate (rows.length - i) []
def wantL (rows : List (List (List UInt8))) (i : Nat) (r : List (List UInt8)) : List (List (List UInt8)) := (rows.take i).map (·.map unixL) ++ (r.map unixL :: List.replicate (rows.length - i - 1) [])
section
variable {rows : List (List (List UInt8))} {i : Nat}
theorem wantO_nil (h : i < rows.length) : wantO rows i = wantL rows i [] := by
  unfold wantO wantL
  have : rows.length - i = rows.length - i - 1 + 1 := by omega
  rw [this, List.replicate_succ]; simp
theorem wantL_full (h : i < rows.length) : wantL rows i rows[i] = wantO rows (i + 1) := by
  unfold wantO wantL
  rw [take_one h, List.map_append, List.append_assoc]
  congr 1
theorem take_len (h : i < rows.length) : ((rows.take i).map (·.map unixL)).length = i := by
  rw [List.length_map, List.length_take]; omega
theorem wantL_at (h : i < rows.length) (r : List (List UInt8)) : (wantL rows i r)[i]? = some (r.map unixL) := by
  unfold wantL
  rw [List.getElem?_append_right (by rw [take_len h]; exact Nat.le_refl _), take_len h, Nat.sub_self]; rfl
theorem wantL_set (h : i < rows.length) (r : List (List UInt8)) (s : List UInt8) : (wantL rows i r).set i (r.map unixL ++ [unixL s]) = wantL rows i (r ++ [s]) := by
  unfold wantL
  rw [List.set_append_right _ _ (by rw [take_len h]; exact Nat.le_refl _), take_len h, Nat.sub_self]
  simp
theorem wantO_start : wantO rows 0 = List.replicate rows.length [] := by simp [wantO]
theorem wantO_end : wantO rows rows.length = rows.map (·.map unixL) := by simp [wantO]
theorem wantO_len (h : i ≤ rows.length) : (wantO rows i).length = rows.length := by simp [wantO]; omega
end
/-- The slots that stay. -/
structure UF (l : List (Nat × Value)) (f : Nat → Value) (v : Value) (crlf : Bool) (ob wb n : Nat) : Prop where
  h0 : lk l f 0 = v
  h2 : lk l f 2 = .bool crlf
  h4 : lk l f 4 = .pointer (some ⟨ob, 0, none⟩)
  h7 : lk l f 7 = .slice (some ⟨wb, 0, none⟩) n n
  h25 : lk l f 25 = v
  h26 : lk l f 26 = .int .i64 (n : Int)
abbrev uS : List Nat := [8, 9, 11, 12, 27, 32, 33, 34]
section
variable {l l' : List (Nat × Value)} {f : Nat → Value} {v : Value} {crlf : Bool} {ob wb n : Nat}
theorem UF.keep (h : UF l f v crlf ob wb n) (K : VKeeps uV uS l f l') : UF l' f v crlf ob wb n :=
  ⟨(K 0 rfl rfl).trans h.h0, (K 2 rfl rfl).trans h.h2, (K 4 rfl rfl).trans h.h4, (K 7 rfl rfl).trans h.h7, (K 25 rfl rfl).trans h.h25, (K 26 rfl rfl).trans h.h26⟩
theorem UF.put (h : UF l f v crlf ob wb n) {k : Nat} {u : Value} (hk : [0, 2, 4, 7, 25, 26].contains k = false) : UF ((k, u) :: l) f v crlf ob wb n := by
  simp at hk
  obtain ⟨g1, g2, g3, g4, g5, g6⟩ := hk
  exact ⟨by rw [lk_ne _ _ _ _ _ (by simp; omega)]; exact h.h0, by rw [lk_ne _ _ _ _ _ (by simp; omega)]; exact h.h2, by rw [lk_ne _ _ _ _ _ (by simp; omega)]; exact h.h4, by rw [lk_ne _ _ _ _ _ (by simp; omega)]; exact h.h7, by rw [lk_ne _ _ _ _ _ (by simp; omega)]; exact h.h25, by rw [lk_ne _ _ _ _ _ (by simp; omega)]; exact h.h26⟩
end
/-- A row's fields. -/
theorem qt_inner {G : Glob} {m : Int} {w3 w : World} {l : List (Nat × Value)} {f : Nat → Value} {v : Value} {crlf : Bool} {ob wb i uc : Nat} {A : Option Addr} {rows : List (List (List UInt8))} {ws : List Value} {Q : Exit → Act → World → Prop} (hi : i < rows.length) (hF : UF l f v crlf ob wb rows.length) (h27 : lk l f 27 = .int .i64 (i : Int)) (h8 : lk l f 8 = .int .i64 (i : Int)) (h32 : lk l f 32 = .slice A rows[i].length uc) (h33 : lk l f 33 = .int .i64 (rows[i].length : Int)) (h34 : lk l f 34 = .int .i64 ((0 : Nat) : Int))
    (hr : StrIn w3 (.slice A rows[i].length uc) rows[i]) (hL : Laid w3 G m) (hb : Below w3.heap.size w3 w) (hW : WInv w3.heap.size w wb ws (wantL rows i [])) (hs : ∀ s ∈ rows[i], s.length < 4294967281) (hlen : rows[i].length < 1000000000)
    (hN : ∀ l' w' ws', UF l' f v crlf ob wb rows.length → lk l' f 27 = .int .i64 (i : Int) → Below w3.heap.size w3 w' → WInv w3.heap.size w' wb ws' (wantO rows (i + 1)) → Q .normal (Fr 65 l' f) w')
    (hR : ∀ l' w', Below w3.heap.size w3 w' → Q .ret (Fr 65 ((6, .bool true) :: l') f) w') :
    qtIn.wp Tryz.prog Q (Fr 65 l f) w := by
  unfold qtIn
  obtain ⟨A0, c0, hv0, hrl, hrx⟩ := id hr
  have hA0 : A = A0 := by injection hv0
  refine wp_block ?_
  refine wp_loop_n (fun k a w' => ∃ l' ws', a = Fr 65 l' f ∧ UF l' f v crlf ob wb rows.length ∧ lk l' f 27 = .int .i64 (i : Int) ∧ lk l' f 8 = .int .i64 (i : Int) ∧ lk l' f 32 = .slice A rows[i].length uc ∧ lk l' f 33 = .int .i64 (rows[i].length : Int) ∧ lk l' f 34 = .int .i64 ((rows[i].length - k : Nat) : Int) ∧ k ≤ rows[i].length ∧ Below w3.heap.size w3 w' ∧ WInv w3.heap.size w' wb ws' (wantL rows i (rows[i].take (rows[i].length - k)))) rows[i].length ⟨l, ws, rfl, hF, h27, h8, h32, h33, by rw [Nat.sub_self]; exact h34, Nat.le_refl _, hb, by rw [Nat.sub_self]; simpa using hW⟩ ?_
  rintro k a w1 ⟨l1, ws1, rfl, hF1, g27, g8, g32, g33, g34, hk, hb1, hW1⟩
  refine seq_part (qt_p8 w1 l1 f (rows[i].length - k) rows[i].length g34 g33) ?_
  rintro x w2 ⟨l2, rfl, K2, rfl⟩
  have q : ∀ k', uV.contains k' = true → lk ((35, .bool (decide (rows[i].length - k < rows[i].length))) :: l2) f k' = lk l1 f k' := fun k' hk' => by
    rw [lk_ne _ _ _ _ _ (by simp only [beq_eq_false_iff_ne, ne_eq]; intro e; subst e; cases hk'), K2 k' hk' rfl]
  have hF2 : UF ((35, .bool (decide (rows[i].length - k < rows[i].length))) :: l2) f v crlf ob wb rows.length := hF1.keep (fun k' a _ => q k' a)
  have q35 : lk ((35, .bool (decide (rows[i].length - k < rows[i].length))) :: l2) f 35 = .bool (decide (rows[i].length - k < rows[i].length)) := by simp [lk]
  have q27 := (q 27 rfl).trans g27
  have q8 := (q 8 rfl).trans g8
  have q32 := (q 32 rfl).trans g32
  have q33 := (q 33 rfl).trans g33
  have q34 := (q 34 rfl).trans g34
  clear q
  revert hF2 q35 q27 q8 q32 q33 q34
  generalize (35, Value.bool (decide (rows[i].length - k < rows[i].length))) :: l2 = l3
  intro hF2 q35 q27 q8 q32 q33 q34
  by_cases hlt : rows[i].length - k < rows[i].length
  · rw [decide_eq_true hlt] at q35
    refine seq_part (R := fun a w => a = Fr 65 l3 f ∧ w = w2) (wp_if_true rfl q35 (wp_skip (NPost.mk ⟨rfl, rfl⟩))) ?_
    rintro a w4 ⟨rfl, rfl⟩
    obtain ⟨ub, uo, hA, hub, hcell⟩ := hrx (Nat.lt_of_le_of_lt (Nat.zero_le _) hlt)
    have hAe : A = some ⟨ub, uo, none⟩ := hA0.trans hA
    subst hAe
    have hj := (hb1.cell (p := ⟨ub, uo + (rows[i].length - k), none⟩) hub).trans (hcell (rows[i].length - k) _ (List.getElem?_eq_getElem hlt))
    have hst := take_one hlt
    refine wp_seq_mid (fun a w' => ∃ l' ws', a = Fr 65 l' f ∧ UF l' f v crlf ob wb rows.length ∧ lk l' f 27 = .int .i64 (i : Int) ∧ lk l' f 8 = .int .i64 (i : Int) ∧ lk l' f 32 = .slice (some ⟨ub, uo, none⟩) rows[i].length uc ∧ lk l' f 33 = .int .i64 (rows[i].length : Int) ∧ lk l' f 34 = .int .i64 ((rows[i].length - k : Nat) : Int) ∧ Below w3.heap.size w3 w' ∧ WInv w3.heap.size w' wb ws' (wantL rows i (rows[i].take (rows[i].length - k + 1)))) ?_ ?_
    · unfold qtRow
      refine wp_block ?_
      refine seq_part (qt_p9 w4 l3 f ub uo (rows[i].length - k) rows[i].length uc ⟨rows[i][rows[i].length - k].toArray⟩ q34 q32 hlt hj) ?_
      rintro x w5 ⟨l5, rfl, K5, rfl⟩
      have hsl := hs _ (List.getElem_mem hlt)
      refine wp_seq_mid (fun a w' => ∃ l' b, a = Fr 65 ((39, .bool b) :: l') f ∧ VKeeps uV [] ((11, .string ⟨rows[i][rows[i].length - k].toArray⟩) :: l5) f l' ∧ w' = w5) (seq_part (qt_p10 w5 _ f ⟨rows[i][rows[i].length - k].toArray⟩ (by simp [lk]) (hL.next hb1).maxAt (by rw [size_mk]; exact hsl)) ?_) ?_
      · rintro x w6 ⟨l6, b6, rfl, K6, rfl⟩
        cases b6
        · refine wp_if_false rfl (by simp [lk]) (wp_skip ?_)
          simp only [Exit.then]
          exact ⟨l6, false, rfl, K6, trivial⟩
        · refine wp_if_true rfl (by simp [lk]) (seq_part (qt_p11 w6 _ f (awake_any G w6 m (hL.next hb1))) ?_)
          rintro x w7 ⟨l7, rfl, hb7⟩
          refine wp_ret ?_
          simp only [Exit.then, Exit.inBlock]
          exact hR _ _ (hb1.trans (hb7.mono hb1.size))
      · rintro x w6 ⟨l6, b6, rfl, K6, rfl⟩
        have p : ∀ k', uV.contains k' = true → [11].contains k' = false → lk ((39, .bool b6) :: l6) f k' = lk l3 f k' := fun k' hk' hs' => by
          rw [lk_ne _ _ _ _ _ (by simp only [beq_eq_false_iff_ne, ne_eq]; intro e; subst e; cases hk'), K6 k' hk' rfl, lk_ne _ _ _ _ _ (by simp only [beq_eq_false_iff_ne, ne_eq]; intro e; subst e; cases hs'), K5 k' hk' rfl]
        have p11 : lk ((39, .bool b6) :: l6) f 11 = .string ⟨rows[i][rows[i].length - k].toArray⟩ := by rw [lk_ne _ _ _ _ _ rfl, K6 11 rfl rfl]; simp [lk]
        have hF6 : UF ((39, .bool b6) :: l6) f v crlf ob wb rows.length := hF2.keep (fun k' a b => p k' a (by revert b; simp; omega))
        have hwi := wantL_at hi (rows[i].take (rows[i].length - k))
        have hlt1 : i < ws1.length := by rw [hW1.len]; exact (List.getElem?_eq_some_iff.1 hwi).1
        refine last_part (qt_p12 w3.heap.size w6 _ f wb i rows.length ws1 _ _ rows[i][rows[i].length - k] _ hF6.h7 ((p 8 rfl rfl).trans q8) p11 hW1 (List.getElem?_eq_getElem hlt1) hwi hi (hL.next hb1).maxAt hsl (by rw [List.length_map, List.length_take]; omega) hb1.size) ?_
        rintro x w7 ⟨l7, ws7, rfl, K7, hb7, hW7⟩
        simp only [Exit.then, Exit.inBlock]
        rw [wantL_set hi, ← hst] at hW7
        refine ⟨l7, ws7, rfl, hF6.keep (K7.mono (S' := uS) (fun _ _ => rfl)), ?_, ?_, ?_, ?_, ?_, hb1.trans hb7, hW7⟩
        · rw [K7 27 rfl rfl, p 27 rfl rfl, q27]
        · rw [K7 8 rfl rfl, p 8 rfl rfl, q8]
        · rw [K7 32 rfl rfl, p 32 rfl rfl, q32]
        · rw [K7 33 rfl rfl, p 33 rfl rfl, q33]
        · rw [K7 34 rfl rfl, p 34 rfl rfl, q34]
    · rintro x w5 ⟨l5, ws5, rfl, hF5, t27, t8, t32, t33, t34, hb5, hW5⟩
      refine last_part (qt_p13 w5 l5 f (rows[i].length - k) t34 (by omega)) ?_
      rintro x w6 ⟨l6, rfl, K6, rfl⟩
      have e5 := sub_pred hlt hk
      refine ⟨k - 1, pred_lt hlt, _, ws5, rfl, (hF5.keep (K6.mono (S' := uS) (fun _ _ => rfl))).put (by decide), ?_, ?_, ?_, ?_, ?_, pred_le hk, hb5, by rw [e5]; exact hW5⟩
      · rw [lk_ne _ _ _ _ _ rfl, K6 27 rfl rfl, t27]
      · rw [lk_ne _ _ _ _ _ rfl, K6 8 rfl rfl, t8]
      · rw [lk_ne _ _ _ _ _ rfl, K6 32 rfl rfl, t32]
      · rw [lk_ne _ _ _ _ _ rfl, K6 33 rfl rfl, t33]
      · rw [e5]; simp only [lk, if_true]
  · rw [decide_eq_false hlt] at q35
    have e := sub_same hlt
    rw [e, List.take_length, wantL_full hi] at hW1
    refine wp_seq (wp_if_false rfl q35 (wp_exit ?_))
    simp only [Exit.then, Exit.inBlock, if_true]
    exact hN l3 w2 ws1 hF2 q27 hb1 hW1
end Go.Proofs.YtfadgnopfjajbaaGreatDoor
