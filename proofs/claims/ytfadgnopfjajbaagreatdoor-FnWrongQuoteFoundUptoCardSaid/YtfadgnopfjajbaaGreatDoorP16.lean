/- A part of the proof: laws.same of lists of answers that are alike. laws.reads, laws.ended, laws.awake. laws.awake and laws.FnDefaults. From what the rows list to what the walks ask. laws.FnDefaults. Arguments as they come in; a world that fits. A world that fits the rows; the row and the card of FnDefaults. -/
import Derived.Test.YtfadgnopfjajbaaGreatDoorP15
import Derived.Test.YtfadgnopfjajbaaGreatDoorRows
import Derived.LaidLaws
import Derived.LaidSub
import Derived.LaidHandle
import Derived.Lib.LaidU8
import Derived.Lib.LaidU8T
import Derived.Shelf.LaysM
import Derived.ProofKit
import Derived.OpenShut
import Derived.SliceStrings
import Derived.Deep.SlicePairs
import Derived.Deep.DeepHandedRow
import Derived.Deep.DeepWitnessRowRef
import Derived.Test.YtfadgnopfjajbaaGreatDoorCards
import Derived.Test.YtfadgnopfjajbaaGreatDoorTie
namespace Go.Proofs.YtfadgnopfjajbaaGreatDoor
open Go.RowKit
/-- One answer of a row, in memory. -/
theorem AnsRow.at {B : Nat} {w : World} {av : Value} {xs : List Csv.Ans} (h : AnsRow B w av xs) {j : Nat} (hj : j < xs.length) : ∃ g c cs, av = .slice (some ⟨g, 0, none⟩) xs.length c ∧ g < w.heap.size ∧ cs.length = 11 ∧ (∀ (k : Nat) (v : Value), cs[k]? = some v → w.cell? ⟨g, j * 11 + k, none⟩ = some v) ∧ AnsAt B w (fun k => av.ownBlock = some k) cs xs[j] := by
  obtain ⟨css, h1, h2, h3⟩ := h
  obtain ⟨A, c, hv, _, _, z, s⟩ := ownsRow_form h1
  have hA : ∃ g, A = some ⟨g, 0, none⟩ ∧ g < w.heap.size := by
    cases hA : A with
    | none => have := (z hA).1; omega
    | some a => obtain ⟨g, e, _, hl⟩ := s a hA; exact ⟨g, by rw [e], hl⟩
  obtain ⟨g, rfl, hg⟩ := hA
  have hcs : css[j]? = some css[j] := List.getElem?_eq_getElem (by omega)
  have hat := h3 j _ _ hcs (List.getElem?_eq_getElem hj)
  have hall : ∀ x ∈ css, x.length = 11 := by
    intro x hx
    obtain ⟨i, hi, rfl⟩ := List.getElem_of_mem hx
    exact (h3 i _ _ (List.getElem?_eq_getElem hi) (List.getElem?_eq_getElem (by omega))).len
  refine ⟨g, c, css[j], hv, hg, hat.len, fun k v hk => ?_, hat⟩
  have hk11 : k < 11 := by have := (List.getElem?_eq_some_iff.1 hk).1; have := hat.len; omega
  have hfg := flatten_get 11 css j k _ hall hcs hk11
  rw [hv] at h1
  have := World.ownsRow.cells h1 (g := g) rfl (j * 11 + k) v (by rw [hfg, hk])
  rw [Addr.add_mk] at this
  simpa using this
theorem AnsRow.form {B : Nat} {w : World} {av : Value} {xs : List Csv.Ans} (h : AnsRow B w av xs) : ∃ A c, av = .slice A xs.length c ∧ xs.length ≤ 9223372036854775807 := by
  obtain ⟨css, h1, h2, h3⟩ := h
  obtain ⟨A, c, hv, k1, k2, z, s⟩ := ownsRow_form h1
  exact ⟨A, c, hv, by simp only [maxLen] at k2; omega⟩
/-- EqualFunc of two lists of answers that hold the same, with same's function. -/
theorem eqAns_any {B B' : Nat} (w : World) (v1 v2 : Value) (xs : List Csv.Ans) (lb : Nat) (h1 : AnsRow B w v1 xs) (h2 : AnsRow B' w v2 xs) (hlb : w.cell? ⟨lb, 0, none⟩ = some (.bool true)) (hlt : lb < w.heap.size) :
    Calls Tryz.prog 35 [v1, v2, .func (.func 36) #[] #[.pointer (some ⟨lb, 0, none⟩)]].toArray w fun e w' => e = .returned (.bool true) ∧ Below w.heap.size w w' := by
  obtain ⟨A1, c1, hv1, hn⟩ := h1.form
  obtain ⟨A2, c2, hv2, _⟩ := h2.form
  rw [hv1, hv2]
  refine qa_calls w A1 A2 xs.length c1 c2 _ hn ?_
  intro i l w' hi hQ
  obtain ⟨b1, c1', cs1, hv1', l1, len1, cell1, at1⟩ := h1.at hi
  obtain ⟨b2, c2', cs2, hv2', l2, len2, cell2, at2⟩ := h2.at hi
  obtain ⟨rfl, rfl⟩ : A1 = some ⟨b1, 0, none⟩ ∧ c1 = c1' := by rw [hv1] at hv1'; injection hv1' with e1 _ e2; exact ⟨e1, e2⟩
  obtain ⟨rfl, rfl⟩ : A2 = some ⟨b2, 0, none⟩ ∧ c2 = c2' := by rw [hv2] at hv2'; injection hv2' with e1 _ e2; exact ⟨e1, e2⟩
  have hsame : ∀ w1, Below w.heap.size w w1 → Calls Tryz.prog 36 [.agg cs1.toArray, .agg cs2.toArray, .pointer (some ⟨lb, 0, none⟩)].toArray w1 fun e w' => e = .returned (.bool true) ∧ Below w1.heap.size w1 w' := fun w1 hb =>
    same1_any w1 _ _ cs1 cs2 xs[i] lb (at1.lt hb) (at2.lt hb) ((hb.cell (p := ⟨lb, 0, none⟩) hlt).trans hlb) (Nat.lt_of_lt_of_le hlt hb.size)
  obtain ⟨rv, lv, sv, vs, hcs, r1, r2, r3, r4, r5, r6, r7⟩ := at1.form
  obtain ⟨rv', lv', sv', vs', hcs', s1, s2, s3, s4, s5, s6, s7⟩ := at2.form
  obtain ⟨A1, d1, e1, _⟩ := r1.form
  obtain ⟨A2, d2, e2, _⟩ := r3.form
  obtain ⟨A3, d3, e3, _⟩ := ownsRow_form r5.row
  obtain ⟨B1, g1, f1, _⟩ := s1.form
  obtain ⟨B2, g2, f2, _⟩ := s3.form
  obtain ⟨B3, g3, f3, _⟩ := ownsRow_form s5.row
  rw [hcs, e1, e2, e3] at cell1
  rw [hcs', f1, f2, f3] at cell2
  rw [hcs, hcs', e1, e2, e3, f1, f2, f3] at hsame
  have y1 : ∀ w1, Below w.heap.size w w1 → ∀ (k : Nat) (v : Value), (ansCells (.slice A1 _ d1) (.slice A2 _ d2) (.slice A3 _ d3) _ _ _ _ _ _ _ _)[k]? = some v → w1.cell? ⟨b1, i * 11 + k, none⟩ = some v := fun w1 hb k v hk => (hb.cell (p := ⟨b1, i * 11 + k, none⟩) l1).trans (cell1 k v hk)
  have y2 : ∀ w1, Below w.heap.size w w1 → ∀ (k : Nat) (v : Value), (ansCells (.slice B1 _ g1) (.slice B2 _ g2) (.slice B3 _ g3) _ _ _ _ _ _ _ _)[k]? = some v → w1.cell? ⟨b2, i * 11 + k, none⟩ = some v := fun w1 hb k v hk => (hb.cell (p := ⟨b2, i * 11 + k, none⟩) l2).trans (cell2 k v hk)
  have z1 := y1 w' hQ.below
  refine block_part ?_
  refine seq_part (qa_p5 w' l _ b1 i _ c1 A1 A2 A3 _ d1 _ d2 _ d3 _ _ _ _ _ _ _ _ hQ.h17 hQ.h15 hi (z1 0 _ rfl) (z1 1 _ rfl) (z1 2 _ rfl) (z1 3 _ rfl) (z1 4 _ rfl) (z1 5 _ rfl) (z1 6 _ rfl) (z1 7 _ rfl) (z1 8 _ rfl) (z1 9 _ rfl) (z1 10 _ rfl)) ?_
  rintro x w3 ⟨l3, rfl, K3, k7, k8, hb3, bk8⟩
  have hQ3 := hQ.keep (K3.mono (S' := [7, 8, 9]) (by intro k; simp <;> omega)) (hb3.mono hQ.below.size)
  have z2 := y2 w3 hQ3.below
  refine seq_part (qa_p6 w3 l3 _ b2 i _ c2 B1 B2 B3 _ g1 _ g2 _ g3 _ _ _ _ _ _ _ _ k7 hQ3.h1 hi (z2 0 _ rfl) (z2 1 _ rfl) (z2 2 _ rfl) (z2 3 _ rfl) (z2 4 _ rfl) (z2 5 _ rfl) (z2 6 _ rfl) (z2 7 _ rfl) (z2 8 _ rfl) (z2 9 _ rfl) (z2 10 _ rfl)) ?_
  rintro x w4 ⟨l4, rfl, K4, k9, hb4, bk9⟩
  have hQ4 := hQ3.keep (K4.mono (S' := [7, 8, 9]) (by intro k; simp <;> omega)) (hb4.mono hQ3.below.size)
  refine seq_part (qa_p7 w4 l4 _ _ _ lb A1 A2 A3 B1 B2 B3 _ d1 _ d2 _ d3 _ g1 _ g2 _ g3 _ _ _ _ _ _ _ _ (fun w' => Below w4.heap.size w4 w') hQ4.h2 ((K4 8 rfl rfl).trans k8) k9 (bk8.below hb4 bk8.lt) bk9 (hsame w4 hQ4.below)) ?_
  rintro x w5 ⟨l5, rfl, K5, hb5⟩
  have hQ5 := hQ4.keep ((VKeeps.far (j := 30) (v := .bool false) rfl K5).mono (fun _ _ => rfl)) (hb5.mono hQ4.below.size)
  exact wp_if_false rfl (by simp [lk]) (wp_skip (NPost.mk ⟨_, rfl, hQ5⟩))
noncomputable def smBody : Code := (Tryz.f8.body).getD .skip
noncomputable def sm0 : Code := part [false] smBody
noncomputable def sm1 : Code := part [true, false] smBody
set_option maxRecDepth 100000 in
theorem sm_eq : smBody = Code.seq sm0 (.seq sm1 .ret) := by kernel_rfl
set_option maxRecDepth 100000 in
theorem same_p0 (w : World) (l : List (Nat × Value)) (f : Nat → Value) (h2 : lk l f 2 = .bool true) : sm0.wp Tryz.prog (NPost fun a w' => ∃ l', a = Fr 11 l' f ∧ VKeeps [0, 1, 5] [5] l f l' ∧ lk l' f 5 = .pointer (some ⟨w.heap.size, 0, none⟩) ∧ Below w.heap.size w w' ∧ w'.cell? ⟨w.heap.size, 0, none⟩ = some (.bool true) ∧ w.heap.size < w'.heap.size) (Fr 11 l f) w := by
  dsimp only [sm0, smBody, part, part.sub2', sub1, sub2, Tryz.f8, Option.getD]
  go_wp
  exact NPost.mk ⟨_, rfl, (by repeat first | exact VKeeps.refl _ _ _ _ | refine VKeeps.far (by decide) ?_ | refine VKeeps.set (by decide) ?_), by simp [lk], (Below.refl _ w).alloc (Nat.le_refl _) _, (Blk.new_arr w _ _).cell 0, by simp⟩
set_option maxRecDepth 100000 in
theorem same_p1 (w : World) (l : List (Nat × Value)) (f : Nat → Value) (A1 A2 : Option Addr) (n1 c1 n2 c2 lb : Nat) (R : World → Prop) (h0 : lk l f 0 = .slice A1 n1 c1) (h1 : lk l f 1 = .slice A2 n2 c2) (h5 : lk l f 5 = .pointer (some ⟨lb, 0, none⟩))
    (hR : Calls Tryz.prog 35 #[.slice A1 n1 c1, .slice A2 n2 c2, .func (.func 36) #[] #[.pointer (some ⟨lb, 0, none⟩)]] w fun e w' => e = .returned (.bool true) ∧ R w') :
    sm1.wp Tryz.prog (NPost fun a w' => ∃ l', a = Fr 11 l' f ∧ lk l' f 6 = .bool true ∧ R w') (Fr 11 l f) w := by
  dsimp only [sm1, smBody, part, part.sub2', sub1, sub2, Tryz.f8, Option.getD]
  go_wp
  refine hR.mono ?_
  rintro e w1 ⟨rfl, hr⟩
  dsimp only
  have H := Lib.hid hr
  clear hr hR
  go_wp
  exact NPost.mk ⟨_, rfl, by simp [lk], H.out⟩
theorem AnsRow.lt {B : Nat} {w w' : World} {av : Value} {xs : List Csv.Ans} (h : AnsRow B w av xs) (hb : Below w.heap.size w w') : AnsRow B w' av xs := by
  obtain ⟨css, h1, h2, h3⟩ := h
  exact ⟨css, ownsRow_only h1 (Only.of_below hb) (fun k hk e => by have := (own_lt h1 hk).2; omega), h2, fun j cs a e1 e2 => (h3 j cs a e1 e2).lt hb⟩
theorem same_any {B B' : Nat} (w : World) (v1 v2 : Value) (xs : List Csv.Ans) (h1 : AnsRow B w v1 xs) (h2 : AnsRow B' w v2 xs) :
    Calls Tryz.prog 8 [v1, v2, .bool true].toArray w fun e w' => e = .returned (.bool true) ∧ Below w.heap.size w w' := by
  obtain ⟨A1, c1, hv1, hn⟩ := h1.form
  obtain ⟨A2, c2, hv2, _⟩ := h2.form
  have hq := fun (w1 : World) (hb : Below w.heap.size w w1) lb hlb hlt => eqAns_any w1 v1 v2 xs lb (h1.lt hb) (h2.lt hb) hlb hlt
  rw [hv1, hv2] at hq ⊢
  refine enter 11 Tryz.func8 rfl rfl (by simp) ?_
  show smBody.wp _ _ _ _
  rw [sm_eq]
  refine seq_part (same_p0 w _ _ rfl) ?_
  rintro x w1 ⟨l1, rfl, K1, k5, hb1, hlb, hlt⟩
  refine seq_part (same_p1 w1 l1 _ A1 A2 _ c1 _ c2 w.heap.size (fun w' => Below w1.heap.size w1 w') ((K1 0 rfl rfl).trans rfl) ((K1 1 rfl rfl).trans rfl) k5 (hq w1 hb1 _ hlb hlt)) ?_
  rintro x w2 ⟨l2, rfl, k6, hb2⟩
  exact wp_ret (ret1 rfl rfl ⟨by rw [k6], hb1.trans (hb2.mono hb1.size)⟩)
end Go.Proofs.YtfadgnopfjajbaaGreatDoor
namespace Go.Proofs.YtfadgnopfjajbaaGreatDoor
open Go.RowKit
/-- What the library's variables hold, all through a call. -/
structure Laid (w : World) (G : Glob) (m : Int) : Prop where
  glob : GInv w.heap.size w G
  ety : ETy w.heap.size w
  max : w.cell? ⟨4, 0, none⟩ = some (.int .i64 m)
  maxB : 4 < w.heap.size
theorem Sent.up {B B' : Nat} {w : World} {g : Nat} {a : EA} {txt : List UInt8} (h : Sent B w g a txt) (hB : B ≤ B') : Sent B' w g a txt := ⟨h.var, Nat.lt_of_lt_of_le h.gB hB, h.blk, h.txt, Nat.lt_of_lt_of_le h.aB hB⟩
theorem Laid.next {w w' : World} {G : Glob} {m : Int} (h : Laid w G m) (hb : Below w.heap.size w w') : Laid w' G m := by
  have hs := hb.size
  have hk := h.glob.keep hb
  have hE := h.ety.keep hb
  exact ⟨⟨hk.eof.up hs, hk.bare.up hs, hk.quote.up hs, hk.count.up hs, hk.full.up hs, hk.inval.up hs, w', rfl, Below.refl _ _, hk.tabs.u8, hk.tabs.white⟩, ⟨hE.1, Nat.lt_of_lt_of_le hE.2 hs⟩, (hb.cell (p := ⟨4, 0, none⟩) h.maxB).trans h.max, Nat.lt_of_lt_of_le h.maxB hs⟩
theorem info_Call : (Tryz.prog.info? 68).map (fun i => (i.zero, i.size, i.bytes)) = some (some (.agg #[.int .i64 0, .int .i64 0]), 2, 16) := by kernel_rfl
set_option maxRecDepth 100000 in
theorem make_calls (w : World) (n : Nat) (hn : n < 1099511627776) : (Instr.makeSlice 27 (.int .i64 (n : Int)) (.int .i64 (n : Int))).run Tryz.prog w = .ok (.slice (some ⟨w.heap.size, 0, none⟩) n n) (w.alloc (.cells ((List.replicate (n * 2) (.int .i64 0)).toArray) 68)) := by
  cases hi : Tryz.prog.info? 68 with
  | none => have := info_Call; rw [hi] at this; cases this
  | some i =>
    have h := info_Call
    rw [hi] at h
    simp only [Option.map_some, Option.some.injEq, Prod.mk.injEq] at h
    obtain ⟨hz, hs, hb⟩ := h
    have hr := run_make (P := Tryz.prog) w 27 68 i _ Tryz.underlying27 hi hz .i64 .i64 n n (by omega) (Int.le_refl _) (by rw [hb]; omega) (by omega)
    rw [hr, hs]
    simp only [Int.toNat_natCast]
    congr 2
    congr 1
    apply Array.ext
    · simp [size_madeCells]
    · intro j h1 h2
      have hj : j % 2 = 0 ∨ j % 2 = 1 := by omega
      simp only [madeCells, Array.getElem_map, Array.getElem_range, List.getElem_toArray, List.getElem_replicate]
      show (#[Value.int .i64 0, .int .i64 0] : Array Value)[j % 2]! = _
      rcases hj with h | h <;> rw [h] <;> rfl
noncomputable def rdBody : Code := (Tryz.f22.body).getD .skip
noncomputable def rd0 : Code := part [false] rdBody
noncomputable def rd1 : Code := part [true, false] rdBody
set_option maxRecDepth 100000 in
theorem rd_eq : rdBody = Code.seq rd0 (.seq rd1 .ret) := by kernel_rfl
set_option maxRecDepth 100000 in
theorem reads_p0 (w : World) (l : List (Nat × Value)) (f : Nat → Value) : rd0.wp Tryz.prog (NPost fun a w' => a = Fr 5 ((2, .slice none 0 0) :: l) f ∧ w' = w) (Fr 5 l f) w := by
  dsimp only [rd0, rdBody, part, part.sub2', sub1, sub2, Tryz.f22, Option.getD]
  go_wp
  exact NPost.mk ⟨rfl, rfl⟩
set_option maxRecDepth 100000 in
theorem reads_p1 (w : World) (l : List (Nat × Value)) (f : Nat → Value) (n : Nat) (h0 : lk l f 0 = .int .i64 (n : Int)) (hn : n < 1099511627776) : rd1.wp Tryz.prog (NPost fun a w' => ∃ l', a = Fr 5 ((2, .slice (some ⟨w.heap.size, 0, none⟩) n n) :: l') f ∧ Below w.heap.size w w' ∧ Blk w' w.heap.size 68 (List.replicate (n * 2) (.int .i64 0))) (Fr 5 l f) w := by
  dsimp only [rd1, rdBody, part, part.sub2', sub1, sub2, Tryz.f22, Option.getD]
  have hmk := make_calls w n hn
  go_wp
  exact NPost.mk ⟨_, rfl, (Below.refl _ w).alloc (Nat.le_refl _) _, Blk.new w _ _⟩
/-- A script of n calls of Read. -/
theorem reads_any (w : World) (n : Nat) (hn : n < 1099511627776) : Calls Tryz.prog 22 [.int .i64 (n : Int)].toArray w fun e w' => e = .returned (.slice (some ⟨w.heap.size, 0, none⟩) n n) ∧ Below w.heap.size w w' ∧ Blk w' w.heap.size 68 (List.replicate (n * 2) (.int .i64 0)) := by
  refine enter 5 Tryz.func22 rfl rfl (by simp) ?_
  show rdBody.wp _ _ _ _
  rw [rd_eq]
  refine seq_part (reads_p0 w _ _) ?_
  rintro x w1 ⟨rfl, rfl⟩
  refine seq_part (reads_p1 w1 _ _ n rfl hn) ?_
  rintro x w2 ⟨l2, rfl, hb, hk⟩
  exact wp_ret (ret1 rfl rfl ⟨by simp [lk], hb, hk⟩)
/-- n calls of Read. -/
def readsL (n : Nat) : List Csv.Cal := List.replicate n ⟨0, 0⟩
theorem script_reads {w : World} {n g : Nat} (h : Blk w g 68 (List.replicate (n * 2) (.int .i64 0))) : ScriptIn w (readsL n) (.slice (some ⟨g, 0, none⟩) n n) := by
  refine ⟨some ⟨g, 0, none⟩, n, by simp [readsL], fun _ => ⟨g, 0, rfl, h.lt, fun i cal hi => ?_⟩⟩
  simp only [readsL, List.getElem?_replicate] at hi
  split at hi
  · injection hi with hi
    subst hi
    rename_i hin
    have c1 := h.cell (i * 2)
    have c2 := h.cell (i * 2 + 1)
    rw [List.getElem?_replicate, if_pos (by omega)] at c1 c2
    rw [Nat.zero_add]
    exact ⟨c1, c2⟩
  · cases hi
noncomputable def enBody : Code := (Tryz.f34.body).getD .skip
noncomputable def en0 : Code := part [false] enBody
noncomputable def en1 : Code := part [true, false] enBody
set_option maxRecDepth 100000 in
theorem en_eq : enBody = Code.seq en0 (.seq en1 .ret) := by kernel_rfl
set_option maxRecDepth 100000 in
theorem ended_p0 (w : World) (l : List (Nat × Value)) (f : Nat → Value) (A1 A2 A3 : Option Addr) (n1 d1 n2 d2 n3 d3 : Nat) (k s ln cl a0 b0 : Int) (p : Bool) (x : Int)
    (h0 : lk l f 0 = .agg #[.slice A1 n1 d1, .slice A2 n2 d2, .slice A3 n3 d3, .int .i64 k, .int .i64 s, .int .i64 ln, .int .i64 cl, .int .i64 a0, .int .i64 b0, .bool p, .int .i64 x]) :
    en0.wp Tryz.prog (NPost fun a w' => ∃ l', a = Fr 13 l' f ∧ lk l' f 1 = .pointer (some ⟨w.heap.size, 0, none⟩) ∧ Below w.heap.size w w' ∧
      Blk w' w.heap.size 53 [.slice A1 n1 d1, .slice A2 n2 d2, .slice A3 n3 d3, .int .i64 k, .int .i64 s, .int .i64 ln, .int .i64 cl, .int .i64 a0, .int .i64 b0, .bool p, .int .i64 x]) (Fr 13 l f) w := by
  dsimp only [en0, enBody, part, part.sub2', sub1, sub2, Tryz.f34, Option.getD]
  go_wp
  exact NPost.mk ⟨_, rfl, by simp [lk], (Below.refl _ w).alloc (Nat.le_refl _) _, Blk.new_arr w _ _⟩
set_option maxRecDepth 100000 in
theorem ended_p1 (w : World) (l : List (Nat × Value)) (f : Nat → Value) (b : Nat) (A1 A2 A3 : Option Addr) (d1 n2 d2 n3 d3 : Nat) (a0 b0 : Int) (p : Bool) (x : Int) (h1 : lk l f 1 = .pointer (some ⟨b, 0, none⟩))
    (hb : Blk w b 53 [.slice A1 0 d1, .slice A2 n2 d2, .slice A3 n3 d3, .int .i64 1, .int .i64 0, .int .i64 0, .int .i64 0, .int .i64 a0, .int .i64 b0, .bool p, .int .i64 x]) :
    en1.wp Tryz.prog (NPost fun a w' => ∃ l', a = Fr 13 l' f ∧ lk l' f 2 = .bool true ∧ w' = w) (Fr 13 l f) w := by
  dsimp only [en1, enBody, part, part.sub2', sub1, sub2, Tryz.f34, Option.getD]
  have c := hb.cell
  clear hb
  go_wp
  exact NPost.mk ⟨_, rfl, by simp [lk], rfl⟩
/-- ended of an answer that says so. -/
theorem ended_any {B : Nat} (w : World) (M : Nat → Prop) (cs : List Value) (a : Csv.Ans) (h : AnsAt B w M cs a) (h1 : a.record = []) (h2 : a.fail = ⟨1, 0, 0, 0⟩) :
    Calls Tryz.prog 34 [.agg cs.toArray].toArray w fun e w' => e = .returned (.bool true) ∧ Below w.heap.size w w' := by
  obtain ⟨rv, lv, sv, vs, hcs, r1, r2, r3, r4, r5, r6, r7⟩ := h.form
  obtain ⟨A1, d1, e1, _⟩ := r1.form
  obtain ⟨A2, d2, e2, _⟩ := r3.form
  obtain ⟨A3, d3, e3, _⟩ := ownsRow_form r5.row
  rw [h1] at e1
  rw [hcs, e1, e2, e3, h2]
  refine enter 13 Tryz.func34 rfl rfl (by simp) ?_
  show enBody.wp _ _ _ _
  rw [en_eq]
  refine seq_part (ended_p0 w _ _ A1 A2 A3 _ d1 _ d2 _ d3 _ _ _ _ _ _ _ _ rfl) ?_
  rintro x w1 ⟨l1, rfl, k1, hb1, b1⟩
  refine seq_part (ended_p1 w1 l1 _ _ A1 A2 A3 d1 _ d2 _ d3 _ _ _ _ k1 b1) ?_
  rintro x w2 ⟨l2, rfl, k2, rfl⟩
  exact wp_ret (ret1 rfl rfl ⟨by rw [k2], hb1⟩)
def awakeL : List UInt8 := [97, 44, 34, 98, 34, 34, 34, 10]
set_option maxRecDepth 100000 in
theorem scan_awake : Csv.scan awakeL (optOf 0 0 false false) 0 false (readsL 2) = [{ record := [[97], [98, 34]], later := [[97], [98, 34]] }, { fail := ⟨1, 0, 0, 0⟩ }] := by kernel_rfl
noncomputable def awBody : Code := (Tryz.f7.body).getD .skip
noncomputable def aw0 : Code := part [false] awBody
noncomputable def aw1 : Code := part [true, false] awBody
noncomputable def aw2 : Code := part [true, true, false] awBody
set_option maxRecDepth 100000 in
theorem aw_eq : awBody = Code.seq aw0 (.seq aw1 (.seq aw2 .ret)) := by kernel_rfl
set_option maxRecDepth 100000 in
theorem awake_p0 (w : World) (l : List (Nat × Value)) (f : Nat → Value) : aw0.wp Tryz.prog (NPost fun a w' => a = Fr 23 ((0, .bool false) :: l) f ∧ w' = w) (Fr 23 l f) w := by
  dsimp only [aw0, awBody, part, part.sub2', sub1, sub2, Tryz.f7, Option.getD]
  go_wp
  exact NPost.mk ⟨rfl, rfl⟩
set_option maxRecDepth 100000 in
theorem awake_p1 (w : World) (l : List (Nat × Value)) (f : Nat → Value) (R : Value → World → Prop) (hR : ∀ w1, Below w.heap.size w w1 → Blk w1 w.heap.size 68 (List.replicate (2 * 2) (.int .i64 0)) → Calls Tryz.prog 6 #[.agg #[.string ⟨#[97, 44, 34, 98, 34, 34, 34, 10]⟩, .slice none 0 0, .bool false], .agg #[.int .i32 0, .int .i32 0, .int .i64 0, .bool false, .bool false, .bool false], .slice (some ⟨w.heap.size, 0, none⟩) 2 2] w1 fun e w' => ∃ av, e = .returned av ∧ R av w') :
    aw1.wp Tryz.prog (NPost fun a w' => ∃ l' av, a = Fr 23 ((1, av) :: l') f ∧ R av w') (Fr 23 l f) w := by
  dsimp only [aw1, awBody, part, part.sub2', sub1, sub2, Tryz.f7, Option.getD]
  have hrd := Lib.hid (reads_any w 2 (by decide))
  have HR := Lib.hid hR
  clear hR
  go_wp
  refine hrd.out.mono ?_
  rintro e w1 ⟨rfl, hb1, hk1⟩
  have G := Lib.hid (HR.out w1 hb1 hk1)
  clear hb1 hk1 hrd HR
  dsimp only
  go_wp
  refine G.out.mono ?_
  rintro e w2 ⟨av, rfl, hr⟩
  have H := Lib.hid hr
  clear hr G
  dsimp only
  go_wp
  exact NPost.mk ⟨_, av, rfl, H.out⟩
end Go.Proofs.YtfadgnopfjajbaaGreatDoor
namespace Go.Proofs.YtfadgnopfjajbaaGreatDoor
open Go.RowKit
theorem ownsRow_mono {w : World} {base base' : Nat} {e : TypeId} {size : Nat} {v : Value} {n : Nat} {xs : List Value} (h : w.ownsRow base e size v n xs) (hB : base' ≤ base) : w.ownsRow base' e size v n xs := by
  refine ⟨h.1, ?_⟩
  rcases h.2 with h | ⟨g, cap, cur, h1, hb, r⟩
  · exact .inl h
  · exact .inr ⟨g, cap, cur, h1, Nat.le_trans hB hb, r⟩
theorem AnsRow.mono {B B' : Nat} {w : World} {av : Value} {xs : List Csv.Ans} (h : AnsRow B w av xs) (hB : B' ≤ B) : AnsRow B' w av xs := by
  obtain ⟨css, t1, t2, t3⟩ := h
  refine ⟨css, ownsRow_mono t1 hB, t2, fun j cs a e1 e2 => ?_⟩
  obtain ⟨rv, lv, sv, vs, hcs, r1, r2, r3, r4, r5, r6, r7⟩ := (t3 j cs a e1 e2).form
  exact ⟨rv, lv, sv, vs, hcs, r1.mono hB, r2, r3.mono hB, r4, r5.mono hB, r6, r7⟩
set_option maxRecDepth 100000 in
set_option maxHeartbeats 1000000 in
theorem awake_p2 (w : World) (l : List (Nat × Value)) (f : Nat → Value) (g c : Nat) (A1 B1 B2 B3 : Option Addr) (n1 d1 m1 g1 m2 g2 m3 g3 : Nat) (k s ln cl a0 b0 : Int) (p : Bool) (x : Int) (h1 : lk l f 1 = .slice (some ⟨g, 0, none⟩) 2 c) (hg : g < w.heap.size)
    (e0 : w.cell? ⟨g, 0, none⟩ = some (.slice A1 n1 d1))
    (q0 : w.cell? ⟨g, 11, none⟩ = some (.slice B1 m1 g1)) (q1 : w.cell? ⟨g, 12, none⟩ = some (.slice B2 m2 g2)) (q2 : w.cell? ⟨g, 13, none⟩ = some (.slice B3 m3 g3)) (q3 : w.cell? ⟨g, 14, none⟩ = some (.int .i64 k)) (q4 : w.cell? ⟨g, 15, none⟩ = some (.int .i64 s)) (q5 : w.cell? ⟨g, 16, none⟩ = some (.int .i64 ln)) (q6 : w.cell? ⟨g, 17, none⟩ = some (.int .i64 cl)) (q7 : w.cell? ⟨g, 18, none⟩ = some (.int .i64 a0)) (q8 : w.cell? ⟨g, 19, none⟩ = some (.int .i64 b0)) (q9 : w.cell? ⟨g, 20, none⟩ = some (.bool p)) (q10 : w.cell? ⟨g, 21, none⟩ = some (.int .i64 x))
    (hR1 : ∀ w1, Below w.heap.size w w1 → Blk w1 w.heap.size 9 [strV [97], strV [98, 34]] → Calls Tryz.prog 23 #[.slice A1 n1 d1, .slice (some ⟨w.heap.size, 0, none⟩) 2 2] w1 fun e w' => e = .returned (.bool true) ∧ Below w.heap.size w w')
    (hR2 : ∀ w1, Below w.heap.size w w1 → Calls Tryz.prog 34 #[.agg #[.slice B1 m1 g1, .slice B2 m2 g2, .slice B3 m3 g3, .int .i64 k, .int .i64 s, .int .i64 ln, .int .i64 cl, .int .i64 a0, .int .i64 b0, .bool p, .int .i64 x]] w1 fun e w' => e = .returned (.bool true) ∧ Below w.heap.size w w') :
    aw2.wp Tryz.prog (NPost fun a w' => ∃ l', a = Fr 23 l' f ∧ lk l' f 0 = .bool true ∧ Below w.heap.size w w') (Fr 23 l f) w := by
  dsimp only [aw2, awBody, part, part.sub2', sub1, sub2, Tryz.f7, Option.getD]
  have G1 := Lib.hid hR1
  have G2 := Lib.hid hR2
  have E := Lib.hid (And.intro q0 (And.intro q1 (And.intro q2 (And.intro q3 (And.intro q4 (And.intro q5 (And.intro q6 (And.intro q7 (And.intro q8 (And.intro q9 q10))))))))))
  clear hR1 hR2 q0 q1 q2 q3 q4 q5 q6 q7 q8 q9 q10
  go_wp
  refine (G1.out _ ((Below.refl _ w).alloc (Nat.le_refl _) _) (Blk.new_arr w _ _)).mono ?_
  rintro e w1 ⟨rfl, hb1⟩
  obtain ⟨q0, q1, q2, q3, q4, q5, q6, q7, q8, q9, q10⟩ := E.out
  have r0 := (hb1.cell (p := ⟨g, 11, none⟩) hg).trans q0
  have r1 := (hb1.cell (p := ⟨g, 12, none⟩) hg).trans q1
  have r2 := (hb1.cell (p := ⟨g, 13, none⟩) hg).trans q2
  have r3 := (hb1.cell (p := ⟨g, 14, none⟩) hg).trans q3
  have r4 := (hb1.cell (p := ⟨g, 15, none⟩) hg).trans q4
  have r5 := (hb1.cell (p := ⟨g, 16, none⟩) hg).trans q5
  have r6 := (hb1.cell (p := ⟨g, 17, none⟩) hg).trans q6
  have r7 := (hb1.cell (p := ⟨g, 18, none⟩) hg).trans q7
  have r8 := (hb1.cell (p := ⟨g, 19, none⟩) hg).trans q8
  have r9 := (hb1.cell (p := ⟨g, 20, none⟩) hg).trans q9
  have r10 := (hb1.cell (p := ⟨g, 21, none⟩) hg).trans q10
  clear q0 q1 q2 q3 q4 q5 q6 q7 q8 q9 q10 e0 E G1
  have H2 := Lib.hid (G2.out w1 hb1)
  clear hb1 G2
  dsimp only
  go_wp
  refine H2.out.mono ?_
  rintro e w2 ⟨rfl, hb2⟩
  have H3 := Lib.hid hb2
  clear hb2 r0 r1 r2 r3 r4 r5 r6 r7 r8 r9 r10 H2
  dsimp only
  go_wp
  exact NPost.mk ⟨_, rfl, by simp [lk], H3.out⟩
/-- awake holds. -/
theorem awake_any (G : Glob) (w : World) (m : Int) (hL : Laid w G m) : Calls Tryz.prog 7 #[] w fun e w' => e = .returned (.bool true) ∧ Below w.heap.size w w' := by
  refine enter (args := []) 23 Tryz.func7 rfl rfl (by simp) ?_
  show awBody.wp _ _ _ _
  rw [aw_eq]
  refine seq_part (awake_p0 w _ _) ?_
  rintro x w1 ⟨rfl, rfl⟩
  refine seq_part (awake_p1 w1 _ _ (fun av w' => Below w1.heap.size w1 w' ∧ AnsRow w1.heap.size w' av [{ record := [[97], [98, 34]], later := [[97], [98, 34]] }, { fail := ⟨1, 0, 0, 0⟩ }]) ?_) ?_
  · intro w2 hb2 hk2
    have hL2 := hL.next hb2
    have hs := Scan_any G w2 awakeL (.slice none 0 0) [] false 0 0 0 false false false (.slice (some ⟨w1.heap.size, 0, none⟩) 2 2) (readsL 2) m hL2.glob hL2.ety ⟨none, 0, rfl, Nat.le_refl _, by decide, fun h => absurd rfl h⟩ (script_reads hk2) hL2.max hL2.maxB (by decide) (Tames.ascii (by decide) _)
    rw [scan_awake] at hs
    refine hs.mono ?_
    rintro e w3 ⟨av, he, hb3, hr⟩
    exact ⟨av, he, hb2.trans (hb3.mono hb2.size), hr.mono hb2.size⟩
  rintro x w2 ⟨l2, av, rfl, hb2, hrow⟩
  obtain ⟨g, c, cs, hv, hg, len, cell, at0⟩ := hrow.at (j := 0) (by decide)
  obtain ⟨g', c', cs', hv', hg', len', cell', at1⟩ := hrow.at (j := 1) (by decide)
  obtain ⟨rfl, rfl⟩ : g' = g ∧ c' = c := by
    rw [hv] at hv'; injection hv' with e1 _ e2; injection e1 with e1; injection e1 with e1; exact ⟨e1.symm, e2.symm⟩
  have hend := fun (w3 : World) (hb : Below w2.heap.size w2 w3) => ended_any w3 _ cs' _ (at1.lt hb) rfl rfl
  obtain ⟨rv, lv, sv, vs, hcs, r1, r2, r3, r4, r5, r6, r7⟩ := at0.form
  obtain ⟨rv', lv', sv', vs', hcs', s1, s2, s3, s4, s5, s6, s7⟩ := at1.form
  obtain ⟨A1, d1, e1, _⟩ := r1.form
  obtain ⟨B1, g1, f1, _⟩ := s1.form
  obtain ⟨B2, g2, f2, _⟩ := s3.form
  obtain ⟨B3, g3, f3, _⟩ := ownsRow_form s5.row
  rw [hcs, e1] at cell
  rw [hcs', f1, f2, f3] at cell' hend
  rw [hv]
  refine seq_part (awake_p2 w2 _ _ g' c' A1 B1 B2 B3 _ d1 _ g1 _ g2 _ g3 _ _ _ _ _ _ _ _ (by simp [lk]) hg (cell 0 _ rfl) (cell' 0 _ rfl) (cell' 1 _ rfl) (cell' 2 _ rfl) (cell' 3 _ rfl) (cell' 4 _ rfl) (cell' 5 _ rfl) (cell' 6 _ rfl) (cell' 7 _ rfl) (cell' 8 _ rfl) (cell' 9 _ rfl) (cell' 10 _ rfl) ?_ ?_) ?_
  · intro w3 hb3 hk3
    rw [← e1]
    refine (Equal_any w3 rv _ [[97], [98, 34]] (r1.below hb3 (fun k hk => (own_lt r1 hk).2)).read ⟨_, _, rfl, fun _ => ⟨_, 0, rfl, fun j x hj => ?_⟩⟩ (by decide)).mono ?_
    · rw [Nat.zero_add]
      have := hk3.cell j
      rcases j with _ | _ | j
      · injection hj with hj; subst hj; exact this
      · injection hj with hj; subst hj; exact this
      · cases hj
    · rintro e w4 ⟨he, q, rfl⟩
      exact ⟨he, hb3.trans ((drewN_below w3 q).mono hb3.size)⟩
  · intro w3 hb3
    refine (hend w3 hb3).mono ?_
    rintro e w4 ⟨he, hb4⟩
    exact ⟨he, hb3.trans (hb4.mono hb3.size)⟩
  rintro x w3 ⟨l3, rfl, k0, hb3⟩
  exact wp_ret (ret1 rfl rfl ⟨by rw [k0], hb2.trans (hb3.mono hb2.size)⟩)
end Go.Proofs.YtfadgnopfjajbaaGreatDoor
namespace Go.Proofs.YtfadgnopfjajbaaGreatDoor
open Go.RowKit Go.Lib
/-- One listed variable: its reading, and where it lies. -/
def VarAt (P : Program) (w : World) (n : String) (d : DataW Unit) : Prop :=
  ∃ g t cs fuel p, P.globalNamed n = some g ∧ (P.globals[g]?).map (·.type) = some t ∧ w.var? P n = some cs ∧ DataW.trod (fun _ => ()) P w 0 (fun _ => true) false fuel t cs.toList = some (d, p) ∧
    (∀ b off, MemPlace.cell b off ∈ p → ∃ c t, w.heap[b]? = some (.cells c t (0, 0))) ∧ ∀ u v, cs.toList = [.iface u v] → Value.okWide P w .any 0 u v
theorem row_cell (a : Addr) (n i : Nat) (hi : i < n) : MemPlace.cell a.block (a.off + i) ∈ MemPlace.row a n := List.mem_map.2 ⟨i, List.mem_range.2 hi, rfl⟩
theorem laidVars_at {P : Program} {w : World} : ∀ {l : List (String × DataW Unit)} {ps : List MemPlace}, DataW.LaidVars P w l ps → (∀ b off, MemPlace.cell b off ∈ ps → (∃ c t, w.heap[b]? = some (.cells c t (0, 0))) ∧ ∀ u v, w.cell? ⟨b, off, none⟩ = some (.iface u v) → Value.okWide P w .any 0 u v) → ∀ n d, (n, d) ∈ l → VarAt P w n d
  | [], _, _, _, _, _, hm => by cases hm
  | (n', d') :: r, ps, h, hps, n, d, hm => by
    obtain ⟨g, t, cs, fuel, p, q, h1, h2, h3, h4, h5, rfl⟩ := h
    rcases List.mem_cons.1 hm with e | e
    · cases e
      refine ⟨g, t, cs, fuel, p, h1, h2, h3, h4, fun b off hb => (hps b off (by simp [hb])).1, fun u v hc => ?_⟩
      have hsz : cs.size = 1 := by have := congrArg List.length hc; simpa using this
      have hc0 := World.var?_cell h1 h3 0
      have hv : w.cell? ⟨g, 0, none⟩ = some (.iface u v) := by
        rw [hc0, ← Array.getElem?_toList, hc]; rfl
      exact (hps g 0 (by rw [hsz]; exact List.mem_append_left _ (List.mem_append_left _ (row_cell ⟨g, 0, none⟩ 1 0 (by decide))))).2 u v hv
    · exact laidVars_at h5 (fun b off hb => hps b off (by simp [hb])) n d e
theorem laidH_at {P : Program} {w : World} {l : List (String × DataW Unit)} (h : laidMetH P l w) {n : String} {d : DataW Unit} (hm : (n, d) ∈ l) (hd : d.handleName?.isNone = true) : VarAt P w n d := by
  obtain ⟨⟨ps, h1, _, h2⟩, _⟩ := laidMetH_iff.1 h
  exact laidVars_at h1 h2 n d (List.mem_filter.2 ⟨hm, hd⟩)
theorem VarAt.reads {P : Program} {w : World} {n : String} {d : DataW Unit} (h : VarAt P w n d) : Lib.VarReads P w n d := by
  obtain ⟨g, t, cs, fuel, p, h1, h2, h3, h4, _⟩ := h
  exact ⟨g, t, cs, fuel, p, h1, h2, h3, h4⟩
theorem star_err : "*" ++ "errors.errorString" = "*errors.errorString" := by decide
theorem row_err (u : TypeId) (h : Tryz.prog.typeName? 3 u = some "*errors.errorString") : u = 207 :=
  typeName_ptr_named (nm := "errors.errorString") (by rw [star_err]; kernel_rfl) (by kernel_rfl) (by decide) u (by rw [star_err]; exact h)
theorem cells_ErrStr : Tryz.prog.cellsOf 227 = 1 := by kernel_rfl
theorem cells_string : Tryz.prog.cellsOf 9 = 1 := by kernel_rfl
theorem block_lt {w : World} {a : Addr} {v : Value} (h : w.cell? a = some v) : a.block < w.heap.size := by
  unfold World.cell? at h
  cases hb : w.heap[a.block]? with
  | none => rw [hb] at h; split at h <;> simp_all
  | some o => exact (Array.getElem?_eq_some_iff.1 hb).1
set_option maxRecDepth 100000 in
/-- A listed error. -/
theorem sent_of {w : World} {n : String} {g : Nat} {txt : List UInt8} (h : VarAt Tryz.prog w n (.iface "*errors.errorString" (.ptr (.agg [.lit (.string txt)])))) (hg : Tryz.prog.globalNamed n = some g) (ht : (Tryz.prog.globals[g]?).map (·.type) = some 70) :
    ∃ a, Sent w.heap.size w g a txt := by
  obtain ⟨g', t, cs, fuel, p, h1, h2, h3, h4, h5, h6⟩ := h
  obtain rfl := Option.some.inj (hg.symm.trans h1)
  obtain rfl := Option.some.inj (ht.symm.trans h2)
  obtain ⟨a, s, hcs, hc, hs, _, rfl⟩ := errorString_of_trod Tryz.underlying70 row_err Tryz.underlying207 Tryz.underlying227 rfl rfl Tryz.underlying9 cells_ErrStr cells_string h4 h6
  obtain ⟨b, o, sp⟩ := a
  obtain rfl := cell_spot hc
  have hv : w.cell? ⟨g, 0, none⟩ = some (errVal (b, o)) := by
    rw [World.var?_cell h1 h3 0, ← Array.getElem?_toList, hcs]; rfl
  refine ⟨(b, o), hv, block_lt hv, h5 b o (row_cell ⟨b, o, none⟩ 1 0 (by decide)), ?_, block_lt hc⟩
  rw [hc]
  subst hs
  rfl
theorem et_named : Tryz.prog.globalNamed "errors.errorType" = some 6 := by kernel_rfl
theorem et_row : (Tryz.prog.cutTypes.find? (·.1 == "internal/reflectlite.rtype")).map (·.2) = some 173 := by kernel_rfl
theorem et_size : Tryz.prog.types.size = 242 := by kernel_rfl
theorem et_one : ((List.range 242).filter fun t => Tryz.prog.rowNamed t [101, 114, 114, 111, 114]) = [70] := by kernel_rfl
theorem ety_of {w : World} {l : List (String × DataW Unit)} (h : laidMetH Tryz.prog l w) (hm : ("errors.errorType", Rows.laid_errors_errorType) ∈ l) : ETy w.heap.size w := by
  obtain ⟨_, h2⟩ := laidMetH_iff.1 h
  have hx := h2 _ (List.mem_filter.2 ⟨hm, by rfl⟩)
  obtain ⟨name, u, ty, e1, e2, e3, e4, e5⟩ := hx
  have en : name = [101, 114, 114, 111, 114] := (Option.some.inj e1).symm
  subst en
  obtain rfl := Option.some.inj (et_row.symm.trans e2)
  have hm : ty ∈ (List.range 242).filter fun t => Tryz.prog.rowNamed t [101, 114, 114, 111, 114] := List.mem_filter.2 ⟨List.mem_range.2 (by rw [← et_size]; exact e3), e4⟩
  rw [et_one] at hm
  obtain rfl := List.mem_singleton.1 hm
  have hh : typeHandle Tryz.prog 70 = .pointer (some ⟨14, 70, none⟩) := by kernel_rfl
  rw [hh] at e5
  have hc : w.cell? ⟨6, 0, none⟩ = some (.iface 173 (rt 70)) := by simpa using World.var?_cell et_named e5 0
  exact ⟨hc, block_lt hc⟩
/-- The names of the tables' types. -/
def ren8 : Shelf.Ren := ⟨fun k => k, fun k => if k = 5 then 5 else if k = 119 then 200 else if k = 138 then 202 else 203, fun k => if k = 3 then 9 else 10⟩
theorem types8 : U8Types Tryz.prog ren8 := ⟨Tryz.underlying5, Tryz.underlying200, Tryz.underlying202, Tryz.underlying203⟩
theorem extra8 : U8Extra Tryz.prog ren8 := ⟨by kernel_rfl, by kernel_rfl, by kernel_rfl, by kernel_rfl, by kernel_rfl, by kernel_rfl, by kernel_rfl⟩
theorem first_eq : Rows.laid_unicode_utf8_first = Lib.firstData := by kernel_rfl
theorem accept_eq : Rows.laid_unicode_utf8_acceptRanges = Lib.acceptData := by kernel_rfl
theorem white_eq : Rows.laid_unicode_White_Space = Lib.whiteData := by kernel_rfl
/-- All that the rows list. -/
structure Lists (l : List (String × DataW Unit)) : Prop where
  eof : ("io.EOF", Rows.laid_io_EOF) ∈ l
  bare : ("encoding/csv.ErrBareQuote", Rows.laid_encoding_csv_ErrBareQuote) ∈ l
  quote : ("encoding/csv.ErrQuote", Rows.laid_encoding_csv_ErrQuote) ∈ l
  count : ("encoding/csv.ErrFieldCount", Rows.laid_encoding_csv_ErrFieldCount) ∈ l
  full : ("bufio.ErrBufferFull", Rows.laid_bufio_ErrBufferFull) ∈ l
  inval : ("encoding/csv.errInvalidDelim", Rows.laid_encoding_csv_errInvalidDelim) ∈ l
  ety : ("errors.errorType", Rows.laid_errors_errorType) ∈ l
  first : ("unicode/utf8.first", Rows.laid_unicode_utf8_first) ∈ l
  accept : ("unicode/utf8.acceptRanges", Rows.laid_unicode_utf8_acceptRanges) ∈ l
  white : ("unicode.White_Space", Rows.laid_unicode_White_Space) ∈ l
set_option maxRecDepth 100000 in
/-- From the list to the walks' world. -/
theorem laid_of {w : World} {l : List (String × DataW Unit)} (hl : Lists l) (h : laidMetH Tryz.prog l w) (hs : w.ShapedOpen Tryz.prog) : ∃ G m, Laid w G m := by
  obtain ⟨a1, s1⟩ := sent_of (laidH_at h hl.eof (by rfl)) (g := 0) (by kernel_rfl) (by kernel_rfl)
  obtain ⟨a2, s2⟩ := sent_of (laidH_at h hl.bare (by rfl)) (g := 1) (by kernel_rfl) (by kernel_rfl)
  obtain ⟨a3, s3⟩ := sent_of (laidH_at h hl.quote (by rfl)) (g := 2) (by kernel_rfl) (by kernel_rfl)
  obtain ⟨a4, s4⟩ := sent_of (laidH_at h hl.count (by rfl)) (g := 3) (by kernel_rfl) (by kernel_rfl)
  obtain ⟨a5, s5⟩ := sent_of (laidH_at h hl.full (by rfl)) (g := 7) (by kernel_rfl) (by kernel_rfl)
  obtain ⟨a6, s6⟩ := sent_of (laidH_at h hl.inval (by rfl)) (g := 5) (by kernel_rfl) (by kernel_rfl)
  obtain ⟨m, hm⟩ : ∃ m, w.cell? ⟨4, 0, none⟩ = some (.int .i64 m) := Tryz.laysMContains.s1_3 w hs
  have hf := (laidH_at h hl.first (by rfl)).reads
  have ha := (laidH_at h hl.accept (by rfl)).reads
  have hw := (laidH_at h hl.white (by rfl)).reads
  rw [first_eq] at hf
  rw [accept_eq] at ha
  rw [white_eq] at hw
  have h8 : Lib.Utf8Tabs 9 10 w := utf8Tabs_of_readsT types8 extra8 hf ha
  have hW : Lib.WhiteTab 8 w := whiteTab_of_reads Tryz.laysSpace ⟨by kernel_rfl, by kernel_rfl, by kernel_rfl, by kernel_rfl, by kernel_rfl, by kernel_rfl, by kernel_rfl, by kernel_rfl⟩ hw
  exact ⟨⟨a1, a2, a3, a4, a5, a6⟩, m, ⟨s1, s2, s3, s4, s5, s6, w, rfl, Below.refl _ _, h8, hW⟩, ety_of h hl.ety, hm, block_lt hm⟩
end Go.Proofs.YtfadgnopfjajbaaGreatDoor
namespace Go.Proofs.YtfadgnopfjajbaaGreatDoor
open Go.RowKit
noncomputable def dfBody : Code := (Tryz.f3.body).getD .skip
noncomputable def df0 : Code := part [false] dfBody
noncomputable def df1 : Code := part [true, false] dfBody
noncomputable def df2 : Code := part [true, true, false] dfBody
noncomputable def df3 : Code := part [true, true, true, false] dfBody
noncomputable def df4 : Code := part [true, true, true, true, false] dfBody
set_option maxRecDepth 100000 in
theorem df_eq : dfBody = Code.seq df0 (.seq df1 (.seq df2 (.seq df3 (.seq df4 .ret)))) := by kernel_rfl
abbrev dV : List Nat := [2, 3, 4, 7]
set_option maxRecDepth 100000 in
theorem df_p0 (w : World) (l : List (Nat × Value)) (f : Nat → Value) (s : ByteArray) (A : Option Addr) (n cp : Nat) (jn : Bool) (comma comment expect : Int) (lz tr re : Bool) (h0 : lk l f 0 = .agg #[.string s, .slice A n cp, .bool jn]) (h1 : lk l f 1 = .agg (optCells comma comment expect lz tr re).toArray) :
    df0.wp Tryz.prog (NPost fun a w' => ∃ l', a = Fr 23 l' f ∧ VKeeps dV [3, 4] l f l' ∧ lk l' f 3 = .pointer (some ⟨w.heap.size, 0, none⟩) ∧ lk l' f 4 = .pointer (some ⟨w.heap.size + 1, 0, none⟩) ∧ Below w.heap.size w w' ∧ Blk w' w.heap.size 24 [.string s, .slice A n cp, .bool jn] ∧ Blk w' (w.heap.size + 1) 26 (optCells comma comment expect lz tr re)) (Fr 23 l f) w := by
  dsimp only [df0, dfBody, part, part.sub2', sub1, sub2, Tryz.f3, Option.getD]
  dsimp only [optCells] at h1
  go_wp
  refine NPost.mk ⟨_, rfl, (by repeat first | exact VKeeps.refl _ _ _ _ | refine VKeeps.far (by decide) ?_ | refine VKeeps.set (by decide) ?_), by simp [lk], by simp [lk], ((Below.refl _ w).alloc (Nat.le_refl _) _).alloc (by simp) _, (Blk.new_arr w _ _).alloc _, ?_⟩
  have h := Blk.new_arr (w.alloc (.cells #[.string s, .slice A n cp, .bool jn] 24)) 26 (optCells comma comment expect lz tr re).toArray
  simpa [optCells] using h
set_option maxRecDepth 100000 in
theorem df_p1 (w : World) (l : List (Nat × Value)) (f : Nat → Value) (ob : Nat) (comma comment expect : Int) (lz tr re : Bool) (h4 : lk l f 4 = .pointer (some ⟨ob, 0, none⟩)) (hob : Blk w ob 26 (optCells comma comment expect lz tr re)) :
    df1.wp Tryz.prog (NPost fun a w' => ∃ l', a = Fr 23 l' f ∧ VKeeps dV [] l f l' ∧ Only (fun k => k = ob) w w' ∧ Blk w' ob 26 (optCells 0 comment expect lz tr re)) (Fr 23 l f) w := by
  dsimp only [df1, dfBody, part, part.sub2', sub1, sub2, Tryz.f3, Option.getD]
  have hc := hob.cell
  have hz := hob.frozen
  have H := Lib.hid hob
  dsimp only [optCells] at hc
  clear hob
  go_wp
  exact NPost.mk ⟨_, rfl, (by repeat first | exact VKeeps.refl _ _ _ _ | refine VKeeps.far (by decide) ?_ | refine VKeeps.set (by decide) ?_), (Only.refl (fun k => k = ob) w).setCell (p := ⟨ob, 0, none⟩) (fun _ => rfl) _, H.out.set 0 _⟩
set_option maxRecDepth 100000 in
theorem df_p3 (w : World) (l : List (Nat × Value)) (f : Nat → Value) (ob : Nat) (comma comment expect : Int) (lz tr re : Bool) (h4 : lk l f 4 = .pointer (some ⟨ob, 0, none⟩)) (hob : Blk w ob 26 (optCells comma comment expect lz tr re)) :
    df3.wp Tryz.prog (NPost fun a w' => ∃ l', a = Fr 23 l' f ∧ VKeeps dV [] l f l' ∧ Only (fun k => k = ob) w w' ∧ Blk w' ob 26 (optCells 44 comment expect lz tr re)) (Fr 23 l f) w := by
  dsimp only [df3, dfBody, part, part.sub2', sub1, sub2, Tryz.f3, Option.getD]
  have hc := hob.cell
  have hz := hob.frozen
  have H := Lib.hid hob
  dsimp only [optCells] at hc
  clear hob
  go_wp
  exact NPost.mk ⟨_, rfl, (by repeat first | exact VKeeps.refl _ _ _ _ | refine VKeeps.far (by decide) ?_ | refine VKeeps.set (by decide) ?_), (Only.refl (fun k => k = ob) w).setCell (p := ⟨ob, 0, none⟩) (fun _ => rfl) _, H.out.set 0 _⟩
set_option maxRecDepth 100000 in
theorem df_p2 (w : World) (l : List (Nat × Value)) (f : Nat → Value) (ib ob : Nat) (s : ByteArray) (A : Option Addr) (n cp : Nat) (jn : Bool) (comma comment expect : Int) (lz tr re : Bool) (A2 : Option Addr) (n2 c2 : Nat) (R : Value → World → Prop) (h2 : lk l f 2 = .slice A2 n2 c2) (h3 : lk l f 3 = .pointer (some ⟨ib, 0, none⟩)) (h4 : lk l f 4 = .pointer (some ⟨ob, 0, none⟩)) (hib : Blk w ib 24 [.string s, .slice A n cp, .bool jn]) (hob : Blk w ob 26 (optCells comma comment expect lz tr re))
    (hR : Calls Tryz.prog 6 #[.agg #[.string s, .slice A n cp, .bool jn], .agg #[.int .i32 comma, .int .i32 comment, .int .i64 expect, .bool lz, .bool tr, .bool re], .slice A2 n2 c2] w fun e w' => ∃ av, e = .returned av ∧ R av w') :
    df2.wp Tryz.prog (NPost fun a w' => ∃ l' av, a = Fr 23 ((7, av) :: l') f ∧ VKeeps dV [] l f l' ∧ R av w') (Fr 23 l f) w := by
  dsimp only [df2, dfBody, part, part.sub2', sub1, sub2, Tryz.f3, Option.getD]
  have ci := hib.cell
  have co := hob.cell
  dsimp only [optCells] at co
  have HR := Lib.hid hR
  clear hib hob hR
  go_wp
  refine HR.out.mono ?_
  rintro e w1 ⟨av, rfl, hr⟩
  have H := Lib.hid hr
  clear hr HR ci co
  dsimp only
  go_wp
  exact NPost.mk ⟨_, av, rfl, (by repeat first | exact VKeeps.refl _ _ _ _ | refine VKeeps.far (by decide) ?_ | refine VKeeps.set (by decide) ?_), H.out⟩
set_option maxRecDepth 100000 in
theorem df_p4 (w : World) (l : List (Nat × Value)) (f : Nat → Value) (ib ob : Nat) (s : ByteArray) (A : Option Addr) (n cp : Nat) (jn : Bool) (comma comment expect : Int) (lz tr re : Bool) (A2 A7 : Option Addr) (n2 c2 n7 c7 : Nat) (R : Value → World → Prop) (h2 : lk l f 2 = .slice A2 n2 c2) (h7 : lk l f 7 = .slice A7 n7 c7) (h3 : lk l f 3 = .pointer (some ⟨ib, 0, none⟩)) (h4 : lk l f 4 = .pointer (some ⟨ob, 0, none⟩)) (hib : Blk w ib 24 [.string s, .slice A n cp, .bool jn]) (hob : Blk w ob 26 (optCells comma comment expect lz tr re))
    (hawake : Calls Tryz.prog 7 #[] w fun e w' => e = .returned (.bool true) ∧ Below w.heap.size w w')
    (hR : ∀ w1, Below w.heap.size w w1 → Calls Tryz.prog 6 #[.agg #[.string s, .slice A n cp, .bool jn], .agg #[.int .i32 comma, .int .i32 comment, .int .i64 expect, .bool lz, .bool tr, .bool re], .slice A2 n2 c2] w1 fun e w' => ∃ A9 n9 c9, e = .returned (.slice A9 n9 c9) ∧ R (.slice A9 n9 c9) w')
    (hS : ∀ A9 n9 c9 w1, R (.slice A9 n9 c9) w1 → Calls Tryz.prog 8 #[.slice A7 n7 c7, .slice A9 n9 c9, .bool true] w1 fun e w' => e = .returned (.bool true) ∧ Below w.heap.size w w') :
    df4.wp Tryz.prog (NPost fun a w' => ∃ l', a = Fr 23 l' f ∧ lk l' f 6 = .bool true ∧ Below w.heap.size w w') (Fr 23 l f) w := by
  dsimp only [df4, dfBody, part, part.sub2', sub1, sub2, Tryz.f3, Option.getD]
  have HI := Lib.hid hib
  have HO := Lib.hid hob
  have HA := Lib.hid hawake
  have HR := Lib.hid hR
  have HS := Lib.hid hS
  clear hib hob hR hS hawake
  go_wp
  refine HA.out.mono ?_
  rintro e w1 ⟨rfl, hb1⟩
  have ci := (HI.out.below hb1 HI.out.lt).cell
  have co := (HO.out.below hb1 HO.out.lt).cell
  dsimp only [optCells] at co
  have H1 := Lib.hid (HR.out w1 hb1)
  clear hb1 HA HR HI HO
  dsimp only
  go_wp
  refine H1.out.mono ?_
  rintro e w2 ⟨A9, n9, c9, rfl, hr⟩
  have H2 := Lib.hid (HS.out _ _ _ w2 hr)
  clear hr HS H1 ci co
  dsimp only
  go_wp
  refine H2.out.mono ?_
  rintro e w3 ⟨rfl, hb3⟩
  have H3 := Lib.hid hb3
  clear hb3 H2
  dsimp only
  go_wp
  exact NPost.mk ⟨_, rfl, by simp [lk], H3.out⟩
theorem AnsRow.only {B ob : Nat} {w w' : World} {av : Value} {xs : List Csv.Ans} (h : AnsRow B w av xs) (hO : Only (fun k => k = ob) w w') (hob : ob < B) : AnsRow B w' av xs := by
  obtain ⟨css, t1, t2, t3⟩ := h
  refine ⟨css, ownsRow_only t1 hO (fun k hk e => by have := (own_lt t1 hk).1; omega), t2, fun j cs a e1 e2 => ?_⟩
  obtain ⟨rv, lv, sv, vs, hcs, r1, r2, r3, r4, r5, r6, r7⟩ := (t3 j cs a e1 e2).form
  refine ⟨rv, lv, sv, vs, hcs, r1.only hO (fun k hk e => by have := (own_lt r1 hk).1; omega), r2, r3.only hO (fun k hk e => by have := (own_lt r3 hk).1; omega), r4, r5.only hO (fun k hk e => by have := (own_lt r5.row hk).1; omega) (fun u hu k hk e => ?_), r6, r7⟩
  obtain ⟨fs, hs⟩ := r5.mem hu
  have := (own_lt hs hk).1; omega
theorem ScriptIn.keep {w w' : World} {script : List Csv.Cal} {sv : Value} (h : ScriptIn w script sv) (hb : Below w.heap.size w w') : ScriptIn w' script sv := by
  obtain ⟨A, cp, e, hx⟩ := h
  refine ⟨A, cp, e, fun hp => ?_⟩
  obtain ⟨sb, so, e1, e2, e3⟩ := hx hp
  exact ⟨sb, so, e1, Nat.lt_of_lt_of_le e2 hb.size, fun i cal hi => ⟨(hb.cell (p := ⟨sb, so + i * 2, none⟩) e2).trans (e3 i cal hi).1, (hb.cell (p := ⟨sb, so + i * 2 + 1, none⟩) e2).trans (e3 i cal hi).2⟩⟩
theorem IntsBelow.up {B B' : Nat} {w : World} {v : Value} {l : List Int} (h : IntsBelow B w v l) (hB : B ≤ B') : IntsBelow B' w v l := by
  obtain ⟨A, c, hv, hl, hc, hx⟩ := h
  refine ⟨A, c, hv, hl, hc, fun hne => ?_⟩
  obtain ⟨b, o, hA, hlt, hcell⟩ := hx hne
  exact ⟨b, o, hA, Nat.lt_of_lt_of_le hlt hB, hcell⟩
/-- FnDefaults holds. -/
theorem FnDefaults_any (G : Glob) (w : World) (m : Int) (hL : Laid w G m) (data : List UInt8) (sz : Value) (zs : List Int) (jn : Bool) (comma comment expect : Int) (lz tr re : Bool) (sv : Value) (script : List Csv.Cal) (hsz : IntsBelow w.heap.size w sz zs) (hsv : ScriptIn w script sv) (hsmall : 2 * data.length + script.length < 268435450) :
    Calls Tryz.prog 3 [.agg #[.string ⟨data.toArray⟩, sz, .bool jn], .agg (optCells comma comment expect lz tr re).toArray, sv].toArray w fun e w' => e = .returned (.bool true) ∧ Below w.heap.size w w' := by
  have hsz' := hsz
  have hsv' := hsv
  obtain ⟨A, cp, hszf, _⟩ := hsz'
  obtain ⟨A2, c2, hsvf, _⟩ := hsv'
  have hscan : ∀ (w1 : World) (c1 : Int), (c1 = 0 ∨ c1 = 44) → Below w.heap.size w w1 → Calls Tryz.prog 6 [.agg #[.string ⟨data.toArray⟩, sz, .bool jn], .agg (optCells c1 comment expect lz tr re).toArray, sv].toArray w1 fun e w' => ∃ av, e = .returned av ∧ Below w1.heap.size w1 w' ∧ AnsRow w1.heap.size w' av (Csv.scan data (optOf 44 comment lz tr) expect re script) := by
    intro w1 c1 hc hb
    have hL1 := hL.next hb
    have e : optOf c1 comment lz tr = optOf 44 comment lz tr := by rcases hc with rfl | rfl <;> rfl
    have := Scan_any G w1 data sz zs jn c1 comment expect lz tr re sv script m hL1.glob hL1.ety ((hsz.keep hb).up hb.size) (hsv.keep hb) hL1.max hL1.maxB hsmall (Tames.ascii (by rw [e]; exact ⟨(by decide : (0 : Int) ≤ 44), (by decide : (44 : Int) < 128)⟩) _)
    rw [e] at this
    exact this
  rw [hszf, hsvf] at hscan ⊢
  refine enter 23 Tryz.func3 rfl rfl (by simp) ?_
  show dfBody.wp _ _ _ _
  rw [df_eq]
  refine seq_part (df_p0 w _ _ _ A _ cp jn comma comment expect lz tr re rfl rfl) ?_
  rintro x w1 ⟨l1, rfl, K1, k3, k4, hb1, hib, hob⟩
  refine seq_part (df_p1 w1 l1 _ _ comma comment expect lz tr re k4 hob) ?_
  rintro x w2 ⟨l2, rfl, K2, hO2, hob2⟩
  have hb2 : Below w.heap.size w w2 := hb1.trans (hO2.below hb1.size (fun k e => by omega))
  have hib2 := hib.only hO2 (by omega)
  refine seq_part (df_p2 w2 l2 _ _ _ _ A _ cp jn 0 comment expect lz tr re A2 _ c2 _ ?_ ((K2 3 rfl rfl).trans k3) ((K2 4 rfl rfl).trans k4) hib2 hob2 (hscan w2 0 (.inl rfl) hb2)) ?_
  · rw [K2 2 rfl rfl, K1 2 rfl rfl]; rfl
  rintro x w3 ⟨l3, av, rfl, K3, hb3, hrow3⟩
  have f3 : lk ((7, av) :: l3) (fun _ => undef) 3 = .pointer (some ⟨w.heap.size, 0, none⟩) := by rw [lk_ne _ _ _ _ _ rfl, K3 3 rfl rfl, K2 3 rfl rfl, k3]
  have f4 : lk ((7, av) :: l3) (fun _ => undef) 4 = .pointer (some ⟨w.heap.size + 1, 0, none⟩) := by rw [lk_ne _ _ _ _ _ rfl, K3 4 rfl rfl, K2 4 rfl rfl, k4]
  have f2 : lk ((7, av) :: l3) (fun _ => undef) 2 = .slice A2 script.length c2 := by rw [lk_ne _ _ _ _ _ rfl, K3 2 rfl rfl, K2 2 rfl rfl, K1 2 rfl rfl]; rfl
  have f7 : lk ((7, av) :: l3) (fun _ => undef) 7 = av := by simp [lk]
  have hib3 := hib2.below hb3 hib2.lt
  have hob3 := hob2.below hb3 hob2.lt
  have hb3' : Below w.heap.size w w3 := hb2.trans (hb3.mono hb2.size)
  revert f2 f3 f4 f7
  generalize (7, av) :: l3 = l3'
  intro f3 f4 f2 f7
  refine seq_part (df_p3 w3 l3' _ _ 0 comment expect lz tr re f4 hob3) ?_
  rintro x w4 ⟨l4, rfl, K4, hO4, hob4⟩
  have hib4 := hib3.only hO4 (by omega)
  have hrow4 := hrow3.only hO4 hob2.lt
  have hb4 : Below w.heap.size w w4 := hb3'.trans (hO4.below hb3'.size (fun k e => by omega))
  obtain ⟨A7, c7, hv7, _⟩ := hrow4.form
  refine seq_part (df_p4 w4 l4 _ _ _ _ A _ cp jn 44 comment expect lz tr re A2 A7 _ c2 _ c7 (fun v w' => Below w4.heap.size w4 w' ∧ AnsRow w4.heap.size w' v (Csv.scan data (optOf 44 comment lz tr) expect re script)) ((K4 2 rfl rfl).trans f2) (by rw [K4 7 rfl rfl, f7, hv7]) ((K4 3 rfl rfl).trans f3) ((K4 4 rfl rfl).trans f4) hib4 hob4 (awake_any G w4 m (hL.next hb4)) ?_ ?_) ?_
  · intro w5 hb5
    refine (hscan w5 44 (.inr rfl) (hb4.trans (hb5.mono hb4.size))).mono ?_
    rintro e w6 ⟨av6, he, hb6, hrow6⟩
    obtain ⟨A9, c9, hv9, _⟩ := hrow6.form
    exact ⟨A9, _, c9, by rw [he, hv9], hb5.trans (hb6.mono hb5.size), by rw [← hv9]; exact hrow6.mono hb5.size⟩
  · rintro A9 n9 c9 w5 ⟨hb5, hrow5⟩
    rw [← hv7]
    refine (same_any w5 av _ _ (hrow4.lt hb5) hrow5).mono ?_
    rintro e w6 ⟨he, hb6⟩
    exact ⟨he, hb5.trans (hb6.mono hb5.size)⟩
  rintro x w5 ⟨l5, rfl, k6, hb5⟩
  exact wp_ret (ret1 rfl rfl ⟨by rw [k6], hb4.trans (hb5.mono hb4.size)⟩)
end Go.Proofs.YtfadgnopfjajbaaGreatDoor
namespace Go.Proofs.YtfadgnopfjajbaaGreatDoor
open Go.ChangeShapes Go.WideShapes Go.ChangeAt Go.RowKit
set_option maxRecDepth 100000
section
variable {H : Type} {enc : TypeId × Value → H} {W : World}
theorem bulk_one {H : Type} (d : DataW H) : 1 ≤ Rows.uptoBulk d := by
  cases d with
  | lit l => cases l <;> simp [Rows.uptoBulk]
  | nil => simp [Rows.uptoBulk]
  | ptr d => simp [Rows.uptoBulk]
  | slice elems spare => simp [Rows.uptoBulk]
  | agg parts => simp [Rows.uptoBulk]
  | iface t d => simp [Rows.uptoBulk]
  | map entries => simp [Rows.uptoBulk]
  | held h => simp [Rows.uptoBulk]
theorem bulk_len {H : Type} (l : List (DataW H)) : l.length ≤ Rows.uptoBulkAll l := by
  induction l with
  | nil => simp [Rows.uptoBulkAll]
  | cons x r ih => have := bulk_one x; simp only [Rows.uptoBulkAll, List.length_cons]; omega
theorem okWide_agg {P : Program} {w : World} {r : Go.Reach} {base : Nat} {t : TypeId} {fs : Array Field} {v : Value} (ht : P.underlying t = some (.struct fs)) (h : Value.okWide P w r base t v) : ∃ cs, v = .agg cs := by
  unfold Value.okWide at h
  rw [ht] at h
  obtain ⟨cs, h, _⟩ := h
  exact ⟨cs, h⟩
theorem cells_int : Tryz.prog.cellsOf 3 = 1 := by kernel_rfl
theorem cells_bool : Tryz.prog.cellsOf 4 = 1 := by kernel_rfl
theorem cells_i32 : Tryz.prog.cellsOf 21 = 1 := by kernel_rfl
theorem cells_ints : Tryz.prog.cellsOf 22 = 1 := by kernel_rfl
theorem cells_Input : Tryz.prog.cellsOf 24 = 3 := by kernel_rfl
theorem cells_Options : Tryz.prog.cellsOf 26 = 6 := by kernel_rfl
theorem cells_Call : Tryz.prog.cellsOf 68 = 2 := by kernel_rfl
/-- A slice of ints that came in. -/
theorem open_ints_in {fuel : Nat} {v : Value} {x : DataW H × List MemPlace} (h : DataW.trod enc Tryz.prog W 0 (fun _ => true) true fuel 22 [v] = some x) : ∃ zs, IntsBelow W.heap.size W v zs := by
  rcases open_ints Tryz.underlying22 Tryz.underlying3 cells_int h with ⟨hcs, _⟩ | ⟨a, len, cap, zs, hcs, _, hl, hm, hz, _, hcell, _⟩
  · simp at hcs
    subst hcs
    exact ⟨[], none, 0, rfl, Nat.le_refl _, by decide, fun h => absurd rfl h⟩
  · simp at hcs
    subst hcs
    simp only [if_true] at hz
    have hlen : (zs.take len).length = len := by rw [List.length_take]; omega
    refine ⟨zs.take len, some a, cap, by rw [hlen], by omega, by unfold maxLen at hm; omega, fun hne => ?_⟩
    have hpos : 0 < len := by
      rcases Nat.eq_zero_or_pos len with h0 | h0
      · subst h0; exact absurd (by simp) hne
      · exact h0
    obtain ⟨b, off, spot⟩ := a
    have h0 := hcell 0 (by omega)
    have hspot : spot = none := by simpa [Addr.add] using World.cell?_spot h0
    subst hspot
    refine ⟨b, off, rfl, by have := block_lt h0; simpa [Addr.add] using this, fun j u hj => ?_⟩
    have hjl : j < len := by have := (List.getElem?_eq_some_iff.1 hj).1; omega
    have hc := hcell j (by omega)
    rw [List.getElem?_take_of_lt hjl] at hj
    rw [Addr.add_mk] at hc
    rw [hc]
    simp [List.getD, hj]
/-- An Input that came in. -/
theorem open_Input {r : Go.Reach} {base : Nat} {v : Value} {d : DataW H} {ps : List MemPlace} (hv : Value.okWide Tryz.prog W r base 24 v) (h : DataW.Trod enc Tryz.prog W 0 (fun _ => true) true 24 v d ps) :
    ∃ (data : List UInt8) (sz : Value) (zs : List Int) (jn : Bool), v = .agg #[.string ⟨data.toArray⟩, sz, .bool jn] ∧ IntsBelow W.heap.size W sz zs ∧ data.length ≤ Rows.uptoBulk d := by
  obtain ⟨cs, rfl⟩ := okWide_agg Tryz.underlying24 hv
  obtain ⟨fuel, hf⟩ := h
  have hcells : (Value.agg cs).cells = cs := rfl
  rw [hcells] at hf
  obtain ⟨xs, n, _, hx, hl, hxl, hall⟩ := DataW.trod_struct Tryz.underlying24 hf
  rw [cells_Input] at hl
  obtain ⟨l⟩ := cs
  match l, hl, xs, hxl with
  | [c0, c1, c2], _, [x0, x1, x2], _ =>
    have f0 := hall 0 _ rfl
    have f1 := hall 1 _ rfl
    have f2 := hall 2 _ rfl
    change DataW.trod _ _ _ _ _ _ _ 9 (List.take (Tryz.prog.cellsOf 9) [c0, c1, c2]) = some x0 at f0
    change DataW.trod _ _ _ _ _ _ _ 22 (List.take (Tryz.prog.cellsOf 22) [c1, c2]) = some x1 at f1
    change DataW.trod _ _ _ _ _ _ _ 4 (List.take (Tryz.prog.cellsOf 4) [c2]) = some x2 at f2
    rw [cells_string] at f0
    rw [cells_ints] at f1
    rw [cells_bool] at f2
    obtain ⟨s, e0, rfl, _⟩ := DataW.trod_string Tryz.underlying9 f0
    obtain ⟨zs, hz⟩ := open_ints_in f1
    obtain ⟨b, e2, rfl⟩ := DataW.trod_bool Tryz.underlying4 f2
    simp only [List.take_succ_cons, List.take_zero, List.cons.injEq, and_true] at e0 e2
    subst e0 e2
    simp only [Prod.mk.injEq] at hx
    obtain ⟨rfl, _⟩ := hx
    refine ⟨s.data.toList, c1, zs, b, rfl, hz, ?_⟩
    simp only [List.map_cons, List.map_nil, Rows.uptoBulk, Rows.uptoBulkAll]
    omega
/-- Options that came in. -/
theorem open_Options {r : Go.Reach} {base : Nat} {v : Value} {d : DataW H} {ps : List MemPlace} (hv : Value.okWide Tryz.prog W r base 26 v) (h : DataW.Trod enc Tryz.prog W 0 (fun _ => true) true 26 v d ps) :
    ∃ (comma comment expect : Int) (lz tr re : Bool), v = .agg (optCells comma comment expect lz tr re).toArray ∧ (Lit.int .i32 comma).wf = true ∧ (Lit.int .i32 comment).wf = true := by
  obtain ⟨cs, rfl⟩ := okWide_agg Tryz.underlying26 hv
  obtain ⟨fuel, hf⟩ := h
  have hcells : (Value.agg cs).cells = cs := rfl
  rw [hcells] at hf
  obtain ⟨xs, n, _, hx, hl, hxl, hall⟩ := DataW.trod_struct Tryz.underlying26 hf
  rw [cells_Options] at hl
  obtain ⟨l⟩ := cs
  match l, hl, xs, hxl with
  | [c0, c1, c2, c3, c4, c5], _, [x0, x1, x2, x3, x4, x5], _ =>
    have f0 := hall 0 _ rfl
    have f1 := hall 1 _ rfl
    have f2 := hall 2 _ rfl
    have f3 := hall 3 _ rfl
    have f4 := hall 4 _ rfl
    have f5 := hall 5 _ rfl
    change DataW.trod _ _ _ _ _ _ _ 21 (List.take (Tryz.prog.cellsOf 21) [c0, c1, c2, c3, c4, c5]) = some x0 at f0
    change DataW.trod _ _ _ _ _ _ _ 21 (List.take (Tryz.prog.cellsOf 21) [c1, c2, c3, c4, c5]) = some x1 at f1
    change DataW.trod _ _ _ _ _ _ _ 3 (List.take (Tryz.prog.cellsOf 3) [c2, c3, c4, c5]) = some x2 at f2
    change DataW.trod _ _ _ _ _ _ _ 4 (List.take (Tryz.prog.cellsOf 4) [c3, c4, c5]) = some x3 at f3
    change DataW.trod _ _ _ _ _ _ _ 4 (List.take (Tryz.prog.cellsOf 4) [c4, c5]) = some x4 at f4
    change DataW.trod _ _ _ _ _ _ _ 4 (List.take (Tryz.prog.cellsOf 4) [c5]) = some x5 at f5
    rw [cells_i32] at f0 f1
    rw [cells_int] at f2
    rw [cells_bool] at f3 f4 f5
    obtain ⟨n0, e0, rfl, w0⟩ := DataW.trod_int Tryz.underlying21 f0
    obtain ⟨n1, e1, rfl, w1⟩ := DataW.trod_int Tryz.underlying21 f1
    obtain ⟨n2, e2, rfl, _⟩ := DataW.trod_int Tryz.underlying3 f2
    obtain ⟨b3, e3, rfl⟩ := DataW.trod_bool Tryz.underlying4 f3
    obtain ⟨b4, e4, rfl⟩ := DataW.trod_bool Tryz.underlying4 f4
    obtain ⟨b5, e5, rfl⟩ := DataW.trod_bool Tryz.underlying4 f5
    simp only [List.take_succ_cons, List.take_zero, List.cons.injEq, and_true] at e0 e1 e2 e3 e4 e5
    subst e0 e1 e2 e3 e4 e5
    exact ⟨n0, n1, n2, b3, b4, b5, rfl, w0, w1⟩
def numV : Value → Int
  | .int _ n => n
  | _ => 0
/-- A script that came in. -/
theorem open_Calls {r : Go.Reach} {base : Nat} {v : Value} {d : DataW H} {ps : List MemPlace} (hv : Value.okWide Tryz.prog W r base 27 v) (h : DataW.Trod enc Tryz.prog W 0 (fun _ => true) true 27 v d ps) :
    ∃ script, ScriptIn W script v ∧ script.length ≤ Rows.uptoBulk d := by
  obtain ⟨a0, len0, cap0, rfl⟩ := okWide_slice Tryz.underlying27 hv
  obtain ⟨fuel, hf⟩ := h
  have hcells : (Value.slice a0 len0 cap0).cells.toList = [Value.slice a0 len0 cap0] := rfl
  rw [hcells] at hf
  rcases Deep.open_slice_pairs Tryz.underlying27 Tryz.underlying68 cells_Call rfl rfl cells_int cells_int hf with ⟨hcs, hx⟩ | ⟨a, len, cap, m, n, V0, V1, D0, D1, P0, P1, hcs, _, hl, hm, hmm, hx, hcell⟩
  · simp at hcs
    obtain ⟨rfl, rfl, rfl⟩ := hcs
    exact ⟨[], ⟨none, 0, rfl, fun h => absurd h (by decide)⟩, Nat.zero_le _⟩
  · simp at hcs
    obtain ⟨rfl, rfl, rfl⟩ := hcs
    simp only [if_true] at hmm
    simp only [Prod.mk.injEq] at hx
    obtain ⟨rfl, _⟩ := hx
    refine ⟨(List.range len0).map fun i => ⟨numV (V0 i), numV (V1 i)⟩, ⟨some a, cap0, by simp, fun hpos => ?_⟩, ?_⟩
    · rw [List.length_map, List.length_range] at hpos
      obtain ⟨b, off, spot⟩ := a
      have h0 := (hcell 0 (by omega)).1
      have hspot : spot = none := by simpa [Addr.add] using World.cell?_spot h0
      subst hspot
      refine ⟨b, off, rfl, by have := block_lt h0; simpa [Addr.add] using this, fun i cal hi => ?_⟩
      have hil : i < len0 := by have := (List.getElem?_eq_some_iff.1 hi).1; simpa using this
      rw [List.getElem?_map, List.getElem?_range hil] at hi
      simp only [Option.map_some, Option.some.injEq] at hi
      subst hi
      obtain ⟨k0, k1, k2, k3⟩ := hcell i (by omega)
      obtain ⟨z0, ez0, _⟩ := DataW.trod_int Tryz.underlying3 k2
      obtain ⟨z1, ez1, _⟩ := DataW.trod_int Tryz.underlying3 k3
      simp only [List.cons.injEq, and_true] at ez0 ez1
      rw [Addr.add_mk] at k0 k1
      rw [ez0] at k0
      rw [ez1] at k1
      refine ⟨?_, ?_⟩
      · rw [k0, ez0]; rfl
      · rw [Nat.add_assoc, k1, ez1]; rfl
    · rw [List.length_map, List.length_range]
      have := bulk_len (((List.range len0).map fun i => DataW.agg [D0 i, D1 i]) : List (DataW H))
      rw [List.length_map, List.length_range] at this
      simp only [Rows.uptoBulk]
      omega
end
end Go.Proofs.YtfadgnopfjajbaaGreatDoor
namespace Go.Proofs.YtfadgnopfjajbaaGreatDoor
open Go.ChangeShapes Go.WideShapes Go.ChangeAt Go.RowKit
theorem own : ownKnob Tryz.prog.godebug = none := by kernel_rfl
theorem laidOut : laidOutB Tryz.prog = true := by kernel_rfl
noncomputable def low : Nat := (World.holding Tryz.prog default ⟨#[], #[], []⟩).heap.size
def txtNoProgress : List UInt8 := [109, 117, 108, 116, 105, 112, 108, 101, 32, 82, 101, 97, 100, 32, 99, 97, 108, 108, 115, 32, 114, 101, 116, 117, 114, 110, 32, 110, 111, 32, 100, 97, 116, 97, 32, 111, 114, 32, 101, 114, 114, 111, 114]
def txtNegative : List UInt8 := [98, 117, 102, 105, 111, 58, 32, 114, 101, 97, 100, 101, 114, 32, 114, 101, 116, 117, 114, 110, 101, 100, 32, 110, 101, 103, 97, 116, 105, 118, 101, 32, 99, 111, 117, 110, 116, 32, 102, 114, 111, 109, 32, 82, 101, 97, 100]
def errBlk (txt : List UInt8) : Obj := .cells #[.string ⟨txt.toArray⟩] 227
/-- What the variables' blocks hold in that world. -/
noncomputable def laidCells : List (Nat × Array Value) :=
  [(0, #[errVal (low, 0)]), (1, #[errVal (low + 1, 0)]), (2, #[errVal (low + 2, 0)]), (3, #[errVal (low + 3, 0)]), (5, #[errVal (low + 4, 0)]), (7, #[errVal (low + 5, 0)]), (12, #[errVal (low + 6, 0)]), (11, #[errVal (low + 7, 0)]),
   (6, #[.iface 173 (rt 70)]), (8, #[.pointer (some ⟨low + 8, 0, none⟩)]), (9, (Lib.firstTab.map fun z => Value.int .u8 z).toArray), (10, ((List.range 16).flatMap fun i => [Value.int .u8 (Lib.accLo i), .int .u8 (Lib.accHi i)]).toArray)]
noncomputable def laidWorld (os : Os) : World :=
  let w0 := World.holding Tryz.prog os ⟨#[errBlk txtEOF, errBlk txtBare, errBlk txtQuote, errBlk txtCount, errBlk txtInval, errBlk txtFull, errBlk txtNoProgress, errBlk txtNegative,
    .cells #[.slice (some ⟨low + 9, 0, none⟩) 7 7, .slice none 0 0, .int .i64 2] 192, .cells (((List.range 21).map fun i => Value.int .u16 (Lib.whiteT.getD i 0)).toArray) 195], #[], []⟩
  { w0 with heap := laidCells.foldl (fun h p => h.modify p.1 fun
      | .cells _ t frozen => .cells p.2 t frozen
      | o => o) w0.heap }
theorem lists_def : Lists Rows.fnDefaultsUptoRow.laid :=
  ⟨List.mem_of_getElem? (i := 2) rfl, List.mem_of_getElem? (i := 7) rfl, List.mem_of_getElem? (i := 8) rfl, List.mem_of_getElem? (i := 9) rfl, List.mem_of_getElem? (i := 5) rfl, List.mem_of_getElem? (i := 10) rfl, List.mem_of_getElem? (i := 1) rfl, List.mem_of_getElem? (i := 11) rfl, List.mem_of_getElem? (i := 0) rfl, List.mem_of_getElem? (i := 4) rfl⟩
namespace fnDefaults
noncomputable def wArgs : Array Value := #[.agg #[.string ⟨#[]⟩, .slice none 0 0, .bool false], .agg #[.int .i32 0, .int .i32 0, .int .i64 0, .bool false, .bool false, .bool false], .slice none 0 0]
theorem laid_met (os : Os) : laidMetH Tryz.prog Rows.fnDefaultsUptoRow.laid ((laidWorld os).forCall (fun _ _ => 0) ⟨#[], wArgs, []⟩).memory :=
  laidMetH_of_parts (laidMet_of_run' 8 (by kernel_rfl) (by kernel_rfl)) (by kernel_rfl)
theorem reads (os : Os) {H : Type} (enc : TypeId × Value → H) : ∃ places, DataW.whole enc Tryz.prog ((laidWorld os).forCall (fun _ _ => 0) ⟨#[], wArgs, []⟩).memory Tryz.f3.params.toList Rows.fnDefaultsSpec.vars false wArgs.toList 8 =
    some ([.agg [.lit (.string []), .nil, .lit (.bool false)], .agg [.lit (.int .i32 0), .lit (.int .i32 0), .lit (.int .i64 0), .lit (.bool false), .lit (.bool false), .lit (.bool false)], .nil], [], places) :=
  ⟨[], by kernel_rfl⟩
set_option maxRecDepth 100000 in
theorem contract (H : Type) (enc : TypeId × Value → H) (F : Stop.Interp) (W : World) (base : Nat) (args : Array Value) (ds gs : List (DataW H)) (before : List MemPlace)
    (hval : ∀ (j : Nat) t v, Tryz.f3.params[j]? = some t → args[j]? = some v → Value.okWide Tryz.prog W .any base t v)
    (hW : DataW.Whole enc Tryz.prog Tryz.f3.params.toList Rows.fnDefaultsSpec.vars false W args.toList ds gs before) (hk : Rows.uptoSmall H (ds ++ gs) = true) (hL : laidMetH Tryz.prog Rows.fnDefaultsUptoRow.laid W) (hsh : W.ShapedOpen Tryz.prog) :
    Calls Tryz.prog 3 args W fun e W' => ∃ v, e = .returned v ∧ ((Rows.OpenSpec.upto Rows.fnDefaultsSpec).at F).post enc Tryz.prog Tryz.f3 false true false false W args v W' := by
  have hW' := hW
  obtain ⟨p, q, hA0, hV0, rfl, _, _⟩ := hW
  have hA : DataW.TrodAll enc Tryz.prog W 0 (fun _ => true) true Tryz.f3.params.toList args.toList ds p := hA0
  rw [Tryz.params3] at hA hval
  obtain ⟨v0, v1, v2, d0, d1, d2, p0, p1, p2, rfl, rfl, rfl, h0, h1, h2⟩ := trodAll_three hA
  obtain ⟨rfl, rfl⟩ := trodVars_none hV0
  clear hA0 hV0 hA
  simp only [List.append_nil] at hW' hk
  have hb : Rows.uptoBulkAll [d0, d1, d2] ≤ 1048576 := of_decide_eq_true hk
  simp only [Rows.uptoBulkAll] at hb
  have hlt : ∀ x ∈ p0 ++ p1 ++ p2, x.block < W.heap.size := fun x hx => hW'.lt x hx
  obtain ⟨data, sz, zs, jn, rfl, hsz, b0⟩ := open_Input (hval 0 24 v0 rfl rfl) h0
  obtain ⟨comma, comment, expect, lz, tr, re, rfl, _, _⟩ := open_Options (hval 1 26 v1 rfl rfl) h1
  obtain ⟨script, hsc, b2⟩ := open_Calls (hval 2 27 v2 rfl rfl) h2
  obtain ⟨G, m, hLaid⟩ := laid_of lists_def hL hsh
  refine (FnDefaults_any G W m hLaid data sz zs jn comma comment expect lz tr re v2 script hsz hsc (by omega)).mono ?_
  rintro e W' ⟨rfl, bel⟩
  have e1 : ((Rows.OpenSpec.upto Rows.fnDefaultsSpec).at F).fn H ([d0, d1, d2] ++ []) = { results := [.lit (.bool true)], args := [d0, d1, d2] } := rfl
  refine ⟨_, rfl, _, _, _, [], p0 ++ (p1 ++ p2), [], hW', ?_, ?_, ?_, bel.frame _, fun h => by cases h⟩
  · rw [e1]; exact trodAll_mk1 (shut_bool Tryz.underlying4 true)
  · rw [e1]
    exact trodAll_mk3 (Below.trod laidOut (by kernel_rfl) (of_decide_eq_true (by kernel_rfl)) h0 bel (fun x hx => hlt x (by simp [hx]))) (Below.trod laidOut (by kernel_rfl) (of_decide_eq_true (by kernel_rfl)) h1 bel (fun x hx => hlt x (by simp [hx]))) (Below.trod laidOut (by kernel_rfl) (of_decide_eq_true (by kernel_rfl)) h2 bel (fun x hx => hlt x (by simp [hx])))
  · rw [e1]; rfl
set_option maxRecDepth 100000 in
theorem lifted (os : Os) (started : os.Started) (H : Type) (enc : TypeId × Value → H) (F : Stop.Interp) :
    ReturnsInHanded {} Tryz.checked os 3 .any ((Rows.OpenSpec.upto Rows.fnDefaultsSpec).preRow enc Tryz.prog Tryz.f3 Rows.fnDefaultsUptoRow.domain false Rows.fnDefaultsUptoRow.laid) (((Rows.OpenSpec.upto Rows.fnDefaultsSpec).at F).post enc Tryz.prog Tryz.f3 false true false false) := by
  obtain ⟨places, hx⟩ := reads os enc
  refine returnsInHanded_of_row (C := Tryz.checked) (s := Rows.OpenSpec.upto Rows.fnDefaultsSpec) own started (by kernel_rfl) Tryz.func3
    (witness_row_atRef (enc := enc) (C := Tryz.checked) false (laidWorld os) wArgs rfl (by kernel_rfl) (by kernel_rfl) (by kernel_rfl)
      (OpenSpec.preRow_of_cond 8 hx (by kernel_rfl) (fun k hk => by cases hk; kernel_rfl) (by kernel_rfl) (laid_met os))) ?_
  intro W base args ds gs before hval hW _ hcond _ hL hsh _
  exact contract H enc F W base args ds gs before hval hW (hcond _ rfl) hL hsh
theorem saidUpto : Rows.FnDefaultsUptoSaid :=
  OpenClaim.holds_of_cond 3 Tryz.f3 rfl rfl rfl rfl rfl rfl rfl ⟨rfl, rfl, rfl, rfl, rfl⟩ rfl rfl rfl rfl rfl (by kernel_rfl) Tryz.func3 (by kernel_rfl)
    (of_decide_eq_true (by kernel_rfl)) (by unfold Func.isWrapper; first | (rw [if_pos (by decide +kernel)]; kernel_rfl) | (rw [if_neg (by decide +kernel)]; exact ⟨rfl, rfl⟩))
    (fun os started H enc _ F => by rw [OpenClaim.pre_eq_preRow]; exact lifted os started H enc F)
theorem plain (f : FuncId) (fn : Func) (hf : Tryz.pinned.checked.prog.funcNamed "lib-commaleaf/laws.FnDefaults" = some f) (hfn : Tryz.pinned.checked.prog.funcs[f]? = some fn) :
    true = Tryz.pinned.checked.prog.looks [] ∧ ∀ (j : Nat) t, fn.params[j]? = some t → Tryz.pinned.checked.prog.wantsStandIn t = false := by
  obtain rfl : f = 3 := Option.some.inj ((show Tryz.prog.funcNamed "lib-commaleaf/laws.FnDefaults" = some 3 by kernel_rfl).symm.trans hf) |>.symm
  obtain rfl : fn = Tryz.f3 := (Option.some.inj (Tryz.func3.symm.trans hfn)).symm
  refine ⟨by kernel_rfl, fun j t ht => ?_⟩
  rw [Tryz.params3] at ht
  have hm := Array.mem_of_getElem? ht
  have hd : t = 24 ∨ t = 26 ∨ t = 27 := by simpa using hm
  rcases hd with rfl | rfl | rfl
  · exact (show Tryz.prog.wantsStandIn 24 = false by kernel_rfl)
  · exact (show Tryz.prog.wantsStandIn 26 = false by kernel_rfl)
  · exact (show Tryz.prog.wantsStandIn 27 = false by kernel_rfl)
end fnDefaults
/-- FnDefaults holds for every input of bulk at most 2^20. -/
theorem FnDefaults_card : Rows.FnDefaultsUptoCardSaid :=
  Claim7.holds_tied_plain_at .later [] _ _ _ _ fnDefaults.saidUpto (fun _ h => by cases h) (by kernel_rfl) (fun _ h => by cases h) fnDefaultsUpto_row_tie rfl ⟨rfl, rfl⟩ (by kernel_rfl) rfl fnDefaults.plain (by kernel_rfl)
end Go.Proofs.YtfadgnopfjajbaaGreatDoor
